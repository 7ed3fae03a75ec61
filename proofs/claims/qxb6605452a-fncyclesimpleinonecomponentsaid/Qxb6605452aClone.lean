import Derived.Test.Qxb6605452aPre
import Derived.Deep.OwnRows
namespace Go.Proofs.Qxb6605452a
open Go.RowKit

/-- A bool comes back; where it is true the thing holds. -/
def SayE (e : Ending) (p : Prop) : Prop := ∃ b : Bool, e = .returned (.bool b) ∧ (b = true → p)
theorem SayE.no {v : Value} {p : Prop} (h : v = .bool false) : SayE (.returned v) p := ⟨false, by rw [h], fun h => by cases h⟩
theorem SayE.yes {v : Value} {p : Prop} (h : v = .bool true) (hp : p) : SayE (.returned v) p := ⟨true, by rw [h], fun _ => hp⟩

def InRng (n : Nat) (l : List Int) : Prop := ∀ x ∈ l, 0 ≤ x ∧ x < n

set_option maxHeartbeats 800000 in
theorem inRange_any (ts : List Int) (out : List (List Int)) (vt vo : Value) (w : World) (ht : Row w vt (zV ts)) (ho : RowsZ w vo out) (h1 : ts.length ≤ 1048576) (hL : ∀ l ∈ out, l.length ≤ 1048576) :
    Calls Try.prog 9 #[vt, vo] w fun e w' => SayE e (out.length = ts.length ∧ ∀ l ∈ out, InRng ts.length l) ∧ w' = w := by
  have HO := hide ho
  have HL := hide hL
  obtain ⟨at', ct, rfl, ht1, ht2, _⟩ := ht
  obtain ⟨ao, co, rfl, ho1, ho2, _⟩ := ho
  rw [zV_length] at *
  unfold maxLen at ht2 ho2
  clear hL
  go_enter Try.func9, Try.ntmps9
  by_cases hn : out.length = ts.length
  · go_wp2_with fail
    go_loop [6] (fun i => ∃ (k : Nat), k ≤ ts.length ∧ Hid (∀ l ∈ out.take k, InRng ts.length l) ∧ i = .int .i64 k) (fun i => ts.length - (intOf i).toNat)
    case atStart => exact ⟨0, by omega, (fun l h => by simp at h), rfl⟩
    case round =>
      obtain ⟨k, hk, HN, rfl⟩ := hrel
      by_cases hlt : k < ts.length
      · obtain ⟨l, hl⟩ : ∃ l, out[k]? = some l := ⟨_, List.getElem?_eq_getElem (by omega)⟩
        obtain ⟨b, o, ar, cr, hab, hc, hr⟩ := HO.out.at hl
        have hll := HL.out l (List.mem_of_getElem? hl)
        have HR := hide hr
        have HLL := hide hl
        subst hab
        clear hl hr
        go_wp2_with fail
        go_loop [25] (fun i => ∃ (j : Nat), j ≤ l.length ∧ Hid (InRng ts.length (l.take j)) ∧ i = .int .i64 j) (fun i => l.length - (intOf i).toNat)
        case atStart => exact ⟨0, by omega, (fun l h => by simp at h), rfl⟩
        case round =>
          obtain ⟨j, hj, HJ, rfl⟩ := hrel
          by_cases hjl : j < l.length
          · obtain ⟨x, hx⟩ : ∃ x, l[j]? = some x := ⟨_, List.getElem?_eq_getElem hjl⟩
            obtain ⟨bx, ox, hab, hcx⟩ := HR.out.atZ hx
            have HX := hide hx
            subst hab
            clear hx
            by_cases hx0 : 0 ≤ x
            · by_cases hx1 : x < (ts.length : Int)
              · go_wp2_with fail
                go_round
                case rel =>
                  refine ⟨j + 1, by omega, ?_, by go_num⟩
                  intro y hy
                  rw [List.take_add_one, HX.out] at hy
                  rcases List.mem_append.1 hy with hy | hy
                  · exact HJ.out y hy
                  · simp at hy; subst hy; exact ⟨hx0, hx1⟩
                case measure => simp [intOf]; omega
              · go_wp2_with fail
                go_ret
                exact ⟨SayE.no rfl, rfl⟩
            · go_wp2_with fail
              go_ret
              exact ⟨SayE.no rfl, rfl⟩
          · have hje : j = l.length := by omega
            subst hje
            go_wp2_with fail
            go_round
            case rel =>
              refine ⟨k + 1, by omega, ?_, by go_num⟩
              intro y hy
              rw [List.take_add_one, HLL.out] at hy
              rcases List.mem_append.1 hy with hy | hy
              · exact HN.out y hy
              · simp at hy; subst hy
                have := HJ.out
                rw [List.take_length] at this
                exact this
            case measure => simp [intOf]; omega
      · have hke : k = ts.length := by omega
        subst hke
        go_wp2_with fail
        go_ret
        refine ⟨SayE.yes rfl ?_, rfl⟩
        have := HN.out
        rw [← hn, List.take_length] at this
        rw [← hn]
        exact this
  · have hn' : ((out.length : Int) != (ts.length : Int)) = true := by simp; omega
    go_wp2_with fail
    go_ret
    exact ⟨SayE.no rfl, rfl⟩

theorem Try.info22 : (Try.prog.info? 22).map (fun i => (i.zero, i.size, i.bytes)) = some (some (.slice none 0 0), 1, 24) := by kernel_rfl

theorem own_made (w : World) (z : Value) (n e : Nat) (hn : n ≤ maxLen) : (w.alloc (.cells (madeCells #[z] n) e)).ownsRow w.heap.size e 1 (.slice (some ⟨w.heap.size, 0, none⟩) n n) n (List.replicate n z) := by
  have hs : (madeCells #[z] n).size = n * 1 := by simp [madeCells]
  have h := World.ownsRow_lit (base := w.heap.size) (e := e) (size := 1) w (madeCells #[z] n) n (Nat.le_refl _) hn hs
  have e1 : (madeCells #[z] n).toList = List.replicate n z := by
    apply List.ext_getElem?
    intro j
    by_cases hj : j < n
    · rw [List.getElem?_replicate, if_pos hj]
      simp [madeCells, hj, Nat.mod_one]
    · rw [List.getElem?_eq_none (by simp [madeCells]; omega), List.getElem?_eq_none (by simp; omega)]
  rw [e1] at h
  exact h

/-- The copy lies in new memory. -/
def CopyE (w : World) (e : Ending) (w' : World) (l : List Int) : Prop :=
  ∃ a c, e = .returned (.slice a l.length c) ∧ w'.ownsRow w.heap.size 3 1 (.slice a l.length c) l.length (zV l) ∧ Below w.heap.size w w'

theorem eql_nil22 (w : World) (a : Option Addr) (n c n' c' : Nat) : (binOp .eql 22 (.slice a n c) (.slice none n' c')).run Try.prog w = .ok (.bool a.isNone) w := Lib.run_eql_slice_nil w _ _ a n c n' c' Try.underlying22
theorem eql_nil23 (w : World) (a : Option Addr) (n c n' c' : Nat) : (binOp .eql 23 (.slice a n c) (.slice none n' c')).run Try.prog w = .ok (.bool a.isNone) w := Lib.run_eql_slice_nil w _ _ a n c n' c' Try.underlying23

set_option maxHeartbeats 400000 in
theorem cloneInts_any (l : List Int) (v : Value) (w : World) (h : Row w v (zV l)) (hl : l.length ≤ 1048576) :
    Calls Try.prog 10 #[v] w fun e w' => CopyE w e w' l := by
  have h0 := h
  obtain ⟨a, c, rfl, h1, h2, h3, h4⟩ := h
  have q22 := eql_nil22
  have m22 := fun kl kc => run_make_row' (P := Try.prog) 22 3 (.int .i64 0) 8 Try.underlying22 Try.info3 rfl kl kc l.length (by omega) (by omega)
  rw [zV_length] at *
  have H0 := hide h0
  clear h4 h0
  cases a with
  | none =>
    have hn := H0.out.none_nil
    have hl0 : l = [] := by simpa [zV] using hn
    subst hl0
    go_enter Try.func10, Try.ntmps10
    go_wp2_with fail
    go_ret
    exact ⟨none, 0, rfl, World.ownsRow_nil _ _ _ _, Below.refl _ _⟩
  | some ad =>
    go_enter Try.func10, Try.ntmps10
    go_wp2_with fail
    have HO := hide (own_made w (.int .i64 0) l.length 3 (by unfold maxLen; omega))
    go_loopw [4] (fun i wr => ∃ k : Nat, k ≤ l.length ∧ i = .int .i64 k ∧ Hid (wr.ownsRow w.heap.size 3 1 (.slice (some ⟨w.heap.size, 0, none⟩) l.length l.length) l.length (Copied (zV l) k (.int .i64 0))) ∧ Hid (Below w.heap.size w wr)) (fun i _ => l.length - (intOf i).toNat)
    case atStart =>
      refine ⟨0, Nat.zero_le _, rfl, ?_, (Below.refl _ _).alloc (Nat.le_refl _) _⟩
      rw [copied_zero, zV_length]
      exact HO
    case round =>
      obtain ⟨k, hk, rfl, hO, hB⟩ := hrel
      by_cases hlt : k < l.length
      · obtain ⟨x, hx⟩ : ∃ x, l[k]? = some x := ⟨_, List.getElem?_eq_getElem hlt⟩
        have HX := hide hx
        obtain ⟨b, o, hab, hc⟩ := H0.out.atZ hx
        simp only [Option.some.injEq] at hab
        subst hab
        have hcr := cell_later hB.out hc
        obtain ⟨u, hu⟩ : ∃ u, wr.cell? ⟨w.heap.size, k, none⟩ = some u := by
          rw [hO.out.cellAt k (by omega)]
          exact ⟨_, List.getElem?_eq_getElem (by have := hO.out.1; omega)⟩
        have hf : wr.frozen? ⟨w.heap.size, k, none⟩ = false := hO.out.frozenAt _
        have hlt' : (k : Int) < (l.length : Int) := by omega
        clear hx hc
        go_wp2_with fail
        go_roundw
        case rel =>
          refine ⟨k + 1, by omega, by go_num, ?_, ?_⟩
          · have h5 := (hO.out.stored k (.int .i64 x)).1
            rw [copied_step _ _ _ _ (zV_get HX.out)] at h5
            exact h5
          · exact hB.out.setCell (Nat.le_refl _) _
        case measure => simp [intOf]; omega
      · have hk' : k = l.length := by omega
        subst hk'
        go_wp2_with fail
        go_ret
        have h5 := hO.out
        rw [← zV_length l, copied_full, zV_length] at h5
        exact ⟨_, _, rfl, h5, hB.out⟩
end Go.Proofs.Qxb6605452a
