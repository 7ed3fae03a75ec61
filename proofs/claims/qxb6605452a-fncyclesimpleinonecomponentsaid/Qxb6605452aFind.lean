import Derived.Test.Qxb6605452aPre
import Derived.Test.Qxb6605452aClone
import Derived.Test.Qxb6605452aReachMem
import Derived.BigQuiet
namespace Go.Proofs.Qxb6605452a
open Go.RowKit

/-- The numbers rise. -/
def Rises (ts : List Int) : Prop := ∀ (i j : Nat) (x y : Int), i < j → ts[i]? = some x → ts[j]? = some y → x < y
theorem rises_of {ts : List Int} (h : ∀ i x y, ts[i]? = some x → ts[i + 1]? = some y → x < y) : Rises ts := by
  intro i j x y hij hx hy
  obtain ⟨d, rfl⟩ : ∃ d, j = i + 1 + d := ⟨j - (i + 1), by omega⟩
  induction d generalizing y with
  | zero => exact h i x y hx hy
  | succ d ih =>
    have hl := (List.getElem?_eq_some_iff.1 hy).1
    obtain ⟨z, hz⟩ : ∃ z, ts[i + 1 + d]? = some z := ⟨_, List.getElem?_eq_getElem (by omega)⟩
    have h1 := ih z (by omega) hz
    have h2 := h (i + 1 + d) z y hz (by rw [show i + 1 + d + 1 = i + 1 + (d + 1) by omega]; exact hy)
    omega

set_option maxHeartbeats 1000000 in
theorem increasing_any (ts : List Int) (vt : Value) (w : World) (ht : Row w vt (zV ts)) (hl : ts.length ≤ 1048576) :
    Calls Try.prog 24 #[vt] w fun e w' => SayE e (Rises ts) ∧ Below w.heap.size w w' := by
  have HT := hide ht
  obtain ⟨at', ct, rfl, _, _, _⟩ := ht
  rw [zV_length] at *
  go_enter Try.func24, Try.ntmps24
  go_wp2_with fail
  go_loopw [2, 3] (fun rv kv wr => ∃ k : Nat, rv = .bool false ∧ kv = .int .i64 ((k : Int) + 1) ∧ k ≤ ts.length ∧ Hid ((∀ i x y, i < k → ts[i]? = some x → ts[i + 1]? = some y → x < y) ∧ Below w.heap.size w wr)) (fun _ kv _ => ts.length + 1 - (intOf kv).toNat)
  case atStart => exact ⟨0, rfl, rfl, by omega, (fun i x y hi => by omega), Below.refl _ _⟩
  case round =>
    obtain ⟨k, rfl, rfl, hk, HJ⟩ := hrel
    obtain ⟨h1, h2⟩ := HJ.out
    by_cases hlt : k + 1 < ts.length
    · obtain ⟨x, hx⟩ : ∃ x, ts[k]? = some x := ⟨_, List.getElem?_eq_getElem (by omega)⟩
      obtain ⟨y, hy⟩ : ∃ y, ts[k + 1]? = some y := ⟨_, List.getElem?_eq_getElem hlt⟩
      obtain ⟨b, o, hab, c1⟩ := HT.out.atZ hx
      obtain ⟨b', o', hab', c2⟩ := HT.out.atZ hy
      subst hab
      simp only [Option.some.injEq, Addr.mk.injEq, and_true] at hab'
      obtain ⟨rfl, rfl⟩ := hab'
      have c1 := cell_later h2 c1
      have c2 := cell_later h2 c2
      have hlt' : (k : Int) + 1 < (ts.length : Int) := by omega
      have HX := hide (And.intro hx hy)
      clear h1 h2 hx hy
      by_cases hxy : x < y
      · have hd : decide (y ≤ x) = false := by simp; omega
        go_wp2_with fail
        go_quiet (fail)
        go_wp2_with fail
        go_roundw
        case rel =>
          refine ⟨k + 1, rfl, by go_num, by omega, fun i x' y' hi hx' hy' => ?_, ⟨HJ.out.2.os, HJ.out.2.tape, HJ.out.2.output, HJ.out.2.size, HJ.out.2.block⟩⟩
          by_cases e : i = k
          · subst e
            obtain ⟨g1, g2⟩ := HX.out
            rw [hx'] at g1
            rw [hy'] at g2
            simp at g1 g2
            omega
          · exact HJ.out.1 i x' y' (by omega) hx' hy'
        case measure => simp [intOf]; omega
      · have hd : decide (y ≤ x) = true := by simp; omega
        go_wp2_with fail
        go_quiet (fail)
        go_wp2_with fail
        go_ret
        exact ⟨SayE.no rfl, ⟨HJ.out.2.os, HJ.out.2.tape, HJ.out.2.output, HJ.out.2.size, HJ.out.2.block⟩⟩
    · have hd : decide ((k : Int) + 1 < (ts.length : Int)) = false := by simp; omega
      clear h1 h2
      go_wp2_with fail
      go_ret
      refine ⟨SayE.yes rfl (rises_of fun i x y hx hy => ?_), HJ.out.2⟩
      have := (List.getElem?_eq_some_iff.1 hy).1
      exact HJ.out.1 i x y (by omega) hx hy

set_option maxHeartbeats 1000000 in
/-- The place of one of the numbers. -/
theorem find_any (ts : List Int) (k : Nat) (x : Int) (vt : Value) (w : World) (ht : Row w vt (zV ts)) (hl : ts.length ≤ 1048576) (hr : Rises ts) (hk : ts[k]? = some x) :
    Calls Try.prog 25 #[vt, .int .i64 x] w fun e w' => e = .returned (.int .i64 (k : Int)) ∧ w' = w := by
  have HT := hide ht
  have HR := hide hr
  have HK := hide hk
  have hkl := (List.getElem?_eq_some_iff.1 hk).1
  obtain ⟨at', ct, rfl, _, _, _⟩ := ht
  rw [zV_length] at *
  clear hr hk
  go_enter Try.func25, Try.ntmps25
  go_wp2_with fail
  go_loopw [5, 6] (fun lv hv wr => ∃ lo hi : Nat, lo ≤ k ∧ k ≤ hi ∧ hi ≤ ts.length ∧ lv = .int .i64 lo ∧ hv = .int .i64 hi ∧ wr = w) (fun lv hv _ => (intOf hv).toNat - (intOf lv).toNat)
  case atStart => exact ⟨0, ts.length, by omega, by omega, by omega, rfl, rfl, rfl⟩
  case round =>
    obtain ⟨lo, hi, h1, h2, h3, rfl, rfl, hw⟩ := hrel
    obtain rfl := hw.symm
    by_cases hlt : lo < hi
    · obtain ⟨D, hD⟩ : ∃ D : Nat, D = (hi - lo) / 2 := ⟨_, rfl⟩
      have hq : Int.tdiv ((hi : Int) - (lo : Int)) 2 = (D : Int) := by
        have e : (hi : Int) - (lo : Int) = ((hi - lo : Nat) : Int) := by omega
        rw [e, hD]
        rfl
      have hlt' : (lo : Int) < (hi : Int) := by omega
      obtain ⟨y, hy⟩ : ∃ y, ts[lo + D]? = some y := ⟨_, List.getElem?_eq_getElem (by omega)⟩
      obtain ⟨b, o, hab, c1⟩ := HT.out.atZ hy
      subst hab
      have hDb : D < hi - lo := by omega
      have HY := hide hy
      have HD := hide hD
      clear hy hD
      by_cases hyx : y < x
      · have hm : lo + D < k := by
          apply Decidable.byContradiction
          intro hn
          by_cases e : lo + D = k
          · have h4 := HY.out
            rw [e, HK.out] at h4
            simp at h4
            omega
          · have := HR.out k (lo + D) x y (by omega) HK.out HY.out
            omega
        go_wp2_with fail
        go_roundw
        case rel => exact ⟨lo + D + 1, hi, by omega, h2, h3, by go_num, rfl, (by first | trivial | rfl)⟩
        case measure => simp [intOf]; omega
      · have hd : decide (y < x) = false := by simpa using hyx
        have hm : k ≤ lo + D := by
          apply Decidable.byContradiction
          intro hn
          have := HR.out (lo + D) k y x (by omega) HY.out HK.out
          omega
        go_wp2_with fail
        go_roundw
        case rel => exact ⟨lo, lo + D, h1, hm, by omega, rfl, by go_num, (by first | trivial | rfl)⟩
        case measure => simp [intOf]; omega
    · have hd : decide ((lo : Int) < (hi : Int)) = false := by simp; omega
      have e : lo = k := by omega
      subst e
      obtain ⟨b, o, hab, c1⟩ := HT.out.atZ HK.out
      subst hab
      have hlt' : (lo : Int) < (ts.length : Int) := by omega
      have hxx : (x == x) = true := by simp
      go_wp2_with fail
      go_ret
      simp

set_option maxHeartbeats 1000000 in
theorem hasEdge_any (l : List Nat) (x : Nat) (v : Value) (w : World) (h : Row w v (intsV l)) (hl : l.length ≤ 1048576) (hx : x ∈ l) :
    Calls Try.prog 26 #[v, .int .i64 (x : Int)] w fun e w' => e = .returned (.bool true) ∧ w' = w := by
  have H := hide h
  obtain ⟨a, c, rfl, _, _, _⟩ := h
  rw [intsV_length] at *
  have HX := hide hx
  clear hx
  go_enter Try.func26, Try.ntmps26
  go_wp2_with fail
  go_loopw [4, 5] (fun rv kv wr => ∃ k : Nat, k ≤ l.length ∧ rv = .bool false ∧ kv = .int .i64 k ∧ wr = w ∧ Hid (x ∉ l.take k)) (fun _ kv _ => l.length - (intOf kv).toNat)
  case atStart => exact ⟨0, by omega, rfl, rfl, rfl, by simp [Hid]⟩
  case round =>
    obtain ⟨k, hk, rfl, rfl, hw, HJ⟩ := hrel
    obtain rfl := hw.symm
    by_cases hlt : k < l.length
    · obtain ⟨y, hy⟩ : ∃ y, l[k]? = some y := ⟨_, List.getElem?_eq_getElem hlt⟩
      obtain ⟨b, o, hab, c1⟩ := H.out.atI hy
      subst hab
      have hlt' : (k : Int) < (l.length : Int) := by omega
      have HY := hide hy
      clear hy
      by_cases hxy : y = x
      · subst hxy
        have hd : ((y : Int) == (y : Int)) = true := by simp
        go_wp2_with fail
        go_ret
        simp
      · have hd : ((y : Int) == (x : Int)) = false := by simp; omega
        go_wp2_with fail
        go_roundw
        case rel => exact ⟨k + 1, by omega, rfl, by go_num, (by first | trivial | rfl), fun hm => by
          rcases take_succ_mem HY.out hm with h5 | h5
          · exact HJ.out h5
          · exact hxy h5.symm⟩
        case measure => simp [intOf]; omega
    · exfalso
      have := HJ.out
      rw [List.take_of_length_le (by omega)] at this
      exact this HX.out
end Go.Proofs.Qxb6605452a
