import Derived.Test.Qxb6605452aTurnWalk
import Derived.BigQuiet
namespace Go.Proofs.Qxb6605452a
open Go.RowKit

theorem Row.tabAt {w : World} {a : Option Addr} {m c n : Nat} {f : Nat → Nat} (h : Row w (.slice a m c) (tabI n f)) {k : Nat} (hk : k < n) : ∃ b o, a = some ⟨b, o, none⟩ ∧ w.cell? ⟨b, o + k, none⟩ = some (.int .i64 (f k : Int)) := by
  obtain ⟨a', c', hv, h1, h2, h3, h4⟩ := h
  simp only [Value.slice.injEq] at hv
  obtain ⟨rfl, rfl, rfl⟩ := hv
  exact h4 k _ (tabI_get _ hk)

/-- The table of counts over the first k nodes. -/
def cntT (f : Nat → Nat) (k c : Nat) : Nat := cntB k (fun x => f x == c)
theorem cntT_step (f : Nat → Nat) (k : Nat) : upd (cntT f k) (f k) (cntT f k (f k) + 1) = cntT f (k + 1) := by
  funext c
  unfold upd cntT
  by_cases h : c = f k
  · subst h; simp [cntB]
  · have : (f k == c) = false := by simp; omega
    simp [h, cntB, this]

set_option maxHeartbeats 1000000 in
set_option maxRecDepth 100000 in
theorem wellFormed_any {out : List (List Nat)} {f : Nat → Nat} {size : List Nat} (hC : Comps out f size) (vc vz : Value) (w : World) (hc : Row w vc (tabI out.length f)) (hz : Row w vz (intsV size)) (hn : out.length ≤ 4096) :
    Calls Try.prog 18 #[vc, vz, .int .i64 (out.length : Int)] w fun e w' => e = .returned (.bool true) ∧ Below w.heap.size w w' := by
  have hle := hC.len_le
  have m22 := fun kl kc => run_make_row' (P := Try.prog) 22 3 (.int .i64 0) 8 Try.underlying22 Try.info3 rfl kl kc size.length (by omega) (by omega)
  have HC := hide hC
  have HF := hide hc
  have HZ := hide hz
  obtain ⟨ac, cc, rfl, _, _⟩ := hc
  obtain ⟨az, cz, rfl, _, _⟩ := hz
  rw [tabI_length] at *
  rw [intsV_length] at *
  clear hC
  have hnn : ((out.length : Int) != (out.length : Int)) = false := by simp
  have M0 : Hid ((w.alloc (.cells (madeCells #[.int .i64 0] size.length) 3)).ownsRow w.heap.size 3 1 (.slice (some ⟨w.heap.size, 0, none⟩) size.length size.length) size.length (tabI size.length (cntT f 0))) := by
    have h1 := own_made w (.int .i64 0) size.length 3 (by unfold maxLen; omega)
    have e : List.replicate size.length (Value.int .i64 0) = tabI size.length (cntT f 0) := by
      apply List.ext_getElem?
      intro j
      by_cases hj : j < size.length
      · rw [tabI_get _ hj, List.getElem?_replicate, if_pos hj]; rfl
      · rw [List.getElem?_eq_none (by simp; omega), List.getElem?_eq_none (by rw [tabI_length]; omega)]
    rw [e] at h1
    exact h1
  go_enter Try.func18, Try.ntmps18
  go_wp2_with fail
  rw [show decide (out.length < size.length) = false by simp; omega]
  go_loopw [6, 8] (fun rv kv wr => ∃ k : Nat, k ≤ out.length ∧ rv = .bool false ∧ kv = .int .i64 k ∧ Hid (wr.ownsRow w.heap.size 3 1 (.slice (some ⟨w.heap.size, 0, none⟩) size.length size.length) size.length (tabI size.length (cntT f k)) ∧ Below w.heap.size w wr)) (fun _ kv _ => out.length - (intOf kv).toNat)
  case atStart => exact ⟨0, by omega, rfl, rfl, M0.out, (Below.refl _ _).alloc (Nat.le_refl _) _⟩
  case round =>
    clear M0 m22
    obtain ⟨k, hk, rfl, rfl, HJ⟩ := hrel
    obtain ⟨hO, hB⟩ := HJ.out
    by_cases hlt : k < out.length
    · obtain ⟨b, o, hab, c0⟩ := HF.out.tabAt hlt
      subst hab
      have c1 := cell_later hB c0
      have hfk := HC.out.lt k hlt
      have c2 : wr.cell? ⟨w.heap.size, f k, none⟩ = some (.int .i64 (cntT f k (f k) : Int)) := by rw [hO.cellAt _ (by omega)]; exact tabI_get _ hfk
      have f2 : wr.frozen? ⟨w.heap.size, f k, none⟩ = false := hO.frozenAt _
      have hcl : cntT f k (f k) ≤ k := cntB_le _ _
      have hfk' : (f k : Int) < (size.length : Int) := by omega
      have hlt' : (k : Int) < (out.length : Int) := by omega
      have h5 := (hO.stored (f k) (.int .i64 ((cntT f k (f k) + 1 : Nat) : Int))).1
      rw [tabI_set, cntT_step] at h5
      simp only [Int.natCast_add, Int.natCast_one] at h5
      have H5 := hide h5
      have HB := hide hB
      clear hO hB c0 h5
      go_wp2_with fail
      go_roundw
      case rel => exact ⟨k + 1, by omega, rfl, by go_num, H5.out, HB.out.setCell (Nat.le_refl _) _⟩
      case measure => simp [intOf]; omega
    · have hke : k = out.length := by omega
      subst hke
      clear hO hB
      go_wp2_with fail
      go_loopw [6, 10] (fun rv kv wc => ∃ k : Nat, k ≤ size.length ∧ rv = .bool false ∧ kv = .int .i64 k ∧ Hid (wc.ownsRow w.heap.size 3 1 (.slice (some ⟨w.heap.size, 0, none⟩) size.length size.length) size.length (tabI size.length (cntT f out.length)) ∧ Below w.heap.size w wc)) (fun _ kv _ => size.length - (intOf kv).toNat)
      case atStart => exact ⟨0, by omega, rfl, rfl, HJ.out⟩
      case round =>
        clear HJ
        obtain ⟨k, hk, rfl, rfl, HJ⟩ := hrel
        obtain ⟨hO, hB⟩ := HJ.out
        by_cases hlt : k < size.length
        · obtain ⟨m, hm⟩ : ∃ m, size[k]? = some m := ⟨_, List.getElem?_eq_getElem hlt⟩
          obtain ⟨hm0, hm1⟩ := HC.out.cnt k m hm
          obtain ⟨b, o, hab, c0⟩ := HZ.out.atI hm
          subst hab
          have c1 := cell_later hB c0
          have c2 : wr.cell? ⟨w.heap.size, k, none⟩ = some (.int .i64 (m : Int)) := by rw [hO.cellAt _ (by omega), hm1]; exact tabI_get _ hlt
          have hlt' : (k : Int) < (size.length : Int) := by omega
          have hd1 : ((m : Int) == 0) = false := by simp; omega
          have hd2 : ((m : Int) != (m : Int)) = false := by simp
          clear hO hB c0 hm hm1
          go_wp2_with fail
          go_quiet (fail)
          go_wp2_with fail
          go_roundw
          case rel => exact ⟨k + 1, by omega, rfl, by go_num, HJ.out.1, ⟨HJ.out.2.os, HJ.out.2.tape, HJ.out.2.output, HJ.out.2.size, HJ.out.2.block⟩⟩
          case measure => simp [intOf]; omega
        · have hke : k = size.length := by omega
          subst hke
          clear hO hB
          go_wp2_with fail
          go_ret
          exact ⟨rfl, HJ.out.2⟩
end Go.Proofs.Qxb6605452a
