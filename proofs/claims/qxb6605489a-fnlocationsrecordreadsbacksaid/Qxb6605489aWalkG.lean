import Derived.Test.Qxb6605489aWalkF
namespace Go.Proofs.Qxb6605489a
open Go.RowKit

/-- What locationsSize answers. -/
def lsize (ss : List ByteArray) (ps : List (ByteArray × ByteArray)) : Nat := 3 + nsize ss + if ps.length = 0 then 0 else 2 + (2 * ps.length + tot2 ps)
def IntB (e : Ending) (n : Nat) (w w' : World) : Prop := e = .returned (.int .i64 (n : Int)) ∧ Below w.heap.size w w'
theorem IntB.mk {v : Value} {m : Int} {n : Nat} {w w' : World} (h : v = .int .i64 m) (hm : m = (n : Int)) (hb : Below w.heap.size w w') : IntB (.returned v) n w w' := ⟨by rw [h, hm], hb⟩

set_option maxHeartbeats 1000000 in
set_option maxRecDepth 100000 in
theorem locationsSize_any (ss : List ByteArray) (ps : List (ByteArray × ByteArray)) (v v2 : Value) (eb : Bool) (w : World) (h : Row w v (S ss)) (h2 : Row2 w v2 ps) (hsum : ss.length + tot ss + ps.length + tot2 ps ≤ 1048576) :
    Calls Try.prog 21 #[.agg #[v, v2, .bool eb]] w fun e w' => IntB e (lsize ss ps) w w' := by
  have H := hide h
  obtain ⟨a, c, rfl, hl, hm⟩ := h.openS
  have H2 := hide h2
  obtain ⟨a2, c2, rfl, hl2, hm2⟩ := h2.open2
  clear h h2
  unfold maxLen at hm hm2
  have hns : nsize ss ≤ 1048576 := by unfold nsize; omega
  have hb1 : Below w.heap.size w (w.alloc (.cells #[.slice a ss.length c, .slice a2 ps.length c2, .bool eb] 44)) := (Below.refl _ _).alloc (Nat.le_refl _) _
  have C := hide (namesSize_any ss _ _ (H.out.below hb1) (by omega))
  have B1 := hide hb1
  clear hb1
  go_enter Try.func21, Try.ntmps21
  go_wp2_with fail
  refine C.out.mono ?_
  rintro e w' ⟨rfl, hw⟩
  subst hw
  clear C
  by_cases hp : ps.length = 0
  · have hz : ((ps.length : Int) == 0) = true := by simp [hp]
    have hz' : ¬ (0 : Int) < (ps.length : Int) := by omega
    have HP := hide hp
    clear hp
    go_wp2_with fail
    go_ret
    exact IntB.mk rfl (by unfold lsize; rw [if_pos HP.out]; omega) B1.out
  · have hz' : (0 : Int) < (ps.length : Int) := by omega
    have HP := hide hp
    clear hp
    go_wp2_with fail
    go_loopw [3, 19] (fun t i wr => ∃ (k : Nat) (m : Int), k ≤ ps.length ∧ Hid (m = 3 + nsize ss + 2 + (2 * k + tot2 (ps.take k))) ∧ i = .int .i64 k ∧ t = .int .i64 m ∧ Hid (Below w.heap.size w wr)) (fun _ i _ => ps.length - (intOf i).toNat)
    case atStart => exact ⟨0, 3 + nsize ss + 2, by omega, by rw [tot2_zero]; exact (Int.add_zero _).symm, rfl, by go_num, B1⟩
    case round =>
      obtain ⟨k, m, hk, HM, rfl, rfl, Bw⟩ := hrel
      have hmm : 0 ≤ m ∧ m ≤ 4194304 := by
        have h5 := HM.out
        have h6 := tot2_take_le ps k
        omega
      obtain ⟨hm0, hm1⟩ := hmm
      by_cases hlt : k < ps.length
      · obtain ⟨⟨x, y⟩, hx⟩ : ∃ x, ps[k]? = some x := ⟨_, List.getElem?_eq_getElem hlt⟩
        have HM' := hide (tot2_take ps k (x, y) hx)
        have hxs : x.size + y.size ≤ 1048576 := by have := tot2_take_le ps (k + 1); rw [HM'.out] at this; simp only at this; omega
        obtain ⟨b, o, hab, hc, hc'⟩ := (H2.out.below Bw.out).at2 hx
        subst hab
        simp only at hc hc'
        clear hx
        go_wp2_with fail
        go_roundw
        case rel => exact ⟨k + 1, m + (2 + x.size + y.size), by omega, by rw [HM'.out]; have := HM.out; show _ = _; simp only; omega, by go_num, by go_num, Bw.out.alloc Bw.out.size _⟩
        case measure => simp [intOf]; omega
      · go_wp2_with fail
        go_ret
        have hk' : k = ps.length := by omega
        subst hk'
        have h5 := HM.out
        rw [List.take_length] at h5
        exact IntB.mk rfl (by unfold lsize; rw [if_neg HP.out]; omega) Bw.out

set_option maxHeartbeats 400000 in
theorem ZZlocationsSize_any (ss : List ByteArray) (ps : List (ByteArray × ByteArray)) (v v2 : Value) (eb : Bool) (w : World) (h : Row w v (S ss)) (h2 : Row2 w v2 ps) (hsum : ss.length + tot ss + ps.length + tot2 ps ≤ 1048576) :
    Calls Try.prog 18 #[.agg #[v, v2, .bool eb]] w fun e w' => IntB e (lsize ss ps) w w' := by
  have hb1 : Below w.heap.size w (w.alloc (.cells #[v, v2, .bool eb] 44)) := (Below.refl _ _).alloc (Nat.le_refl _) _
  have C := hide (locationsSize_any ss ps v v2 eb _ (h.below hb1) (h2.below hb1) hsum)
  have B1 := hide hb1
  have H := hide h
  have H2 := hide h2
  obtain ⟨a, c, rfl, hl, hm⟩ := h.openS
  obtain ⟨a2, c2, rfl, hl2, hm2⟩ := h2.open2
  clear h h2 hb1
  go_enter Try.func18, Try.ntmps18
  go_wp2_with fail
  refine C.out.mono ?_
  rintro e w' ⟨rfl, hb⟩
  have Bz := hide (B1.out.trans (hb.mono (by simp)))
  clear hb
  go_wp2_with fail
  go_ret
  exact IntB.mk rfl rfl Bz.out
end Go.Proofs.Qxb6605489a
