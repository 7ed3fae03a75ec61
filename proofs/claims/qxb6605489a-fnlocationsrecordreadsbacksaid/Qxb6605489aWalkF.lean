import Derived.Test.Qxb6605489aWalkE
namespace Go.Proofs.Qxb6605489a
open Go.RowKit

theorem Try.info37 : (Try.prog.info? 37).map (fun i => (i.zero, i.size, i.bytes)) = some (some (.agg #[.string ⟨#[]⟩, .string ⟨#[]⟩]), 2, 32) := by kernel_rfl
theorem Try.info46 : (Try.prog.info? 46).map (fun i => (i.zero, i.size, i.bytes)) = some (some (.agg #[.string ⟨#[]⟩, .string ⟨#[]⟩]), 2, 32) := by kernel_rfl

def cells2 (ps : List (ByteArray × ByteArray)) : List Value := ps.flatMap fun p => [.string p.1, .string p.2]
theorem cells2_length (ps : List (ByteArray × ByteArray)) : (cells2 ps).length = ps.length * 2 := by
  induction ps with
  | nil => rfl
  | cons p r ih => simp only [cells2, List.flatMap_cons, List.length_append, List.length_cons, List.length_nil] at ih ⊢; omega
theorem cells2_fst (ps : List (ByteArray × ByteArray)) (k : Nat) (p : ByteArray × ByteArray) (hp : ps[k]? = some p) : (cells2 ps)[k * 2]? = some (.string p.1) ∧ (cells2 ps)[k * 2 + 1]? = some (.string p.2) := by
  induction ps generalizing k with
  | nil => simp at hp
  | cons q r ih =>
    cases k with
    | zero => simp at hp; subst hp; simp [cells2]
    | succ k =>
      simp at hp
      have h := ih k hp
      have e1 : (k + 1) * 2 = k * 2 + 1 + 1 := by omega
      simp only [cells2, List.flatMap_cons, e1] at h ⊢
      exact ⟨by simpa using h.1, by simpa using h.2⟩
theorem cells2_set (ps : List (ByteArray × ByteArray)) (k : Nat) (x y : ByteArray) : ((cells2 ps).set (k * 2) (.string x)).set (k * 2 + 1) (.string y) = cells2 (ps.set k (x, y)) := by
  induction ps generalizing k with
  | nil => simp [cells2]
  | cons q r ih =>
    cases k with
    | zero => simp [cells2]
    | succ k =>
      have h := ih k
      have e1 : (k + 1) * 2 = k * 2 + 1 + 1 := by omega
      simp only [cells2, List.flatMap_cons, e1, List.set_cons_succ] at h ⊢
      rw [← h]
      simp

theorem half_step {α : Type} (ps : List α) (k : Nat) (p z : α) (hp : ps[k]? = some p) :
    (ps.take k ++ List.replicate (ps.length - k) z).set k p = ps.take (k + 1) ++ List.replicate (ps.length - (k + 1)) z := by
  have h : k < ps.length := (List.getElem?_eq_some_iff.1 hp).1
  have hu' : ps[k] = p := (List.getElem?_eq_some_iff.1 hp).2
  subst hu'
  apply List.ext_getElem?
  intro j
  by_cases hj : j < ps.length
  · rcases Nat.lt_trichotomy j k with hl | hl | hl
    · rw [List.getElem?_set_ne (by omega), List.getElem?_append_left (by simp; omega), List.getElem?_append_left (by simp; omega), List.getElem?_take_of_lt hl, List.getElem?_take_of_lt (by omega)]
    · subst hl
      rw [List.getElem?_set_self (by simp; omega), List.getElem?_append_left (by simp; omega), List.getElem?_take_of_lt (by omega), List.getElem?_eq_getElem h]
    · rw [List.getElem?_set_ne (by omega), List.getElem?_append_right (by simp; omega), List.getElem?_append_right (by simp; omega)]
      rw [List.getElem?_replicate, List.getElem?_replicate, if_pos (by simp; omega), if_pos (by simp; omega)]
  · rw [List.getElem?_eq_none (by simp; omega), List.getElem?_eq_none (by simp; omega)]

theorem cells2_made (n : Nat) : cells2 (List.replicate n (⟨#[]⟩, ⟨#[]⟩)) = (madeCells #[Value.string ⟨#[]⟩, Value.string ⟨#[]⟩] (n * 2)).toList := by
  apply List.ext_getElem?
  intro j
  by_cases hj : j < n * 2
  · have h2 : (madeCells #[Value.string ⟨#[]⟩, Value.string ⟨#[]⟩] (n * 2)).toList[j]? = some (.string ⟨#[]⟩) := by
      rcases Nat.mod_two_eq_zero_or_one j with e | e <;> simp [madeCells, hj, e]
    rw [h2]
    have h1 := cells2_fst (List.replicate n ((⟨#[]⟩ : ByteArray), (⟨#[]⟩ : ByteArray))) (j / 2) (⟨#[]⟩, ⟨#[]⟩) (by rw [List.getElem?_replicate, if_pos (by omega)])
    rcases Nat.mod_two_eq_zero_or_one j with e | e
    · rw [← h1.1]; congr 1; omega
    · rw [← h1.2]; congr 1; omega
  · rw [List.getElem?_eq_none (by rw [cells2_length, List.length_replicate]; omega), List.getElem?_eq_none (by simp [madeCells]; omega)]

theorem Row2.of_owns {w : World} {base : Nat} {e : TypeId} {g n cap : Nat} {ps : List (ByteArray × ByteArray)} (h : w.ownsRow base e 2 (.slice (some ⟨g, 0, none⟩) n cap) n (cells2 ps)) : Row2 w (.slice (some ⟨g, 0, none⟩) n cap) ps := by
  have hl := h.1
  rw [cells2_length] at hl
  have hn : n = ps.length := by omega
  have hc : n ≤ cap ∧ cap ≤ maxLen := by
    rcases h.2 with ⟨h', _⟩ | ⟨g', cap', cur, h', _, _, h1, h2, _⟩
    · simp at h'
    · simp only [Value.slice.injEq, Option.some.injEq, Addr.mk.injEq, and_true, true_and] at h'
      obtain ⟨rfl, rfl⟩ := h'
      exact ⟨h1, h2⟩
  refine ⟨_, cap, by rw [hn], by omega, hc.2, (fun h => by cases h), fun i p hp => ⟨g, 0, rfl, ?_⟩⟩
  have hi := (List.getElem?_eq_some_iff.1 hp).1
  have h5 := cells2_fst ps i p hp
  rw [Nat.zero_add, h.cellAt (i * 2) (by omega), h.cellAt (i * 2 + 1) (by omega)]
  exact h5

set_option maxHeartbeats 400000 in
theorem cloneSubs_any (ps : List (ByteArray × ByteArray)) (v : Value) (w : World) (h : Row2 w v ps) (hz : ps.length ≤ 1048576) :
    Calls Try.prog 15 #[v] w fun e w' => ∃ v', e = .returned v' ∧ Row2 w' v' ps ∧ Below w.heap.size w w' := by
  have h0 := h
  obtain ⟨a, c, rfl, h1, h2, h3, h4⟩ := h
  have q33 : ∀ (w : World) (a : Option Addr) (n c n' c' : Nat), (binOp .eql 33 (.slice a n c) (.slice none n' c')).run Try.prog w = .ok (.bool a.isNone) w := fun w a n c n' c' => Lib.run_eql_slice_nil w _ _ a n c n' c' Try.underlying33
  obtain ⟨i0, hi, hz0, hz1, hz2⟩ := info_parts Try.info37
  have H4 := hide h4
  clear h4
  cases a with
  | none =>
    rw [h0.none_nil] at *
    have H0 := hide h0
    clear h0
    go_enter Try.func15, Try.ntmps15
    go_wp2
    go_ret
    exact ⟨_, rfl, Row2.nil _, Below.refl _ _⟩
  | some ad =>
    have H0 := hide h0
    clear h0
    go_enter Try.func15, Try.ntmps15
    go_wp2_with (first | (at_make; refine wpList_make_full _ rfl _ _ 33 rfl w.heap.size 37 i0 (.agg #[.string ⟨#[]⟩, .string ⟨#[]⟩]) 2 Try.underlying33 hi hz0 hz1 _ _ _ _ ps.length rfl rfl rfl rfl ?b1 ?b2 ?b3 ?_) | go_in)
    case b1 => rw [hz2]; omega
    case b2 => unfold maxLen; omega
    case b3 => exact Nat.le_refl _
    intro w1 hown hgrow
    have hbel : Below w.heap.size w w1 := (Below.refl _ _).grown hgrow (Nat.le_refl _) (by simp)
    have HO := hide (p := w1.ownsRow w.heap.size 37 2 (.slice (some ⟨w.heap.size, 0, none⟩) ps.length ps.length) ps.length (cells2 (ps.take 0 ++ List.replicate (ps.length - 0) (⟨#[]⟩, ⟨#[]⟩)))) (by
      rw [List.take_zero, List.nil_append, Nat.sub_zero, cells2_made]
      exact hown)
    have HB := hide hbel
    clear hown hgrow hbel
    go_wp2
    go_loopw [4] (fun i wr => ∃ k : Nat, k ≤ ps.length ∧ i = .int .i64 k ∧ Hid (wr.ownsRow w.heap.size 37 2 (.slice (some ⟨w.heap.size, 0, none⟩) ps.length ps.length) ps.length (cells2 (ps.take k ++ List.replicate (ps.length - k) (⟨#[]⟩, ⟨#[]⟩)))) ∧ Hid (Below w.heap.size w wr)) (fun i _ => ps.length - (intOf i).toNat)
    case atStart => exact ⟨0, Nat.zero_le _, rfl, HO, HB⟩
    case round =>
      obtain ⟨k, hk, rfl, hO, hB⟩ := hrel
      by_cases hlt : k < ps.length
      · obtain ⟨⟨x, y⟩, hx⟩ : ∃ x, ps[k]? = some x := ⟨_, List.getElem?_eq_getElem hlt⟩
        have HX := hide hx
        obtain ⟨b, o, hab, hc, hc'⟩ := H4.out k _ HX.out
        simp only [Option.some.injEq] at hab
        subst hab
        simp only at hc hc'
        have hcr : wr.cell? ⟨b, o + k * 2, none⟩ = some (.string x) := cell_later hB.out hc
        have hcr' : wr.cell? ⟨b, o + k * 2 + 1, none⟩ = some (.string y) := cell_later hB.out hc'
        obtain ⟨u, hu⟩ : ∃ u, wr.cell? ⟨w.heap.size, k * 2, none⟩ = some u := by
          rw [hO.out.cellAt (k * 2) (by omega)]
          exact ⟨_, List.getElem?_eq_getElem (by have := hO.out.1; omega)⟩
        obtain ⟨u', hu'⟩ : ∃ u, wr.cell? ⟨w.heap.size, k * 2 + 1, none⟩ = some u := by
          rw [hO.out.cellAt (k * 2 + 1) (by omega)]
          exact ⟨_, List.getElem?_eq_getElem (by have := hO.out.1; omega)⟩
        have hf : wr.frozen? ⟨w.heap.size, k * 2, none⟩ = false := hO.out.frozenAt _
        have hf' : wr.frozen? ⟨w.heap.size, k * 2 + 1, none⟩ = false := hO.out.frozenAt _
        have hlt' : (k : Int) < (ps.length : Int) := by omega
        clear hx hc hc'
        go_wp2
        go_region
        all_goals go_wp2
        go_roundw
        case rel =>
          refine ⟨k + 1, by omega, by go_num, ?_, ?_⟩
          · have h5 := ((hO.out.stored (k * 2) (.string x)).1.stored (k * 2 + 1) (.string y)).1
            rw [cells2_set, half_step ps k (x, y) _ HX.out] at h5
            exact h5.drew
          · exact ((hB.out.setCell (Nat.le_refl _) _).setCell (Nat.le_refl _) _).drew
        case measure => simp [intOf]; omega
      · go_wp2
        go_ret
        have hk' : k = ps.length := by omega
        subst hk'
        have h5 := hO.out
        rw [List.take_length, Nat.sub_self, List.replicate_zero, List.append_nil] at h5
        exact ⟨_, rfl, Row2.of_owns h5, hB.out⟩
set_option maxHeartbeats 400000 in
theorem toCore_any (ps : List (ByteArray × ByteArray)) (v : Value) (w : World) (h : Row2 w v ps) (hz : ps.length ≤ 1048576) :
    Calls Try.prog 17 #[v] w fun e w' => ∃ v', e = .returned v' ∧ Row2 w' v' ps ∧ Below w.heap.size w w' := by
  have h0 := h
  obtain ⟨a, c, rfl, h1, h2, h3, h4⟩ := h
  have q33 : ∀ (w : World) (a : Option Addr) (n c n' c' : Nat), (binOp .eql 33 (.slice a n c) (.slice none n' c')).run Try.prog w = .ok (.bool a.isNone) w := fun w a n c n' c' => Lib.run_eql_slice_nil w _ _ a n c n' c' Try.underlying33
  obtain ⟨i0, hi, hz0, hz1, hz2⟩ := info_parts Try.info46
  have H4 := hide h4
  clear h4
  cases a with
  | none =>
    rw [h0.none_nil] at *
    have H0 := hide h0
    clear h0
    go_enter Try.func17, Try.ntmps17
    go_wp2
    go_ret
    exact ⟨_, rfl, Row2.nil _, Below.refl _ _⟩
  | some ad =>
    have H0 := hide h0
    clear h0
    go_enter Try.func17, Try.ntmps17
    go_wp2_with (first | (at_make; refine wpList_make_full _ rfl _ _ 41 rfl w.heap.size 46 i0 (.agg #[.string ⟨#[]⟩, .string ⟨#[]⟩]) 2 Try.underlying41 hi hz0 hz1 _ _ _ _ ps.length rfl rfl rfl rfl ?b1 ?b2 ?b3 ?_) | go_in)
    case b1 => rw [hz2]; omega
    case b2 => unfold maxLen; omega
    case b3 => exact Nat.le_refl _
    intro w1 hown hgrow
    have hbel : Below w.heap.size w w1 := (Below.refl _ _).grown hgrow (Nat.le_refl _) (by simp)
    have HO := hide (p := w1.ownsRow w.heap.size 46 2 (.slice (some ⟨w.heap.size, 0, none⟩) ps.length ps.length) ps.length (cells2 (ps.take 0 ++ List.replicate (ps.length - 0) (⟨#[]⟩, ⟨#[]⟩)))) (by
      rw [List.take_zero, List.nil_append, Nat.sub_zero, cells2_made]
      exact hown)
    have HB := hide hbel
    clear hown hgrow hbel
    go_wp2
    go_loopw [4] (fun i wr => ∃ k : Nat, k ≤ ps.length ∧ i = .int .i64 k ∧ Hid (wr.ownsRow w.heap.size 46 2 (.slice (some ⟨w.heap.size, 0, none⟩) ps.length ps.length) ps.length (cells2 (ps.take k ++ List.replicate (ps.length - k) (⟨#[]⟩, ⟨#[]⟩)))) ∧ Hid (Below w.heap.size w wr)) (fun i _ => ps.length - (intOf i).toNat)
    case atStart => exact ⟨0, Nat.zero_le _, rfl, HO, HB⟩
    case round =>
      obtain ⟨k, hk, rfl, hO, hB⟩ := hrel
      by_cases hlt : k < ps.length
      · obtain ⟨⟨x, y⟩, hx⟩ : ∃ x, ps[k]? = some x := ⟨_, List.getElem?_eq_getElem hlt⟩
        have HX := hide hx
        obtain ⟨b, o, hab, hc, hc'⟩ := H4.out k _ HX.out
        simp only [Option.some.injEq] at hab
        subst hab
        simp only at hc hc'
        have hcr : wr.cell? ⟨b, o + k * 2, none⟩ = some (.string x) := cell_later hB.out hc
        have hcr' : wr.cell? ⟨b, o + k * 2 + 1, none⟩ = some (.string y) := cell_later hB.out hc'
        obtain ⟨u, hu⟩ : ∃ u, wr.cell? ⟨w.heap.size, k * 2, none⟩ = some u := by
          rw [hO.out.cellAt (k * 2) (by omega)]
          exact ⟨_, List.getElem?_eq_getElem (by have := hO.out.1; omega)⟩
        obtain ⟨u', hu'⟩ : ∃ u, wr.cell? ⟨w.heap.size, k * 2 + 1, none⟩ = some u := by
          rw [hO.out.cellAt (k * 2 + 1) (by omega)]
          exact ⟨_, List.getElem?_eq_getElem (by have := hO.out.1; omega)⟩
        have hf : wr.frozen? ⟨w.heap.size, k * 2, none⟩ = false := hO.out.frozenAt _
        have hf' : wr.frozen? ⟨w.heap.size, k * 2 + 1, none⟩ = false := hO.out.frozenAt _
        have hlt' : (k : Int) < (ps.length : Int) := by omega
        clear hx hc hc'
        go_wp2
        go_region
        all_goals go_wp2
        go_roundw
        case rel =>
          refine ⟨k + 1, by omega, by go_num, ?_, ?_⟩
          · have h5 := ((hO.out.stored (k * 2) (.string x)).1.stored (k * 2 + 1) (.string y)).1
            rw [cells2_set, half_step ps k (x, y) _ HX.out] at h5
            exact h5.drew
          · exact ((hB.out.setCell (Nat.le_refl _) _).setCell (Nat.le_refl _) _).drew
        case measure => simp [intOf]; omega
      · go_wp2
        go_ret
        have hk' : k = ps.length := by omega
        subst hk'
        have h5 := hO.out
        rw [List.take_length, Nat.sub_self, List.replicate_zero, List.append_nil] at h5
        exact ⟨_, rfl, Row2.of_owns h5, hB.out⟩
end Go.Proofs.Qxb6605489a
