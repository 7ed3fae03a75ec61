import Derived.Test.Qxb6600546aWalkA
namespace Go.Proofs.Qxb6600546a
open Go.RowKit

theorem take_rev (ss : List ByteArray) (k : Nat) (x : ByteArray) (hx : ss[k]? = some x) : (ss.take (k + 1)).reverse = x :: (ss.take k).reverse := by
  have hlt := (List.getElem?_eq_some_iff.1 hx).1
  have e := (List.getElem?_eq_some_iff.1 hx).2
  rw [List.take_succ_eq_append_getElem hlt, e, List.reverse_append]
  rfl

set_option maxHeartbeats 400000 in
theorem chain_any (ss : List ByteArray) (v : Value) (w : World) (h : Row w v (S ss)) (hz : ss.length ≤ 1048576) :
    Calls Try.prog 8 #[v] w fun e w' => RetCh e w w' ss.reverse := by
  have H := hide h
  obtain ⟨a, c, rfl, hl, hm⟩ := h.openS
  clear h
  unfold maxLen at hm
  go_enter Try.func8, Try.ntmps8
  go_wp2
  go_loopw [3, 4] (fun p i wr => ∃ (k : Nat) (u : Option Addr), k ≤ ss.length ∧ i = .int .i64 k ∧ p = .pointer u ∧ Hid (Ch wr (ss.take k).reverse (.pointer u)) ∧ Hid (Below w.heap.size w wr)) (fun _ i _ => ss.length - (intOf i).toNat)
  case atStart => exact ⟨0, none, by omega, rfl, rfl, rfl, Below.refl _ _⟩
  case round =>
    obtain ⟨k, u, hk, rfl, rfl, C, Bw⟩ := hrel
    by_cases hlt : k < ss.length
    · obtain ⟨x, hx⟩ : ∃ x, ss[k]? = some x := ⟨_, List.getElem?_eq_getElem hlt⟩
      obtain ⟨b, o, hab, hc⟩ := (H.out.below Bw.out).atS hx
      subst hab
      have HX := hide hx
      clear hx
      have C12 := hide (newStep_any _ u x wr C.out)
      go_wp2_with fail
      refine C12.out.mono ?_
      rintro e w1 ⟨u1, rfl, hC1, hB1⟩
      rw [← take_rev ss k x HX.out] at hC1
      have C1 := hide hC1
      have B1 := hide (Bw.out.trans (hB1.mono Bw.out.size))
      clear hC1 hB1 C Bw C12 hc
      go_wp2_with fail
      go_roundw
      case rel => exact ⟨k + 1, u1, by omega, by go_num, rfl, C1, B1⟩
      case measure => simp [intOf]; omega
    · have hk' : k = ss.length := by omega
      subst hk'
      rw [List.take_length] at C
      go_wp2_with fail
      go_ret
      exact ⟨u, rfl, C.out, Bw.out⟩

/-- Half filled from the end: the first k cells are still empty. -/
def Filled (ts : List ByteArray) (k : Nat) : List ByteArray := List.replicate k ⟨#[]⟩ ++ ts.drop k
theorem filled_full (ts : List ByteArray) : Filled ts 0 = ts := by simp [Filled]
theorem filled_length (ts : List ByteArray) (k : Nat) (h : k ≤ ts.length) : (Filled ts k).length = ts.length := by simp [Filled]; omega
theorem filled_none (ts : List ByteArray) : Filled ts ts.length = List.replicate ts.length ⟨#[]⟩ := by simp [Filled]
theorem filled_step (ts : List ByteArray) (k : Nat) (x : ByteArray) (hx : ts[k]? = some x) : (Filled ts (k + 1)).set k x = Filled ts k := by
  have hlt := (List.getElem?_eq_some_iff.1 hx).1
  apply List.ext_getElem?
  intro j
  rcases Nat.lt_trichotomy j k with hl | hl | hl
  · rw [List.getElem?_set_ne (by omega)]
    unfold Filled
    rw [List.getElem?_append_left (by simp; omega), List.getElem?_append_left (by simp; omega), List.getElem?_replicate, List.getElem?_replicate, if_pos (by omega), if_pos hl]
  · subst hl
    rw [List.getElem?_set_self (by rw [filled_length _ _ (by omega)]; exact hlt)]
    unfold Filled
    rw [List.getElem?_append_right (by simp), List.length_replicate, Nat.sub_self, List.getElem?_drop]
    simpa using hx.symm
  · rw [List.getElem?_set_ne (by omega)]
    unfold Filled
    rw [List.getElem?_append_right (by simp; omega), List.getElem?_append_right (by simp; omega), List.length_replicate, List.length_replicate, List.getElem?_drop, List.getElem?_drop]
    congr 1
    omega
theorem S_set (ts : List ByteArray) (k : Nat) (x : ByteArray) : (S ts).set k (.string x) = S (ts.set k x) := by simp [S, List.map_set]
theorem S_rep (n : Nat) : S (List.replicate n ⟨#[]⟩) = List.replicate n (.string ⟨#[]⟩) := by simp [S]

/-- A fresh slice of the tokens ts. -/
def Fresh (e : Ending) (w0 w : World) (ts : List ByteArray) : Prop :=
  ∃ g, e = .returned (.slice (some ⟨g, 0, none⟩) ts.length ts.length) ∧ w.ownsRow w0.heap.size 9 1 (.slice (some ⟨g, 0, none⟩) ts.length ts.length) ts.length (S ts) ∧ Below w0.heap.size w0 w

theorem rev_at (rs : List ByteArray) (t : ByteArray) (r : List ByteArray) (pre : List ByteArray) (h : rs = pre ++ t :: r) : rs.reverse[r.length]? = some t := by
  subst h
  rw [List.reverse_append, List.reverse_cons, List.append_assoc, List.getElem?_append_right (by simp)]
  simp

set_option maxHeartbeats 1000000 in
theorem tokens_any (rs : List ByteArray) (p : Value) (w : World) (h : Ch w rs p) (hz : rs.length ≤ 1048576) :
    Calls Try.prog 14 #[p] w fun e w' => Fresh e w w' rs.reverse := by
  obtain ⟨u, rfl⟩ := h.ptr
  have H := hide h
  clear h
  obtain ⟨i0, hi, hz0, hz1, hz2⟩ := info_parts Try.info9
  go_enter Try.func14, Try.ntmps14
  go_wp2
  go_loop [3, 4] (fun n p => ∃ (pre r : List ByteArray) (m : Nat) (q : Option Addr), Hid (rs = pre ++ r) ∧ Hid (m = pre.length) ∧ m ≤ rs.length ∧ n = .int .i64 m ∧ p = .pointer q ∧ Hid (Ch w r (.pointer q))) (fun n _ => rs.length - (intOf n).toNat)
  case atStart => exact ⟨[], rs, 0, u, rfl, rfl, by omega, rfl, rfl, H⟩
  case round =>
    obtain ⟨pre, r, m, q, HR, HM, hm, rfl, rfl, C⟩ := hrel
    cases r with
    | cons t r =>
      obtain ⟨b, q', hq, hc0, hc1, hC⟩ := C.out
      simp only [Value.pointer.injEq] at hq
      subst hq
      have hlt : m < rs.length := by rw [HR.out, HM.out]; simp
      have C' := hide hC
      clear hC C
      go_wp2
      go_round
      case rel => exact ⟨pre ++ [t], r, m + 1, q', by rw [HR.out]; show _ = _; simp, by rw [HM.out]; show _ = _; simp, by omega, by go_num, rfl, C'⟩
      case measure => simp [intOf]; omega
    | nil =>
      have hq : q = none := by
        have := C.out
        simp only [Ch, Value.pointer.injEq] at this
        exact this
      subst hq
      have hm' : m = rs.length := by rw [HM.out, HR.out]; simp
      subst hm'
      clear HR HM C hm
      go_wp2_with (at_make; refine wpList_make_full _ rfl _ _ 22 rfl w.heap.size 9 i0 (.string ⟨#[]⟩) 1 Try.underlying22 hi hz0 hz1 _ _ _ _ rs.length rfl rfl rfl rfl (by rw [hz2]; omega) (by unfold maxLen; omega) (Nat.le_refl _) ?_)
      intro w1 hown hgrow
      have hbel : Below w.heap.size w w1 := (Below.refl _ _).grown hgrow (Nat.le_refl _) (by simp)
      have HO := hide (p := w1.ownsRow w.heap.size 9 1 (.slice (some ⟨w.heap.size, 0, none⟩) rs.length rs.length) rs.length (S (Filled rs.reverse rs.length))) (by
        rw [toList_madeCells_one] at hown
        have h5 := filled_none rs.reverse
        rw [List.length_reverse] at h5
        rw [h5, S_rep]
        exact hown)
      have HB := hide hbel
      clear hown hgrow hbel
      go_wp2
      go_loopw [3, 6] (fun n p wr => ∃ (pre r : List ByteArray) (q : Option Addr), Hid (rs = pre ++ r) ∧ n = .int .i64 r.length ∧ p = .pointer q ∧ Hid (Ch w r (.pointer q)) ∧ Hid (wr.ownsRow w.heap.size 9 1 (.slice (some ⟨w.heap.size, 0, none⟩) rs.length rs.length) rs.length (S (Filled rs.reverse r.length))) ∧ Hid (Below w.heap.size w wr)) (fun n _ _ => (intOf n).toNat)
      case atStart => exact ⟨[], rs, u, rfl, rfl, rfl, H, HO, HB⟩
      case round =>
        obtain ⟨pre, r, q, HR, rfl, rfl, C, O, Bw⟩ := hrel
        cases r with
        | cons t r =>
          obtain ⟨b, q', hq, hc0, hc1, hC⟩ := C.out
          simp only [Value.pointer.injEq] at hq
          subst hq
          have hrl : r.length < rs.length := by rw [HR.out]; simp; omega
          have hk0 : wr.cell? ⟨b, 0, none⟩ = some (.pointer q') := cell_later Bw.out hc0
          have hk1 : wr.cell? ⟨b, 1, none⟩ = some (.string t) := cell_later Bw.out hc1
          have hbw : b < w.heap.size := World.block_lt_of_cell? _ _ hc0
          have hne : ¬ w.heap.size = b := by omega
          have hne' : ¬ b = w.heap.size := by omega
          obtain ⟨v, hv⟩ : ∃ v, wr.cell? ⟨w.heap.size, r.length, none⟩ = some v := by
            rw [O.out.cellAt r.length (by omega)]
            exact ⟨_, List.getElem?_eq_getElem (by have := O.out.1; omega)⟩
          have hf : wr.frozen? ⟨w.heap.size, r.length, none⟩ = false := O.out.frozenAt _
          have C' := hide hC
          have hlen : (t :: r).length = r.length + 1 := rfl
          rw [hlen] at *
          simp only [Int.natCast_add, Int.natCast_one]
          clear hC C hc0 hc1 hlen
          go_wp2
          go_roundw
          case rel =>
            refine ⟨pre ++ [t], r, q', by rw [HR.out]; show _ = _; simp, rfl, rfl, C', ?_, Bw.out.setCell (Nat.le_refl _) _⟩
            have h5 := (O.out.stored r.length (.string t)).1
            rw [S_set, List.length_cons, filled_step _ _ _ (rev_at rs t r pre HR.out)] at h5
            exact h5
          case measure => simp [intOf]
        | nil =>
          have hq : q = none := by
            have := C.out
            simp only [Ch, Value.pointer.injEq] at this
            exact this
          subst hq
          have O' := O.out
          rw [List.length_nil, filled_full] at O'
          have O2 := hide O'
          clear O O' C HR
          go_wp2
          go_ret
          refine ⟨w.heap.size, ?_, ?_, Bw.out⟩
          · rw [List.length_reverse]; rfl
          · rw [List.length_reverse]; exact O2.out

set_option maxHeartbeats 400000 in
theorem ZZtokens_any (rs : List ByteArray) (p : Value) (w : World) (h : Ch w rs p) (hz : rs.length ≤ 1048576) :
    Calls Try.prog 9 #[p] w fun e w' => Fresh e w w' rs.reverse := by
  have C := hide (tokens_any rs p w h hz)
  obtain ⟨u, rfl⟩ := h.ptr
  have H := hide h
  clear h
  go_enter Try.func9, Try.ntmps9
  go_wp2_with fail
  refine C.out.mono ?_
  rintro e w1 ⟨g, rfl, hO, hB⟩
  have O := hide hO
  have Bw := hide hB
  clear hO hB C
  go_wp2_with fail
  go_ret
  exact ⟨g, by rw [List.length_reverse]; rfl, O.out, Bw.out⟩

set_option maxHeartbeats 1000000 in
theorem same_any (ss : List ByteArray) (v1 v2 : Value) (w : World) (h1 : Row w v1 (S ss)) (h2 : Row w v2 (S ss)) :
    Calls Try.prog 10 #[v1, v2] w fun e w' => Yes w e w' := by
  have H1 := hide h1
  have H2 := hide h2
  obtain ⟨a1, c1, rfl, hl1, hm1⟩ := h1.openS
  obtain ⟨a2, c2, rfl, hl2, hm2⟩ := h2.openS
  clear h1 h2
  unfold maxLen at hm1 hm2
  go_enter Try.func10, Try.ntmps10
  go_wp2
  go_loopw [5] (fun i wr => ∃ k : Nat, k ≤ ss.length ∧ i = .int .i64 k ∧ Hid (Below w.heap.size w wr)) (fun i _ => ss.length - (intOf i).toNat)
  case atStart => exact ⟨0, by omega, rfl, Below.refl _ _⟩
  case round =>
    obtain ⟨k, hk, rfl, Bw⟩ := hrel
    by_cases hlt : k < ss.length
    · obtain ⟨x, hx⟩ : ∃ x, ss[k]? = some x := ⟨_, List.getElem?_eq_getElem hlt⟩
      obtain ⟨b, o, hab, hc⟩ := (H1.out.below Bw.out).atS hx
      subst hab
      obtain ⟨b', o', hab', hc'⟩ := (H2.out.below Bw.out).atS hx
      subst hab'
      have hlt' : (k : Int) < (ss.length : Int) := by omega
      have hstr : (x.toList != x.toList) = false := by simp
      clear hx
      go_wp2
      go_region
      all_goals go_wp2
      go_roundw
      case rel => exact ⟨k + 1, by omega, by go_num, Bw.out.drew⟩
      case measure => simp [intOf]; omega
    · go_wp2
      go_ret
      exact ⟨rfl, Bw.out⟩

theorem S_snoc_at (ss : List ByteArray) (x : ByteArray) : (ss ++ [x])[ss.length]? = some x := by simp
theorem S_snoc_lt (ss : List ByteArray) (x y : ByteArray) (k : Nat) (h : ss[k]? = some y) : (ss ++ [x])[k]? = some y := by
  have hlt := (List.getElem?_eq_some_iff.1 h).1
  rw [List.getElem?_append_left hlt, h]

set_option maxHeartbeats 1000000 in
theorem pathThen_any (ss : List ByteArray) (x : ByteArray) (v1 v2 : Value) (w : World) (h1 : Row w v1 (S (ss ++ [x]))) (h2 : Row w v2 (S ss)) (hz : ss.length ≤ 1048576) :
    Calls Try.prog 13 #[v1, v2, .string x] w fun e w' => Yes w e w' := by
  have H1 := hide h1
  have H2 := hide h2
  obtain ⟨a1, c1, rfl, hl1, hm1⟩ := h1.openS
  obtain ⟨a2, c2, rfl, hl2, hm2⟩ := h2.openS
  clear h1 h2
  unfold maxLen at hm1 hm2
  rw [List.length_append, List.length_singleton] at *
  go_enter Try.func13, Try.ntmps13
  go_wp2
  go_loopw [7] (fun i wr => ∃ k : Nat, k ≤ ss.length ∧ i = .int .i64 k ∧ Hid (Below w.heap.size w wr)) (fun i _ => ss.length - (intOf i).toNat)
  case atStart => exact ⟨0, by omega, rfl, Below.refl _ _⟩
  case round =>
    obtain ⟨k, hk, rfl, Bw⟩ := hrel
    by_cases hlt : k < ss.length
    · obtain ⟨y, hy⟩ : ∃ x, ss[k]? = some x := ⟨_, List.getElem?_eq_getElem hlt⟩
      obtain ⟨b, o, hab, hc⟩ := (H1.out.below Bw.out).atS (S_snoc_lt ss x y k hy)
      subst hab
      obtain ⟨b', o', hab', hc'⟩ := (H2.out.below Bw.out).atS hy
      subst hab'
      have hlt' : (k : Int) < (ss.length : Int) := by omega
      have hstr : (y.toList != y.toList) = false := by simp
      clear hy
      go_wp2
      go_region
      all_goals go_wp2
      go_roundw
      case rel => exact ⟨k + 1, by omega, by go_num, Bw.out.drew⟩
      case measure => simp [intOf]; omega
    · have hk' : k = ss.length := by omega
      subst hk'
      obtain ⟨b, o, hab, hc⟩ := (H1.out.below Bw.out).atS (S_snoc_at ss x)
      subst hab
      have hstr : (x.toList == x.toList) = true := by simp
      go_wp2
      go_ret
      exact ⟨rfl, Bw.out⟩
end Go.Proofs.Qxb6600546a
