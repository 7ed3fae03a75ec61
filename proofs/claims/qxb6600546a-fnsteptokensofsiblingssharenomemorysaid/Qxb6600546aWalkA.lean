import Derived.Test.Qxb6600546aRows
import Derived.Test.Qxb6600546aGen
namespace Go.Proofs.Qxb6600546a
open Go.RowKit

/-- A fact on the returned value that the walk does not look into. -/
def RetRow (e : Ending) (w0 w : World) (xs : List Value) : Prop := ∃ v', e = .returned v' ∧ Row w v' xs ∧ Below w0.heap.size w0 w
def Yes (w0 : World) (e : Ending) (w : World) : Prop := e = .returned (.bool true) ∧ Below w0.heap.size w0 w

theorem Try.info9 : (Try.prog.info? 9).map (fun i => (i.zero, i.size, i.bytes)) = some (some (.string ⟨#[]⟩), 1, 16) := by kernel_rfl

/-- The strings as cells. -/
def S (ss : List ByteArray) : List Value := ss.map Value.string
theorem S_length (ss : List ByteArray) : (S ss).length = ss.length := by simp [S]
theorem S_get {ss : List ByteArray} {k : Nat} {x : ByteArray} (h : ss[k]? = some x) : (S ss)[k]? = some (.string x) := by simp [S, h]
theorem S_one (ss : List ByteArray) : ∀ u ∈ S ss, u.oneCell' = true := by
  intro u hu
  obtain ⟨_, _, rfl⟩ := List.mem_map.1 hu
  rfl
theorem Row.openS {w : World} {v : Value} {ss : List ByteArray} (h : Row w v (S ss)) : ∃ a c, v = .slice a ss.length c ∧ ss.length ≤ c ∧ c ≤ maxLen := by
  obtain ⟨a, c, hv, h1, h2, _⟩ := h
  rw [S_length] at hv h1
  exact ⟨a, c, hv, h1, h2⟩
/-- The cell of element k of such a slice. -/
theorem Row.atS {w : World} {a : Option Addr} {n c : Nat} {ss : List ByteArray} (h : Row w (.slice a n c) (S ss)) {k : Nat} {x : ByteArray} (hx : ss[k]? = some x) : ∃ b o, a = some ⟨b, o, none⟩ ∧ w.cell? ⟨b, o + k, none⟩ = some (.string x) := by
  obtain ⟨a', c', hv, h1, h2, h3, h4⟩ := h
  simp only [Value.slice.injEq] at hv
  obtain ⟨rfl, rfl, rfl⟩ := hv
  exact h4 k _ (S_get hx)

set_option maxHeartbeats 400000 in
theorem cloneStrings_any (ss : List ByteArray) (v : Value) (w : World) (h : Row w v (S ss)) (hz : ss.length ≤ 1048576) :
    Calls Try.prog 7 #[v] w fun e w' => RetRow e w w' (S ss) := by
  have h0 := h
  obtain ⟨a, c, rfl, h1, h2, h3, h4⟩ := h
  have q22 : ∀ (w : World) (a : Option Addr) (n c n' c' : Nat), (binOp .eql 22 (.slice a n c) (.slice none n' c')).run Try.prog w = .ok (.bool a.isNone) w := fun w a n c n' c' => Lib.run_eql_slice_nil w _ _ a n c n' c' Try.underlying22
  obtain ⟨i0, hi, hz0, hz1, hz2⟩ := info_parts Try.info9
  have H4 := hide h4
  clear h4
  cases a with
  | none =>
    rw [h0.none_nil] at *
    have H0 := hide h0
    clear h0
    go_enter Try.func7, Try.ntmps7
    go_wp2
    go_ret
    exact ⟨_, rfl, Row.nil _, Below.refl _ _⟩
  | some ad =>
    simp only [S_length] at *
    go_enter Try.func7, Try.ntmps7
    go_wp2_with (first | (at_make; refine wpList_make_full _ rfl _ _ 22 rfl w.heap.size 9 i0 (.string ⟨#[]⟩) 1 Try.underlying22 hi hz0 hz1 _ _ _ _ ss.length rfl rfl rfl rfl ?b1 ?b2 ?b3 ?_) | go_in)
    case b1 => rw [hz2]; omega
    case b2 => unfold maxLen; omega
    case b3 => exact Nat.le_refl _
    intro w1 hown hgrow
    have hbel : Below w.heap.size w w1 := (Below.refl _ _).grown hgrow (Nat.le_refl _) (by simp)
    have HO := hide (p := w1.ownsRow w.heap.size 9 1 (.slice (some ⟨w.heap.size, 0, none⟩) ss.length ss.length) ss.length (Copied (S ss) 0 (.string ⟨#[]⟩))) (by
      rw [copied_zero, S_length]
      rw [toList_madeCells_one] at hown
      exact hown)
    have HB := hide hbel
    clear hown hgrow hbel h0
    go_wp2
    go_loopw [4] (fun i wr => ∃ k : Nat, k ≤ ss.length ∧ i = .int .i64 k ∧ Hid (wr.ownsRow w.heap.size 9 1 (.slice (some ⟨w.heap.size, 0, none⟩) ss.length ss.length) ss.length (Copied (S ss) k (.string ⟨#[]⟩))) ∧ Hid (Below w.heap.size w wr)) (fun i _ => ss.length - (intOf i).toNat)
    case atStart => exact ⟨0, Nat.zero_le _, rfl, HO, HB⟩
    case round =>
      obtain ⟨k, hk, rfl, hO, hB⟩ := hrel
      by_cases hlt : k < ss.length
      · obtain ⟨x, hx⟩ : ∃ x, ss[k]? = some x := ⟨_, List.getElem?_eq_getElem hlt⟩
        have HX := hide (S_get hx)
        obtain ⟨b, o, hab, hc⟩ := H4.out k _ HX.out
        simp only [Option.some.injEq] at hab
        subst hab
        have hcr : wr.cell? ⟨b, o + k, none⟩ = some (.string x) := cell_later hB.out hc
        obtain ⟨u, hu⟩ : ∃ u, wr.cell? ⟨w.heap.size, k, none⟩ = some u := by
          rw [hO.out.cellAt k (by omega)]
          exact ⟨_, List.getElem?_eq_getElem (by have := hO.out.1; omega)⟩
        have hf : wr.frozen? ⟨w.heap.size, k, none⟩ = false := hO.out.frozenAt k
        clear hx hc
        go_wp2
        go_roundw
        case rel =>
          refine ⟨k + 1, by omega, by go_num, ?_, ?_⟩
          · have h5 := (hO.out.stored k (.string x)).1
            rw [copied_step _ _ _ _ HX.out] at h5
            exact h5
          · exact hB.out.setCell (Nat.le_refl _) _
        case measure => simp [intOf]; omega
      · go_wp2
        go_ret
        have hk' : k = ss.length := by omega
        subst hk'
        have h5 := hO.out
        have h6 := copied_full (S ss) (.string ⟨#[]⟩)
        rw [S_length] at h6
        rw [h6] at h5
        exact ⟨_, rfl, Row.of_owns h5, hB.out⟩

/-! ### sums -/
def tot (ss : List ByteArray) : Nat := (ss.map ByteArray.size).sum
theorem tot_take (ss : List ByteArray) (k : Nat) (x : ByteArray) (hx : ss[k]? = some x) : tot (ss.take (k + 1)) = tot (ss.take k) + x.size := by
  have hlt := (List.getElem?_eq_some_iff.1 hx).1
  have e := (List.getElem?_eq_some_iff.1 hx).2
  rw [List.take_succ_eq_append_getElem hlt, e]
  simp [tot]
theorem tot_zero (ss : List ByteArray) : tot (ss.take 0) = 0 := by simp [tot]

/-- Some bool comes back; where it is true the lengths add up to no more than 2^20. -/
def BytesE (e : Ending) (n : Nat) : Prop := ∃ r : Bool, e = .returned (.bool r) ∧ (r = true → n ≤ 1048576)
theorem BytesE.no {v : Value} {n : Nat} (h : v = .bool false) : BytesE (.returned v) n := ⟨false, by rw [h], fun h => by cases h⟩
theorem BytesE.yes {v : Value} {n : Nat} (h : v = .bool true) (hn : n ≤ 1048576) : BytesE (.returned v) n := ⟨true, by rw [h], fun _ => hn⟩

set_option maxHeartbeats 400000 in
theorem zzBytes5_any (ss : List ByteArray) (v : Value) (w : World) (h : Row w v (S ss)) (hs : ∀ s ∈ ss, s.size ≤ maxLen) :
    Calls Try.prog 5 #[v] w fun e w' => BytesE e (ss.length + tot ss) ∧ w' = w := by
  have H := hide h
  obtain ⟨a, c, rfl, hl, hm⟩ := h.openS
  have HS := hide hs
  clear hs h
  unfold maxLen at hm
  go_enter Try.func5, Try.ntmps5
  go_wp2
  all_goals try (go_ret; exact ⟨BytesE.no rfl, rfl⟩)
  go_loop [3, 4] (fun t i => ∃ (k : Nat) (n : Int), k ≤ ss.length ∧ 0 ≤ n ∧ n ≤ 1048576 ∧ Hid (n = ss.length + tot (ss.take k)) ∧ i = .int .i64 k ∧ t = .int .i64 n) (fun _ i => ss.length - (intOf i).toNat)
  case atStart => exact ⟨0, ss.length, by omega, by omega, by omega, by rw [tot_zero]; exact (Int.add_zero _).symm, rfl, rfl⟩
  case round =>
    obtain ⟨k, n, hk, hn0, hn, HN, rfl, rfl⟩ := hrel
    by_cases hlt : k < ss.length
    · obtain ⟨x, hx⟩ : ∃ x, ss[k]? = some x := ⟨_, List.getElem?_eq_getElem hlt⟩
      have hxs : x.size ≤ 9223372036854775807 := by
        have := HS.out x (List.mem_of_getElem? hx)
        unfold maxLen at this
        omega
      have HN' := hide (tot_take ss k x hx)
      obtain ⟨b, o, hab, hc⟩ := H.out.atS hx
      subst hab
      clear hx
      by_cases hb1 : x.size ≤ 1048576
      · by_cases hb2 : n + (x.size : Int) ≤ 1048576
        · go_wp2
          go_round
          case rel => exact ⟨k + 1, n + x.size, by omega, by omega, by omega, by rw [HN'.out]; have := HN.out; show _ = _; omega, by go_num, by go_num⟩
          case measure => simp [intOf]; omega
        · go_wp2
          go_ret; exact ⟨BytesE.no rfl, rfl⟩
      · go_wp2
        go_ret; exact ⟨BytesE.no rfl, rfl⟩
    · go_wp2
      go_ret
      have hk' : k = ss.length := by omega
      subst hk'
      have h5 := HN.out
      rw [List.take_length] at h5
      exact ⟨BytesE.yes rfl (by omega), rfl⟩


theorem tot_take_le (ss : List ByteArray) (k : Nat) : tot (ss.take k) ≤ tot ss := by
  have h : tot ss = tot (ss.take k) + tot (ss.drop k) := by
    conv => lhs; rw [← List.take_append_drop k ss]
    simp only [tot, List.map_append, List.sum_append]
  omega

/-- zzb1OverBytes: some bool; where it is false the weight is within bounds. -/
def OverE (e : Ending) (n : Nat) : Prop := ∃ r : Bool, e = .returned (.bool r) ∧ (r = false → n ≤ 1048576)
theorem OverE.over {v : Value} {n : Nat} (h : v = .bool true) : OverE (.returned v) n := ⟨true, by rw [h], fun h => by cases h⟩
theorem OverE.fits {v : Value} {n : Nat} (h : v = .bool false) (hn : n ≤ 1048576) : OverE (.returned v) n := ⟨false, by rw [h], fun _ => hn⟩

set_option maxHeartbeats 1000000 in
set_option maxRecDepth 100000 in
theorem overBytes_any (ss : List ByteArray) (v : Value) (x1 x2 : Nat) (w : World) (h : Row w v (S ss)) (hs : ∀ s ∈ ss, s.size ≤ maxLen) (h1 : x1 ≤ maxLen) (h2 : x2 ≤ maxLen) :
    Calls Try.prog 6 #[v, .int .i64 x1, .int .i64 x2] w fun e w' => OverE e (x1 + x2 + 16 * ss.length + tot ss) ∧ w' = w := by
  have H := hide h
  obtain ⟨a, c, rfl, hl, hm⟩ := h.openS
  have HS := hide hs
  clear hs h
  unfold maxLen at hm h1 h2
  by_cases g1 : x1 ≤ 1048576
  case neg =>
    go_enter Try.func6, Try.ntmps6
    go_wp2
    go_ret; exact ⟨OverE.over rfl, rfl⟩
  by_cases g2 : x2 ≤ 1048576
  case neg =>
    go_enter Try.func6, Try.ntmps6
    go_wp2
    go_ret; exact ⟨OverE.over rfl, rfl⟩
  by_cases g3 : ss.length ≤ 65536
  case neg =>
    go_enter Try.func6, Try.ntmps6
    go_wp2
    go_ret; exact ⟨OverE.over rfl, rfl⟩
  by_cases g4 : (x1 : Int) + (x2 : Int) + 16 * (ss.length : Int) ≤ 1048576
  case neg =>
    go_enter Try.func6, Try.ntmps6
    go_wp2
    go_ret; exact ⟨OverE.over rfl, rfl⟩
  go_enter Try.func6, Try.ntmps6
  go_wp2
  go_loop [7, 8] (fun t i => ∃ (k : Nat) (n : Int), k ≤ ss.length ∧ 0 ≤ n ∧ n ≤ 1048576 ∧ Hid (n = x1 + x2 + 16 * ss.length + tot (ss.take k)) ∧ i = .int .i64 k ∧ t = .int .i64 n) (fun _ i => ss.length - (intOf i).toNat)
  case atStart => exact ⟨0, x1 + x2 + 16 * ss.length, by omega, by omega, by omega, by rw [tot_zero]; exact (Int.add_zero _).symm, rfl, rfl⟩
  case round =>
    obtain ⟨k, n, hk, hn0, hn, HN, rfl, rfl⟩ := hrel
    by_cases hlt : k < ss.length
    · obtain ⟨x, hx⟩ : ∃ x, ss[k]? = some x := ⟨_, List.getElem?_eq_getElem hlt⟩
      have hxs : x.size ≤ 9223372036854775807 := by
        have := HS.out x (List.mem_of_getElem? hx)
        unfold maxLen at this
        omega
      have HN' := hide (tot_take ss k x hx)
      obtain ⟨b, o, hab, hc⟩ := H.out.atS hx
      subst hab
      clear hx
      by_cases hb1 : x.size ≤ 1048576
      · by_cases hb2 : n + (x.size : Int) ≤ 1048576
        · go_wp2
          go_round
          case rel => exact ⟨k + 1, n + x.size, by omega, by omega, by omega, by rw [HN'.out]; have := HN.out; show _ = _; omega, by go_num, by go_num⟩
          case measure => simp [intOf]; omega
        · go_wp2
          go_ret; exact ⟨OverE.over rfl, rfl⟩
      · go_wp2
        go_ret; exact ⟨OverE.over rfl, rfl⟩
    · go_wp2
      go_ret
      have hk' : k = ss.length := by omega
      subst hk'
      have h5 := HN.out
      rw [List.take_length] at h5
      exact ⟨OverE.fits rfl (by omega), rfl⟩

/-! ### chains of steps -/
/-- The pointer p leads to a chain of steps whose tokens, from p upward, are rs. -/
def Ch (w : World) : List ByteArray → Value → Prop
  | [], p => p = .pointer none
  | t :: r, p => ∃ b u, p = .pointer (some ⟨b, 0, none⟩) ∧ w.cell? ⟨b, 0, none⟩ = some (.pointer u) ∧ w.cell? ⟨b, 1, none⟩ = some (.string t) ∧ Ch w r (.pointer u)

theorem Ch.below {w w' : World} {rs : List ByteArray} {p : Value} (h : Ch w rs p) (hb : Below w.heap.size w w') : Ch w' rs p := by
  induction rs generalizing p with
  | nil => exact h
  | cons t r ih =>
    obtain ⟨b, u, rfl, h1, h2, h3⟩ := h
    exact ⟨b, u, rfl, cell_later hb h1, cell_later hb h2, ih h3⟩
theorem Ch.ptr {w : World} {rs : List ByteArray} {p : Value} (h : Ch w rs p) : ∃ u, p = .pointer u := by
  cases rs with
  | nil => exact ⟨_, h⟩
  | cons t r => obtain ⟨b, u, rfl, _⟩ := h; exact ⟨_, rfl⟩

def RetCh (e : Ending) (w0 w : World) (rs : List ByteArray) : Prop := ∃ u, e = .returned (.pointer u) ∧ Ch w rs (.pointer u) ∧ Below w0.heap.size w0 w

set_option maxHeartbeats 400000 in
theorem newStep_any (rs : List ByteArray) (u : Option Addr) (t : ByteArray) (w : World) (h : Ch w rs (.pointer u)) :
    Calls Try.prog 12 #[.pointer u, .string t] w fun e w' => RetCh e w w' (t :: rs) := by
  have H := hide h
  clear h
  go_enter Try.func12, Try.ntmps12
  go_wp2
  go_ret
  have hb : ∀ o, Below w.heap.size w (w.alloc o) := fun o => (Below.refl _ _).alloc (Nat.le_refl _) _
  exact ⟨_, rfl, ⟨_, _, rfl, by simp, by simp, H.out.below (hb _)⟩, hb _⟩
end Go.Proofs.Qxb6600546a
