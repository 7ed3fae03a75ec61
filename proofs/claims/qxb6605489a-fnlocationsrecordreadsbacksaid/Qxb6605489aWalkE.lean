import Derived.Test.Qxb6605489aWalkD
namespace Go.Proofs.Qxb6605489a
open Go.RowKit

/-- A slice of pairs of strings. -/
def Row2 (w : World) (v : Value) (ps : List (ByteArray × ByteArray)) : Prop :=
  ∃ a c, v = .slice a ps.length c ∧ ps.length ≤ c ∧ c ≤ maxLen ∧ (a = none → c = 0) ∧
    ∀ i p, ps[i]? = some p → ∃ b o, a = some ⟨b, o, none⟩ ∧ w.cell? ⟨b, o + i * 2, none⟩ = some (.string p.1) ∧ w.cell? ⟨b, o + i * 2 + 1, none⟩ = some (.string p.2)

theorem Row2.below {w w' : World} {v : Value} {ps : List (ByteArray × ByteArray)} (h : Row2 w v ps) (hb : Below w.heap.size w w') : Row2 w' v ps := by
  obtain ⟨a, c, rfl, h1, h2, h3, h4⟩ := h
  refine ⟨a, c, rfl, h1, h2, h3, fun i p hp => ?_⟩
  obtain ⟨b, o, rfl, hc, hc'⟩ := h4 i p hp
  exact ⟨b, o, rfl, cell_later hb hc, cell_later hb hc'⟩
theorem Row2.nil (w : World) : Row2 w (.slice none 0 0) [] := ⟨none, 0, rfl, Nat.le_refl _, Nat.zero_le _, fun _ => rfl, fun i u hu => by simp at hu⟩
theorem Row2.none_nil {w : World} {n c : Nat} {xs : List (ByteArray × ByteArray)} (h : Row2 w (.slice none n c) xs) : xs = [] := by
  obtain ⟨a, c', hv, h1, h2, h3, h4⟩ := h
  simp only [Value.slice.injEq] at hv
  obtain ⟨rfl, rfl, rfl⟩ := hv
  have := h3 rfl
  exact List.eq_nil_of_length_eq_zero (by omega)
theorem Row2.open2 {w : World} {v : Value} {ps : List (ByteArray × ByteArray)} (h : Row2 w v ps) : ∃ a c, v = .slice a ps.length c ∧ ps.length ≤ c ∧ c ≤ maxLen := by
  obtain ⟨a, c, hv, h1, h2, _⟩ := h
  exact ⟨a, c, hv, h1, h2⟩
theorem Row2.at2 {w : World} {a : Option Addr} {n c : Nat} {ps : List (ByteArray × ByteArray)} (h : Row2 w (.slice a n c) ps) {k : Nat} {p : ByteArray × ByteArray} (hx : ps[k]? = some p) : ∃ b o, a = some ⟨b, o, none⟩ ∧ w.cell? ⟨b, o + k * 2, none⟩ = some (.string p.1) ∧ w.cell? ⟨b, o + k * 2 + 1, none⟩ = some (.string p.2) := by
  obtain ⟨a', c', hv, h1, h2, h3, h4⟩ := h
  simp only [Value.slice.injEq] at hv
  obtain ⟨rfl, rfl, rfl⟩ := hv
  exact h4 k _ hx

def tot2 (ps : List (ByteArray × ByteArray)) : Nat := (ps.map fun p => p.1.size + p.2.size).sum
theorem tot2_take (ps : List (ByteArray × ByteArray)) (k : Nat) (x : ByteArray × ByteArray) (hx : ps[k]? = some x) : tot2 (ps.take (k + 1)) = tot2 (ps.take k) + (x.1.size + x.2.size) := by
  have hlt := (List.getElem?_eq_some_iff.1 hx).1
  have e := (List.getElem?_eq_some_iff.1 hx).2
  rw [List.take_succ_eq_append_getElem hlt, e]
  simp [tot2]
theorem tot2_zero (ps : List (ByteArray × ByteArray)) : tot2 (ps.take 0) = 0 := by simp [tot2]
theorem tot2_take_le (ps : List (ByteArray × ByteArray)) (k : Nat) : tot2 (ps.take k) ≤ tot2 ps := by
  have h : tot2 ps = tot2 (ps.take k) + tot2 (ps.drop k) := by
    conv => lhs; rw [← List.take_append_drop k ps]
    simp only [tot2, List.map_append, List.sum_append]
  omega

set_option maxHeartbeats 1000000 in
set_option maxRecDepth 100000 in
theorem zzBytes13_any (ss : List ByteArray) (ps : List (ByteArray × ByteArray)) (v v2 : Value) (eb : Bool) (w : World) (h : Row w v (S ss)) (h2 : Row2 w v2 ps) (hs : ∀ s ∈ ss, s.size ≤ maxLen) (hp : ∀ p ∈ ps, p.1.size ≤ maxLen ∧ p.2.size ≤ maxLen) :
    Calls Try.prog 13 #[v, v2, .bool eb] w fun e w' => BytesE e (ss.length + tot ss + ps.length + tot2 ps) ∧ w' = w := by
  have H := hide h
  obtain ⟨a, c, rfl, hl, hm⟩ := h.openS
  have H2 := hide h2
  obtain ⟨a2, c2, rfl, hl2, hm2⟩ := h2.open2
  have HS := hide hs
  have HP := hide hp
  clear hs h h2 hp
  unfold maxLen at hm hm2
  go_enter Try.func13, Try.ntmps13
  go_wp2
  all_goals try (go_ret; exact ⟨BytesE.no rfl, rfl⟩)
  go_loop [7, 8] (fun t i => ∃ (k : Nat) (n : Int), k ≤ ss.length ∧ 0 ≤ n ∧ n ≤ 1048576 ∧ Hid (n = ss.length + tot (ss.take k)) ∧ i = .int .i64 k ∧ t = .int .i64 n) (fun _ i => ss.length - (intOf i).toNat)
  case atStart => exact ⟨0, ss.length, by omega, by omega, by omega, by rw [tot_zero]; exact (Int.add_zero _).symm, rfl, rfl⟩
  case round =>
    obtain ⟨k, n, hk, hn0, hn, HN, rfl, rfl⟩ := hrel
    by_cases hlt : k < ss.length
    · obtain ⟨x, hx⟩ : ∃ x, ss[k]? = some x := ⟨_, List.getElem?_eq_getElem hlt⟩
      have hxs : x.size ≤ 9223372036854775807 := by
        have := HS.out x (List.mem_of_getElem? hx)
        unfold maxLen at this
        omega
      have HN' := hide (tot_take ss k x hx)
      obtain ⟨b, o, hab, hc⟩ := H.out.atS hx
      subst hab
      clear hx
      by_cases hb1 : x.size ≤ 1048576
      · by_cases hb2 : n + (x.size : Int) ≤ 1048576
        · go_wp2
          go_round
          case rel => exact ⟨k + 1, n + x.size, by omega, by omega, by omega, by rw [HN'.out]; have := HN.out; show _ = _; omega, by go_num, by go_num⟩
          case measure => simp [intOf]; omega
        · go_wp2
          go_ret; exact ⟨BytesE.no rfl, rfl⟩
      · go_wp2
        go_ret; exact ⟨BytesE.no rfl, rfl⟩
    · have hk' : k = ss.length := by omega
      subst hk'
      rw [List.take_length] at HN
      by_cases hq1 : ps.length ≤ 1048576
      · by_cases hq2 : n + (ps.length : Int) ≤ 1048576
        · clear hlt hk
          go_wp2
          go_loop [7, 9] (fun t i => ∃ (k : Nat) (m : Int), k ≤ ps.length ∧ 0 ≤ m ∧ m ≤ 1048576 ∧ Hid (m = n + ps.length + tot2 (ps.take k)) ∧ i = .int .i64 k ∧ t = .int .i64 m) (fun _ i => ps.length - (intOf i).toNat)
          case atStart => exact ⟨0, n + ps.length, by omega, by omega, by omega, by rw [tot2_zero]; exact (Int.add_zero _).symm, rfl, rfl⟩
          case round =>
            obtain ⟨k, m, hk, hm0, hm, HM, rfl, rfl⟩ := hrel
            by_cases hlt : k < ps.length
            · obtain ⟨⟨x, y⟩, hx⟩ : ∃ x, ps[k]? = some x := ⟨_, List.getElem?_eq_getElem hlt⟩
              have hxs : x.size ≤ 9223372036854775807 ∧ y.size ≤ 9223372036854775807 := by
                have := HP.out (x, y) (List.mem_of_getElem? hx)
                unfold maxLen at this
                omega
              obtain ⟨hxs, hys⟩ := hxs
              have HM' := hide (tot2_take ps k (x, y) hx)
              obtain ⟨b, o, hab, hc, hc'⟩ := H2.out.at2 hx
              subst hab
              clear hx
              simp only at hc hc'
              by_cases hb1 : x.size ≤ 1048576
              · by_cases hb2 : m + (x.size : Int) ≤ 1048576
                · by_cases hb3 : y.size ≤ 1048576
                  · by_cases hb4 : m + (x.size : Int) + (y.size : Int) ≤ 1048576
                    · go_wp2
                      go_round
                      case rel => exact ⟨k + 1, m + x.size + y.size, by omega, by omega, by omega, by rw [HM'.out]; have := HM.out; show _ = _; simp only; omega, by go_num, by go_num⟩
                      case measure => simp [intOf]; omega
                    · go_wp2
                      go_ret; exact ⟨BytesE.no rfl, rfl⟩
                  · go_wp2
                    go_ret; exact ⟨BytesE.no rfl, rfl⟩
                · go_wp2
                  go_ret; exact ⟨BytesE.no rfl, rfl⟩
              · go_wp2
                go_ret; exact ⟨BytesE.no rfl, rfl⟩
            · go_wp2
              go_ret
              have hk' : k = ps.length := by omega
              subst hk'
              have h5 := HM.out
              have h6 := HN.out
              rw [List.take_length] at h5
              exact ⟨BytesE.yes rfl (by omega), rfl⟩
        · go_wp2
          go_ret; exact ⟨BytesE.no rfl, rfl⟩
      · go_wp2
        go_ret; exact ⟨BytesE.no rfl, rfl⟩
/-! ### locationsBytes -/
/-- -1, or the weight, which is then no more than 2^20. -/
def LocE (e : Ending) (n : Nat) : Prop := e = .returned (.int .i64 (-1)) ∨ (e = .returned (.int .i64 (n : Int)) ∧ n ≤ 1048576)
theorem LocE.no {v : Value} {n : Nat} (h : v = .int .i64 (-1)) : LocE (.returned v) n := .inl (by rw [h])
theorem LocE.yes {v : Value} {n : Nat} {m : Int} (h : v = .int .i64 m) (hm : m = (n : Int)) (hn : n ≤ 1048576) : LocE (.returned v) n := .inr ⟨by rw [h, hm], hn⟩

set_option maxHeartbeats 1000000 in
set_option maxRecDepth 100000 in
theorem locationsBytes_any (ss : List ByteArray) (ps : List (ByteArray × ByteArray)) (v v2 : Value) (w : World) (h : Row w v (S ss)) (h2 : Row2 w v2 ps) (hsum : ss.length + tot ss + ps.length + tot2 ps ≤ 1048576) :
    Calls Try.prog 14 #[v, v2] w fun e w' => LocE e (16 * ss.length + 32 * ps.length + tot ss + tot2 ps) ∧ w' = w := by
  have H := hide h
  obtain ⟨a, c, rfl, hl, hm⟩ := h.openS
  have H2 := hide h2
  obtain ⟨a2, c2, rfl, hl2, hm2⟩ := h2.open2
  clear h h2
  unfold maxLen at hm hm2
  by_cases hg : ss.length ≤ 65536 ∧ ps.length ≤ 65536
  · obtain ⟨hg1, hg2⟩ := hg
    by_cases hg3 : 16 * (ss.length : Int) + 32 * (ps.length : Int) ≤ 1048576
    · go_enter Try.func14, Try.ntmps14
      go_wp2
      go_loop [5, 6] (fun t i => ∃ (k : Nat) (n : Int), k ≤ ss.length ∧ 0 ≤ n ∧ n ≤ 1048576 ∧ Hid (n = 16 * ss.length + 32 * ps.length + tot (ss.take k)) ∧ i = .int .i64 k ∧ t = .int .i64 n) (fun _ i => ss.length - (intOf i).toNat)
      case atStart => exact ⟨0, 16 * ss.length + 32 * ps.length, by omega, by omega, by omega, by rw [tot_zero]; exact (Int.add_zero _).symm, rfl, rfl⟩
      case round =>
        obtain ⟨k, n, hk, hn0, hn, HN, rfl, rfl⟩ := hrel
        by_cases hlt : k < ss.length
        · obtain ⟨x, hx⟩ : ∃ x, ss[k]? = some x := ⟨_, List.getElem?_eq_getElem hlt⟩
          have HN' := hide (tot_take ss k x hx)
          have hxs : x.size ≤ 1048576 := by have := tot_take_le ss (k + 1); rw [HN'.out] at this; omega
          obtain ⟨b, o, hab, hc⟩ := H.out.atS hx
          subst hab
          clear hx
          by_cases hb2 : n + (x.size : Int) ≤ 1048576
          · go_wp2
            go_round
            case rel => exact ⟨k + 1, n + x.size, by omega, by omega, by omega, by rw [HN'.out]; have := HN.out; show _ = _; omega, by go_num, by go_num⟩
            case measure => simp [intOf]; omega
          · go_wp2
            go_ret; exact ⟨LocE.no rfl, rfl⟩
        · have hk' : k = ss.length := by omega
          subst hk'
          rw [List.take_length] at HN
          clear hlt hk
          go_wp2
          go_loop [5, 7] (fun t i => ∃ (k : Nat) (m : Int), k ≤ ps.length ∧ 0 ≤ m ∧ m ≤ 1048576 ∧ Hid (m = n + tot2 (ps.take k)) ∧ i = .int .i64 k ∧ t = .int .i64 m) (fun _ i => ps.length - (intOf i).toNat)
          case atStart => exact ⟨0, n, by omega, by omega, by omega, by rw [tot2_zero]; exact (Int.add_zero _).symm, rfl, rfl⟩
          case round =>
            obtain ⟨k, m, hk, hm0, hm, HM, rfl, rfl⟩ := hrel
            by_cases hlt : k < ps.length
            · obtain ⟨⟨x, y⟩, hx⟩ : ∃ x, ps[k]? = some x := ⟨_, List.getElem?_eq_getElem hlt⟩
              have HM' := hide (tot2_take ps k (x, y) hx)
              have hxs : x.size + y.size ≤ 1048576 := by have := tot2_take_le ps (k + 1); rw [HM'.out] at this; simp only at this; omega
              obtain ⟨b, o, hab, hc, hc'⟩ := H2.out.at2 hx
              subst hab
              clear hx
              simp only at hc hc'
              by_cases hb2 : m + (x.size : Int) ≤ 1048576
              · by_cases hb4 : m + (x.size : Int) + (y.size : Int) ≤ 1048576
                · go_wp2
                  go_round
                  case rel => exact ⟨k + 1, m + x.size + y.size, by omega, by omega, by omega, by rw [HM'.out]; have := HM.out; show _ = _; simp only; omega, by go_num, by go_num⟩
                  case measure => simp [intOf]; omega
                · go_wp2
                  go_ret; exact ⟨LocE.no rfl, rfl⟩
              · go_wp2
                go_ret; exact ⟨LocE.no rfl, rfl⟩
            · go_wp2
              go_ret
              have hk' : k = ps.length := by omega
              subst hk'
              have h5 := HM.out
              have h6 := HN.out
              rw [List.take_length] at h5
              exact ⟨LocE.yes rfl (by omega) (by omega), rfl⟩
    · go_enter Try.func14, Try.ntmps14
      go_wp2
      go_ret; exact ⟨LocE.no rfl, rfl⟩
  · by_cases hg1 : ss.length ≤ 65536
    · have hg2 : ¬ ps.length ≤ 65536 := fun h => hg ⟨hg1, h⟩
      clear hg
      go_enter Try.func14, Try.ntmps14
      go_wp2
      go_ret; exact ⟨LocE.no rfl, rfl⟩
    · clear hg
      go_enter Try.func14, Try.ntmps14
      go_wp2
      go_ret; exact ⟨LocE.no rfl, rfl⟩

/-! ### appendName -/
def AppE (w : World) (base : Nat) (n : Nat) (xs : List Value) (e : Ending) (w' : World) : Prop := ∃ v', e = .returned v' ∧ w'.ownsRow base 5 1 v' n xs ∧ Below base w w'

set_option maxHeartbeats 400000 in
theorem appendName_any (base : Nat) (v : Value) (n : Nat) (xs : List Value) (s : ByteArray) (w : World) (h : w.ownsRow base 5 1 v n xs) (hb : base ≤ w.heap.size) (h255 : s.size ≤ 255) (hn : n ≤ 8388608) :
    Calls Try.prog 16 #[v, .string s] w fun e w' => AppE w base (n + 1 + s.size) (xs ++ [Value.int .u8 (s.size : Int)] ++ byteCells s) e w' := by
  obtain ⟨i0, hi, hz0, hz1, hz2⟩ := info_parts Try.info5
  have O := hide h
  clear h
  go_enter Try.func16, Try.ntmps16
  go_wp2_with (at_builtin; refine wpList_append_src _ rfl (.tmp 5) (.tmp 9) 22 22 rfl base 5 i0 (.int .u8 0) 1 1 Try.underlying22 hi hz0 hz1 hz2 rfl _ _ _ rfl (O.out.alloc _) _ _ _ rfl (Src.one Try.underlying22 _ _ rfl _) ?c1 ?c2 ?c3 ?_)
  case c1 => unfold maxLen; omega
  case c2 => omega
  case c3 => simp; omega
  intro d3 w3 hO3 hG3
  have B3 := hide (((Below.refl base w).alloc hb _).grown hG3 (by simp; omega) (fun k hk => (O.out.lt k hk).1))
  have O3 := hide hO3
  clear hO3 hG3 O
  go_wp2_with (at_builtin; refine wpList_append_src _ rfl (.tmp 11) (.tmp 12) 22 9 rfl base 5 i0 (.int .u8 0) 1 1 Try.underlying22 hi hz0 hz1 hz2 rfl _ _ _ rfl O3.out _ _ _ rfl (Src.ofString _ Try.underlying9 s) ?c1 ?c2 ?c3 ?_)
  case c1 => unfold maxLen; omega
  case c2 => omega
  case c3 => have := B3.out.size; omega
  intro d4 w4 hO4 hG4
  have B4 := hide (B3.out.grown hG4 (by have := B3.out.size; omega) (fun k hk => (O3.out.lt k hk).1))
  have O4 := hide hO4
  clear hO4 hG4 O3 B3
  go_wp2_with fail
  go_ret
  refine ⟨_, rfl, ?_, B4.out⟩
  have h5 := O4.out
  simp only [List.append_assoc] at h5 ⊢
  exact h5
end Go.Proofs.Qxb6605489a
