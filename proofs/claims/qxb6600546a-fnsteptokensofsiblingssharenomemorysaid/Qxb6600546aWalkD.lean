import Derived.Test.Qxb6600546aWalkC
namespace Go.Proofs.Qxb6600546a
open Go.RowKit

def BoolE (e : Ending) : Prop := ∃ r : Bool, e = .returned (.bool r)
theorem BoolE.mk {r : Bool} {v : Value} (h : v = .bool r) : BoolE (.returned v) := ⟨r, by rw [h]⟩

set_option maxHeartbeats 1000000 in
theorem zzBytes11_any (ss : List ByteArray) (v : Value) (s1 s2 : ByteArray) (w : World) (h : Row w v (S ss)) (hs : ∀ s ∈ ss, s.size ≤ maxLen) (h1 : s1.size ≤ maxLen) (h2 : s2.size ≤ maxLen) :
    Calls Try.prog 11 #[v, .string s1, .string s2] w fun e w' => BoolE e ∧ w' = w := by
  have H := hide h
  obtain ⟨a, c, rfl, hl, hm⟩ := h.openS
  have HS := hide hs
  clear hs h
  unfold maxLen at hm h1 h2
  go_enter Try.func11, Try.ntmps11
  go_wp2
  all_goals try (go_ret; exact ⟨BoolE.mk rfl, rfl⟩)
  go_loop [7, 8] (fun t i => ∃ (k : Nat) (n : Int), k ≤ ss.length ∧ 0 ≤ n ∧ n ≤ 1048576 ∧ i = .int .i64 k ∧ t = .int .i64 n) (fun _ i => ss.length - (intOf i).toNat)
  case atStart => exact ⟨0, ss.length, by omega, by omega, by omega, rfl, rfl⟩
  case round =>
    obtain ⟨k, n, hk, hn0, hn, rfl, rfl⟩ := hrel
    by_cases hlt : k < ss.length
    · obtain ⟨x, hx⟩ : ∃ x, ss[k]? = some x := ⟨_, List.getElem?_eq_getElem hlt⟩
      have hxs : x.size ≤ 9223372036854775807 := by
        have := HS.out x (List.mem_of_getElem? hx)
        unfold maxLen at this
        omega
      obtain ⟨b, o, hab, hc⟩ := H.out.atS hx
      subst hab
      clear hx
      by_cases hb1 : x.size ≤ 1048576
      · by_cases hb2 : n + (x.size : Int) ≤ 1048576
        · go_wp2
          go_round
          case rel => exact ⟨k + 1, n + x.size, by omega, by omega, by omega, by go_num, by go_num⟩
          case measure => simp [intOf]; omega
        · go_wp2
          go_ret; exact ⟨BoolE.mk rfl, rfl⟩
      · go_wp2
        go_ret; exact ⟨BoolE.mk rfl, rfl⟩
    · by_cases g1 : s1.size ≤ 1048576
      · by_cases g2 : n + (s1.size : Int) ≤ 1048576
        · by_cases g3 : s2.size ≤ 1048576
          · by_cases g4 : n + (s1.size : Int) + (s2.size : Int) ≤ 1048576
            all_goals
              go_wp2
              go_ret; exact ⟨BoolE.mk rfl, rfl⟩
          · go_wp2
            go_ret; exact ⟨BoolE.mk rfl, rfl⟩
        · go_wp2
          go_ret; exact ⟨BoolE.mk rfl, rfl⟩
      · go_wp2
        go_ret; exact ⟨BoolE.mk rfl, rfl⟩

theorem size_snoc (ss : List ByteArray) (x : ByteArray) (j : Nat) (y : ByteArray) (h : (ss ++ [x])[j]? = some y) : y.size ≤ tot ss + x.size := by
  rcases List.mem_append.1 (List.mem_of_getElem? h) with hm | hm
  · obtain ⟨i, hi⟩ := List.getElem?_of_mem hm
    have := size_le_tot ss i y hi
    omega
  · simp at hm
    subst hm
    omega

set_option maxHeartbeats 4000000 in
set_option maxRecDepth 100000 in
theorem sib_any (ss : List ByteArray) (v : Value) (sa sb : ByteArray) (w : World) (h : Row w v (S ss)) (hs : ∀ s ∈ ss, s.size ≤ maxLen) (h1 : sa.size ≤ maxLen) (h2 : sb.size ≤ maxLen) :
    Calls Try.prog 4 #[v, .string sa, .string sb] w fun e w' => Yes w e w' := by
  have C11 := hide (zzBytes11_any ss v sa sb w h hs h1 h2)
  have C6 := hide (overBytes_any ss v sa.size sb.size w h hs h1 h2)
  have H := hide h
  obtain ⟨a, c, rfl, hl, hm⟩ := h.openS
  clear hs h
  unfold maxLen at hm h1 h2
  go_enter Try.func4, Try.ntmps4
  go_wp2_with fail
  refine C11.out.mono ?_
  rintro e w' ⟨⟨r, rfl⟩, rfl⟩
  cases r with
  | false =>
    go_wp2_with fail
    go_ret
    exact ⟨rfl, Below.refl _ _⟩
  | true =>
  clear C11
  go_wp2_with fail
  refine C6.out.mono ?_
  rintro e w1 ⟨⟨r, rfl, hr⟩, rfl⟩
  cases r with
  | true =>
    go_wp2_with fail
    go_ret
    exact ⟨rfl, Below.refl _ _⟩
  | false =>
  have hr := hr rfl
  clear C6
  have hlen : ss.length ≤ 65536 := by omega
  have HR := hide hr
  clear hr h1 h2
  have C7 := hide (cloneStrings_any ss _ w1 H.out (by omega))
  go_wp2_with fail
  refine C7.out.mono ?_
  rintro e w2 ⟨v2, rfl, hR2, hB2⟩
  have R2 := hide hR2
  have B2 := hide hB2
  have C8 := hide (chain_any ss v2 w2 hR2 (by omega))
  obtain ⟨a2, c2, rfl, hl2, hm2⟩ := hR2.openS
  clear hR2 hB2 C7 H
  go_wp2_with fail
  refine C8.out.mono ?_
  rintro e w3 ⟨u, rfl, hC3, hB3⟩
  have B3 := hide (B2.out.trans (hB3.mono B2.out.size))
  have R3 := hide (R2.out.below hB3)
  have C12 := hide (newStep_any _ u sa w3 hC3)
  have CP := hide hC3
  clear hC3 hB3 C8 B2 R2
  go_wp2_with fail
  refine C12.out.mono ?_
  rintro e w4 ⟨ua, rfl, hC4, hB4⟩
  have CA := hide hC4
  have B4 := hide hB4
  have C12' := hide (newStep_any _ u sb w4 (CP.out.below hB4))
  clear hC4 hB4 C12
  go_wp2_with fail
  refine C12'.out.mono ?_
  rintro e w5 ⟨ub, rfl, hC5, hB5⟩
  have B5 := hide (B3.out.trans ((B4.out.trans (hB5.mono B4.out.size)).mono B3.out.size))
  have CP5 := hide ((CP.out.below B4.out).below hB5)
  have CA5 := hide (CA.out.below hB5)
  have CB5 := hide hC5
  have R5 := hide ((R3.out.below B4.out).below hB5)
  clear hC5 hB5 C12' B3 R3 CP CA B4
  have C9 := hide (ZZtokens_any (sa :: ss.reverse) _ w5 CA5.out (by rw [List.length_cons, List.length_reverse]; omega))
  rw [List.reverse_cons, List.reverse_reverse] at C9
  go_wp2_with fail
  refine C9.out.mono ?_
  rintro e w6 ⟨g, rfl, hO6, hB6⟩
  have O6 := hide hO6
  have B6 := hide hB6
  have C13 := hide (pathThen_any ss sa _ _ w6 (Row.of_owns hO6) (R5.out.below hB6) (by omega))
  clear hO6 hB6 C9
  rw [List.length_append, List.length_singleton] at *
  go_wp2_with fail
  refine C13.out.mono ?_
  rintro e w7 ⟨rfl, hB7⟩
  have hg : Hid (w5.heap.size ≤ g ∧ g < w6.heap.size) := O6.out.lt g rfl
  have O7 : Hid (w7.ownsRow w5.heap.size 9 1 (.slice (some ⟨g, 0, none⟩) (ss.length + 1) (ss.length + 1)) (ss.length + 1) (S (ss ++ [sa]))) := by
    refine O6.out.kept (row := none) ⟨hB7.os, hB7.tape, hB7.output, hB7.size, fun k hk _ => hB7.block k hk⟩ (.inr (by simp [Value.ownBlock]))
  have B7 := hide (B6.out.trans (hB7.mono B6.out.size))
  clear hB7 C13 O6 B6
  go_wp2_with fail
  go_loopw [11] (fun i wr => ∃ k : Nat, k ≤ ss.length + 1 ∧ i = .int .i64 k ∧ (∃ ts : List ByteArray, Hid (ts.length = ss.length + 1 ∧ (∀ j x, k ≤ j → ts[j]? = some x → x.size ≤ 1048576) ∧ wr.ownsRow w5.heap.size 9 1 (.slice (some ⟨g, 0, none⟩) (ss.length + 1) (ss.length + 1)) (ss.length + 1) (S ts))) ∧ Hid (Below w5.heap.size w5 wr)) (fun i _ => ss.length + 1 - (intOf i).toNat)
  case atStart => exact ⟨0, by omega, rfl, ⟨ss ++ [sa], by simp, fun j x _ hx => by have := size_snoc ss sa j x hx; have := HR.out; omega, O7⟩, B7⟩
  case round =>
    obtain ⟨k, hk, rfl, ⟨ts, HT⟩, Bw⟩ := hrel
    by_cases hlt : k < ss.length + 1
    · obtain ⟨hT1, hT2, hT3⟩ := HT.out
      obtain ⟨x, hx⟩ : ∃ x, ts[k]? = some x := ⟨_, List.getElem?_eq_getElem (by omega)⟩
      have hxs : x.size ≤ 1048576 := hT2 k x (Nat.le_refl _) hx
      have hc : wr.cell? ⟨g, k, none⟩ = some (.string x) := by
        rw [hT3.cellAt k (by omega)]
        exact S_get hx
      have hf : wr.frozen? ⟨g, k, none⟩ = false := hT3.frozenAt k
      clear hT1 hT2 hT3 hx
      go_wp2_with fail
      go_roundw
      case rel =>
        obtain ⟨hT1, hT2, hT3⟩ := HT.out
        refine ⟨k + 1, by omega, by go_num, ⟨ts.set k (x ++ ⟨#[33]⟩), ?_, ?_, ?_⟩, Bw.out.setCell hg.out.1 _⟩
        · rw [List.length_set]; exact hT1
        · intro j y hj hy
          rw [List.getElem?_set_ne (by omega)] at hy
          exact hT2 j y (by omega) hy
        · have h5 := (hT3.stored k (.string (x ++ ⟨#[33]⟩))).1
          rw [S_set] at h5
          exact h5
      case measure => simp [intOf]; omega
    · have C9 := hide (ZZtokens_any (sb :: ss.reverse) _ wr (CB5.out.below Bw.out) (by rw [List.length_cons, List.length_reverse]; omega))
      rw [List.reverse_cons, List.reverse_reverse] at C9
      clear HT
      go_wp2_with fail
      refine C9.out.mono ?_
      rintro e w8 ⟨g8, rfl, hO8, hB8⟩
      have hb8 := Bw.out.trans (hB8.mono Bw.out.size)
      have C13 := hide (pathThen_any ss sb _ _ w8 (Row.of_owns hO8) (R5.out.below hb8) (by omega))
      rw [List.length_append, List.length_singleton] at C13
      have B8 := hide hb8
      clear hO8 hB8 C9 hb8 Bw
      go_wp2_with fail
      refine C13.out.mono ?_
      rintro e w9 ⟨rfl, hB9⟩
      have B9 := hide (B8.out.trans (hB9.mono B8.out.size))
      clear hB9 C13 B8
      have C9 := hide (ZZtokens_any ss.reverse _ w9 (CP5.out.below B9.out) (by rw [List.length_reverse]; omega))
      rw [List.reverse_reverse] at C9
      go_wp2_with fail
      refine C9.out.mono ?_
      rintro e wa ⟨ga, rfl, hOa, hBa⟩
      have hba := B9.out.trans (hBa.mono B9.out.size)
      have C10 := hide (same_any ss _ _ wa (Row.of_owns hOa) (R5.out.below hba))
      have Ba := hide hba
      clear hOa hBa C9 hba B9
      go_wp2_with fail
      refine C10.out.mono ?_
      rintro e wb ⟨rfl, hBb⟩
      have Bb := hide (Ba.out.trans (hBb.mono Ba.out.size))
      clear hBb C10 Ba
      have C9 := hide (ZZtokens_any (sa :: ss.reverse) _ wb (CA5.out.below Bb.out) (by rw [List.length_cons, List.length_reverse]; omega))
      rw [List.reverse_cons, List.reverse_reverse] at C9
      go_wp2_with fail
      refine C9.out.mono ?_
      rintro e wc ⟨gc, rfl, hOc, hBc⟩
      have hbc := Bb.out.trans (hBc.mono Bb.out.size)
      have C13 := hide (pathThen_any ss sa _ _ wc (Row.of_owns hOc) (R5.out.below hbc) (by omega))
      rw [List.length_append, List.length_singleton] at C13
      have Bc := hide hbc
      clear hOc hBc C9 hbc Bb
      go_wp2_with fail
      refine C13.out.mono ?_
      rintro e wd ⟨rfl, hBd⟩
      have Bd := hide (B5.out.trans ((Bc.out.trans (hBd.mono Bc.out.size)).mono B5.out.size))
      clear hBd
      go_wp2_with fail
      go_ret
      exact ⟨rfl, Bd.out⟩
end Go.Proofs.Qxb6600546a
