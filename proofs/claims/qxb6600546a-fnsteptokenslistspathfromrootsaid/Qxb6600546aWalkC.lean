import Derived.Test.Qxb6600546aWalkB
namespace Go.Proofs.Qxb6600546a
open Go.RowKit

theorem over0_any (ss : List ByteArray) (v : Value) (w : World) (h : Row w v (S ss)) (hs : ∀ s ∈ ss, s.size ≤ maxLen) :
    Calls Try.prog 6 #[v, .int .i64 0, .int .i64 0] w fun e w' => OverE e (16 * ss.length + tot ss) ∧ w' = w := by
  have h5 := overBytes_any ss v 0 0 w h hs (Nat.zero_le _) (Nat.zero_le _)
  rw [Nat.zero_add] at h5
  exact h5

theorem size_le_tot (ss : List ByteArray) (k : Nat) (x : ByteArray) (hx : ss[k]? = some x) : x.size ≤ tot ss := by
  have h1 := tot_take_le ss (k + 1)
  rw [tot_take ss k x hx] at h1
  omega

set_option maxHeartbeats 1000000 in
set_option maxRecDepth 100000 in
theorem lists_any (ss : List ByteArray) (v : Value) (w : World) (h : Row w v (S ss)) (hs : ∀ s ∈ ss, s.size ≤ maxLen) :
    Calls Try.prog 3 #[v] w fun e w' => Yes w e w' := by
  have C5 := hide (zzBytes5_any ss v w h hs)
  have C6 := hide (over0_any ss v w h hs)
  have q22 : ∀ (w : World) (a : Option Addr) (n c n' c' : Nat), (binOp .eql 22 (.slice a n c) (.slice none n' c')).run Try.prog w = .ok (.bool a.isNone) w := fun w a n c n' c' => Lib.run_eql_slice_nil w _ _ a n c n' c' Try.underlying22
  have H := hide h
  obtain ⟨a, c, rfl, hl, hm⟩ := h.openS
  clear hs h
  unfold maxLen at hm
  go_enter Try.func3, Try.ntmps3
  go_wp2_with fail
  refine C5.out.mono ?_
  rintro e w' ⟨⟨r, rfl, hr⟩, rfl⟩
  cases r with
  | false =>
    go_wp2_with fail
    go_ret
    exact ⟨rfl, Below.refl _ _⟩
  | true =>
  clear C5 hr
  go_wp2_with fail
  refine C6.out.mono ?_
  rintro e w1 ⟨⟨r, rfl, hr⟩, rfl⟩
  cases r with
  | true =>
    go_wp2_with fail
    go_ret
    exact ⟨rfl, Below.refl _ _⟩
  | false =>
  have hr := hr rfl
  clear C6
  have hlen : ss.length ≤ 1048576 := by omega
  have HR := hide hr
  clear hr
  have C7 := hide (cloneStrings_any ss _ w1 H.out hlen)
  go_wp2_with fail
  refine C7.out.mono ?_
  rintro e w2 ⟨v2, rfl, hR2, hB2⟩
  have R2 := hide hR2
  have B2 := hide hB2
  have C8 := hide (chain_any ss v2 w2 hR2 hlen)
  obtain ⟨a2, c2, rfl, hl2, hm2⟩ := hR2.openS
  clear hR2 hB2 C7 H
  go_wp2_with fail
  refine C8.out.mono ?_
  rintro e w3 ⟨u, rfl, hC3, hB3⟩
  have B3 := hide (B2.out.trans (hB3.mono B2.out.size))
  have R3 := hide (R2.out.below hB3)
  have C9 := hide (ZZtokens_any ss.reverse _ w3 hC3 (by rw [List.length_reverse]; exact hlen))
  rw [List.reverse_reverse] at C9
  have CH := hide hC3
  clear hC3 hB3 C8 B2 R2
  go_wp2_with fail
  refine C9.out.mono ?_
  rintro e w4 ⟨g, rfl, hO4, hB4⟩
  have O4 := hide hO4
  have B4 := hide hB4
  have C10 := hide (same_any ss _ _ w4 (Row.of_owns hO4) (R3.out.below hB4))
  clear hO4 hB4 C9
  go_wp2_with fail
  refine C10.out.mono ?_
  rintro e w5 ⟨rfl, hB5⟩
  have hg : Hid (w3.heap.size ≤ g ∧ g < w4.heap.size) := O4.out.lt g rfl
  have O5 : Hid (w5.ownsRow w3.heap.size 9 1 (.slice (some ⟨g, 0, none⟩) ss.length ss.length) ss.length (S ss)) := by
    refine O4.out.kept (row := none) ⟨hB5.os, hB5.tape, hB5.output, hB5.size, fun k hk _ => hB5.block k hk⟩ (.inr (by simp [Value.ownBlock]))
  have B5 := hide (B4.out.trans (hB5.mono B4.out.size))
  clear hB5 C10 O4 B4
  go_wp2_with fail
  go_loopw [5] (fun i wr => ∃ k : Nat, k ≤ ss.length ∧ i = .int .i64 k ∧ (∃ ts : List ByteArray, Hid (ts.length = ss.length ∧ (∀ j x, k ≤ j → ts[j]? = some x → x.size ≤ 1048576) ∧ wr.ownsRow w3.heap.size 9 1 (.slice (some ⟨g, 0, none⟩) ss.length ss.length) ss.length (S ts))) ∧ Hid (Below w3.heap.size w3 wr)) (fun i _ => ss.length - (intOf i).toNat)
  case atStart => exact ⟨0, by omega, rfl, ⟨ss, rfl, fun j x _ hx => by have := size_le_tot ss j x hx; have := HR.out; omega, O5⟩, B5⟩
  case round =>
    obtain ⟨k, hk, rfl, ⟨ts, HT⟩, Bw⟩ := hrel
    by_cases hlt : k < ss.length
    · obtain ⟨hT1, hT2, hT3⟩ := HT.out
      obtain ⟨x, hx⟩ : ∃ x, ts[k]? = some x := ⟨_, List.getElem?_eq_getElem (by omega)⟩
      have hxs : x.size ≤ 1048576 := hT2 k x (Nat.le_refl _) hx
      have hc : wr.cell? ⟨g, k, none⟩ = some (.string x) := by
        rw [hT3.cellAt k (by omega)]
        exact S_get hx
      have hf : wr.frozen? ⟨g, k, none⟩ = false := hT3.frozenAt k
      clear hT1 hT2 hT3 hx
      go_wp2_with fail
      go_roundw
      case rel =>
        obtain ⟨hT1, hT2, hT3⟩ := HT.out
        refine ⟨k + 1, by omega, by go_num, ⟨ts.set k (x ++ ⟨#[33]⟩), ?_, ?_, ?_⟩, Bw.out.setCell hg.out.1 _⟩
        · rw [List.length_set]; exact hT1
        · intro j y hj hy
          rw [List.getElem?_set_ne (by omega)] at hy
          exact hT2 j y (by omega) hy
        · have h5 := (hT3.stored k (.string (x ++ ⟨#[33]⟩))).1
          rw [S_set] at h5
          exact h5
      case measure => simp [intOf]; omega
    · have C9 := hide (ZZtokens_any ss.reverse _ wr (CH.out.below Bw.out) (by rw [List.length_reverse]; exact hlen))
      rw [List.reverse_reverse] at C9
      go_wp2_with fail
      refine C9.out.mono ?_
      rintro e w6 ⟨g', rfl, hO6, hB6⟩
      have hb6 := Bw.out.trans (hB6.mono Bw.out.size)
      have C10 := hide (same_any ss _ _ w6 (Row.of_owns hO6) (R3.out.below hb6))
      have B6 := hide hb6
      clear hO6 hB6 C9 hb6 HT
      go_wp2_with fail
      refine C10.out.mono ?_
      rintro e w7 ⟨rfl, hB7⟩
      have B7 := hide (B3.out.trans ((B6.out.trans (hB7.mono B6.out.size)).mono B3.out.size))
      clear hB7
      go_wp2_with fail
      go_ret
      exact ⟨rfl, B7.out⟩
end Go.Proofs.Qxb6600546a
