import Derived.Test.Qxb6605489aWalkC
namespace Go.Proofs.Qxb6605489a
open Go.RowKit

def enc (ss : List ByteArray) : List UInt8 := ss.flatMap fun s => UInt8.ofNat s.size :: s.data.toList
theorem enc_length (ss : List ByteArray) : (enc ss).length = nsize ss := by
  induction ss with
  | nil => rfl
  | cons s r ih =>
    simp only [enc, List.flatMap_cons, List.length_append, List.length_cons, size_len] at ih ⊢
    rw [ih]
    simp only [nsize, tot, List.length_cons, List.map_cons, List.sum_cons]
    omega
theorem enc_take (ss : List ByteArray) (k : Nat) (x : ByteArray) (hx : ss[k]? = some x) : enc (ss.take (k + 1)) = enc (ss.take k) ++ [UInt8.ofNat x.size] ++ x.data.toList := by
  have hlt := (List.getElem?_eq_some_iff.1 hx).1
  have e := (List.getElem?_eq_some_iff.1 hx).2
  rw [List.take_succ_eq_append_getElem hlt, e]
  simp [enc]
theorem enc_full (ss : List ByteArray) (k : Nat) (x : ByteArray) (hx : ss[k]? = some x) : enc ss = full (enc (ss.take k)) x (enc (ss.drop (k + 1))) := by
  have hlt := (List.getElem?_eq_some_iff.1 hx).1
  have e := (List.getElem?_eq_some_iff.1 hx).2
  conv => lhs; rw [← List.take_append_drop k ss, List.drop_eq_getElem_cons hlt, e]
  simp [enc, full]

theorem i64_and255 (n : Int) : bits .and .i64 n 255 = n % 256 := by
  have h255 : (BitVec.ofInt 64 255).toNat = 2 ^ 8 - 1 := by decide
  have key : (BitVec.ofInt 64 n &&& BitVec.ofInt 64 255).toNat = (n % ((2 ^ 64 : Nat) : Int)).toNat % 2 ^ 8 := by
    rw [BitVec.toNat_and, BitVec.toNat_ofInt, h255, Nat.and_two_pow_sub_one_eq_mod]
  show IntKind.i64.wrap ((BitVec.ofInt 64 n &&& BitVec.ofInt 64 255).toNat : Nat) = n % 256
  rw [key, IntKind.wrap_i64]
  omega

theorem byte_and (n : Nat) : bits BinOp.and IntKind.i64 (n : Int) 255 % 256 = ((UInt8.ofNat n).toNat : Int) := by
  rw [i64_and255, UInt8.toNat_ofNat']
  omega

theorem B_next (ss : List ByteArray) (k : Nat) (x : ByteArray) (hx : ss[k]? = some x) :
    B (enc (ss.take k)) ++ [Value.int IntKind.u8 (bits BinOp.and IntKind.i64 (x.size : Int) 255 % 256)] ++ byteCells x = B (enc (ss.take (k + 1))) := by
  rw [enc_take ss k x hx, byte_and]
  simp [B, byteCells]

/-- Every one of the first k names fits a length byte. -/
def shortB (ss : List ByteArray) : Bool := ss.all fun s => decide (s.size ≤ 255)
theorem short_take (ss : List ByteArray) (k : Nat) (x : ByteArray) (hx : ss[k]? = some x) : shortB (ss.take (k + 1)) = (shortB (ss.take k) && decide (x.size ≤ 255)) := by
  have hlt := (List.getElem?_eq_some_iff.1 hx).1
  have e := (List.getElem?_eq_some_iff.1 hx).2
  rw [List.take_succ_eq_append_getElem hlt, e]
  simp [shortB]
theorem short_at (ss : List ByteArray) (k : Nat) (x : ByteArray) (hx : ss[k]? = some x) (h : shortB ss = true) : x.size ≤ 255 := by
  have := List.all_eq_true.1 h x (List.mem_of_getElem? hx)
  simpa using this

set_option maxHeartbeats 1000000 in
set_option maxRecDepth 100000 in
theorem names_any (ss : List ByteArray) (v : Value) (w : World) (h : Row w v (S ss)) (hs : ∀ s ∈ ss, s.size ≤ maxLen) :
    Calls Try.prog 4 #[v] w fun e w' => Yes w e w' := by
  have C9 := hide (zzBytes9_any ss v w h hs)
  have H := hide h
  obtain ⟨a, c, rfl, hl, hm⟩ := h.openS
  have HS := hide hs
  clear hs h
  unfold maxLen at hm
  obtain ⟨i0, hi, hz0, hz1, hz2⟩ := info_parts Try.info5
  go_enter Try.func4, Try.ntmps4
  go_wp2_with fail
  refine C9.out.mono ?_
  rintro e w' ⟨⟨r, rfl, hr⟩, rfl⟩
  clear C9
  cases r with
  | false =>
    go_wp2_with fail
    go_ret
    exact ⟨rfl, Below.refl _ _⟩
  | true =>
    have hr := hr rfl
    have hT := tot_take_le ss
    by_cases hbig : ss.length ≤ 65536
    · go_wp2_with fail
      go_loop [3, 4] (fun t i => ∃ (k : Nat) (n : Int), k ≤ ss.length ∧ 0 ≤ n ∧ n ≤ 1048576 ∧ Hid (n = 16 * k + tot (ss.take k)) ∧ i = .int .i64 k ∧ t = .int .i64 n) (fun _ i => ss.length - (intOf i).toNat)
      case atStart => exact ⟨0, 0, by omega, by omega, by omega, by rw [tot_zero]; rfl, rfl, rfl⟩
      case round =>
        obtain ⟨k, n, hk, hn0, hn, HN, rfl, rfl⟩ := hrel
        by_cases hlt : k < ss.length
        · obtain ⟨x, hx⟩ : ∃ x, ss[k]? = some x := ⟨_, List.getElem?_eq_getElem hlt⟩
          have HN' := hide (tot_take ss k x hx)
          have hxs : x.size ≤ 1048576 := by have := hT (k + 1); rw [HN'.out] at this; omega
          obtain ⟨b, o, hab, hc⟩ := H.out.atS hx
          subst hab
          clear hx
          by_cases hb1 : n + 16 ≤ 1048576
          · by_cases hb2 : n + 16 + (x.size : Int) ≤ 1048576
            · go_wp2_with fail
              go_round
              case rel => exact ⟨k + 1, n + 16 + x.size, by omega, by omega, by omega, by rw [HN'.out]; have := HN.out; show _ = _; omega, by go_num, by go_num⟩
              case measure => simp [intOf]; omega
            · go_wp2_with fail
              go_ret
              exact ⟨rfl, Below.refl _ _⟩
          · go_wp2_with fail
            go_ret
            exact ⟨rfl, Below.refl _ _⟩
        · have hk' : k = ss.length := by omega
          subst hk'
          rw [List.take_length] at HN
          have hT : nsize ss ≤ n := by have := HN.out; unfold nsize; omega
          have C10 := hide (cloneStrings_any ss _ w' H.out (by omega))
          go_wp2_with fail
          refine C10.out.mono ?_
          rintro e w1 ⟨v1, rfl, hR1, hB1⟩
          obtain ⟨a1, c1, rfl, hl1, hm1⟩ := hR1.openS
          have R1 := hide hR1
          have B1 := hide hB1
          clear hR1 hB1 H C10 hl hlt
          go_wp2_with (at_make; refine wpList_make_own _ rfl _ _ 22 rfl w1.heap.size 5 i0 (.int .u8 0) 1 Try.underlying22 hi hz0 hz1 _ _ _ n.toNat rfl rfl ?b0 ?b1 ?b2 ?b3 ?_)
          case b0 => omega
          case b1 => rw [hz2]; omega
          case b2 => unfold maxLen; omega
          case b3 => exact Nat.le_refl _
          intro w2 hO2 hG2
          have B2 := hide ((Below.refl w1.heap.size w1).grown hG2 (Nat.le_refl _) (by simp))
          have O2 := hide hO2
          clear hO2 hG2
          go_wp2_with fail
          go_loopw [5, 6, 7] (fun d sb i wr => ∃ k : Nat, k ≤ ss.length ∧ i = .int .i64 k ∧ (∃ sbb : Bool, Hid (sbb = shortB (ss.take k)) ∧ sb = .bool sbb) ∧ Hid (wr.ownsRow w1.heap.size 5 1 d (nsize (ss.take k)) (B (enc (ss.take k)))) ∧ Hid (Below w1.heap.size w1 wr)) (fun _ _ i _ => ss.length - (intOf i).toNat)
          case atStart => exact ⟨0, by omega, rfl, ⟨true, rfl, rfl⟩, O2, B2⟩
          case round =>
            obtain ⟨k, hk, rfl, ⟨sbb, HSB, rfl⟩, O, Bw⟩ := hrel
            by_cases hlt : k < ss.length
            · obtain ⟨x, hx⟩ : ∃ x, ss[k]? = some x := ⟨_, List.getElem?_eq_getElem hlt⟩
              obtain ⟨b, o, hab, hc⟩ := (R1.out.below Bw.out).atS hx
              subst hab
              have HX := hide hx
              have hnk := nsize_take_le ss k
              have hnk' := nsize_take_le ss (k + 1)
              rw [nsize_take ss k x hx] at hnk'
              clear hx
              go_wp2_with (at_builtin; refine wpList_append_src _ rfl (.tmp 50) (.tmp 58) 22 22 rfl w1.heap.size 5 i0 (.int .u8 0) 1 1 Try.underlying22 hi hz0 hz1 hz2 rfl _ _ _ rfl (O.out.alloc _) _ _ _ rfl (Src.one Try.underlying22 _ _ rfl _) ?c1 ?c2 ?c3 ?_)
              case c1 => unfold maxLen; omega
              case c2 => omega
              case c3 => have := Bw.out.size; simp; omega
              intro d3 w3 hO3 hG3
              have B3 := hide ((Bw.out.alloc Bw.out.size _).grown hG3 (by have := Bw.out.size; simp; omega) (fun k hk => (O.out.lt k hk).1))
              have O3 := hide hO3
              have hc3 : w3.cell? ⟨b, o + k, none⟩ = some (.string x) := by
                obtain ⟨b', o', hab, hc⟩ := (R1.out.below B3.out).atS HX.out
                simp only [Option.some.injEq, Addr.mk.injEq, and_true] at hab
                obtain ⟨rfl, rfl⟩ := hab
                exact hc
              clear hO3 hG3 hc
              go_wp2_with (at_builtin; refine wpList_append_src _ rfl (.tmp 60) (.tmp 64) 22 9 rfl w1.heap.size 5 i0 (.int .u8 0) 1 1 Try.underlying22 hi hz0 hz1 hz2 rfl _ _ _ rfl O3.out _ _ _ rfl (Src.ofString _ Try.underlying9 x) ?c1 ?c2 ?c3 ?_)
              case c1 => unfold maxLen; omega
              case c2 => omega
              case c3 => exact B3.out.size
              intro d4 w4 hO4 hG4
              have B4 := hide (B3.out.grown hG4 B3.out.size (fun k hk => (O3.out.lt k hk).1))
              have hO4' : w4.ownsRow w1.heap.size 5 1 d4 (nsize (ss.take (k + 1))) (B (enc (ss.take (k + 1)))) := by
                rw [← B_next ss k x HX.out, nsize_take ss k x HX.out]
                simpa [Nat.add_assoc] using hO4
              have O4 := hide hO4'
              have HSB' := hide (short_take ss k x HX.out)
              have hc4 : w4.cell? ⟨b, o + k, none⟩ = some (.string x) := by
                obtain ⟨b', o', hab, hc⟩ := (R1.out.below B4.out).atS HX.out
                simp only [Option.some.injEq, Addr.mk.injEq, and_true] at hab
                obtain ⟨rfl, rfl⟩ := hab
                exact hc
              clear hO4 hG4 hO4' hc3 O3 B3 O Bw
              by_cases h255 : x.size ≤ 255
              · go_wp2_with fail
                go_roundw
                case rel => exact ⟨k + 1, by omega, by go_num, ⟨sbb, by rw [HSB'.out, decide_eq_true h255, Bool.and_true]; exact HSB, rfl⟩, O4, B4⟩
                case measure => simp [intOf]; omega
              · go_wp2_with fail
                go_roundw
                case rel => exact ⟨k + 1, by omega, by go_num, ⟨false, by rw [HSB'.out, decide_eq_false h255, Bool.and_false]; exact rfl, rfl⟩, O4, B4⟩
                case measure => simp [intOf]; omega
            · have hk' : k = ss.length := by omega
              subst hk'
              rw [List.take_length] at O HSB
              have R2 := hide (R1.out.below Bw.out)
              have BR := hide (Row.of_owns O.out)
              obtain ⟨ad, cd, rfl, hld, hmd⟩ := BR.out.openB
              have el := enc_length ss
              rw [el] at BR hld
              have EL := hide el
              clear el
              have Bz := hide (B1.out.trans (Bw.out.mono B1.out.size))
              have C11 := hide (ZZnamesSize_any ss _ wr R2.out (by omega))
              clear Bw B1 B2 O2 O
              rw [EL.out] at *
              go_wp2_with fail
              refine C11.out.mono ?_
              rintro e wx ⟨rfl, rfl⟩
              clear C11
              cases sbb with
              | false =>
                go_wp2_with fail
                go_ret
                exact ⟨rfl, Bz.out⟩
              | true =>
                have hnn : nsize ss ≤ 1048576 := by omega
                go_wp2_with fail
                go_loop [8, 9] (fun t i => ∃ k m : Nat, k ≤ ss.length ∧ m ≤ 1048576 ∧ Hid (m = nsize (ss.take k)) ∧ i = .int .i64 k ∧ t = .int .i64 m) (fun _ i => ss.length - (intOf i).toNat)
                case atStart => exact ⟨0, 0, by omega, by omega, (nsize_zero ss).symm, rfl, rfl⟩
                case round =>
                  obtain ⟨k, m, hk, hmm, HM, rfl, rfl⟩ := hrel
                  by_cases hlt : k < ss.length
                  · obtain ⟨x, hx⟩ : ∃ x, ss[k]? = some x := ⟨_, List.getElem?_eq_getElem hlt⟩
                    have h255 := short_at ss k x hx HSB.out.symm
                    have hm' : m = (enc (ss.take k)).length := by rw [enc_length]; exact HM.out
                    have BR' := BR.out
                    rw [enc_full ss k x hx] at BR'
                    have C12 := readName_yes (enc (ss.take k)) x (enc (ss.drop (k + 1))) _ wx BR' h255 (by rw [← enc_full ss k x hx, enc_length]; omega)
                    rw [← hm'] at C12
                    have C12 := hide C12
                    have HM' := hide (nsize_take ss k x hx)
                    have hms : m + (1 + x.size) ≤ nsize ss := by
                      have h5 := nsize_take_le ss (k + 1)
                      rw [HM'.out, ← HM.out] at h5
                      exact h5
                    obtain ⟨b, o, hab, hc⟩ := R2.out.atS hx
                    subst hab
                    clear hx hm' BR'
                    go_wp2_with fail
                    refine C12.out.mono ?_
                    rintro e wy ⟨rfl, rfl⟩
                    go_wp2_with fail
                    go_round
                    case rel => exact ⟨k + 1, m + (1 + x.size), by omega, by omega, by rw [HM'.out, ← HM.out]; exact rfl, by go_num, by go_num⟩
                    case measure => simp [intOf]; omega
                  · have hk' : k = ss.length := by omega
                    subst hk'
                    rw [List.take_length] at HM
                    have hm' : m = nsize ss := HM.out
                    subst hm'
                    have C8 := hide (ZZdecodeName_any (enc ss) _ (nsize ss) 0 wx BR.out (by rw [enc_length]; omega) (by omega))
                    unfold DecE at C8
                    rw [dec_out (enc ss) (nsize ss) 0 (by rw [enc_length]; exact Nat.le_refl _), decV_no] at C8
                    go_wp2_with fail
                    refine C8.out.mono ?_
                    rintro e wy ⟨rfl, rfl⟩
                    go_wp2_with fail
                    go_ret
                    exact ⟨rfl, Bz.out⟩
    · go_wp2_with fail
      go_ret
      exact ⟨rfl, Below.refl _ _⟩
end Go.Proofs.Qxb6605489a
