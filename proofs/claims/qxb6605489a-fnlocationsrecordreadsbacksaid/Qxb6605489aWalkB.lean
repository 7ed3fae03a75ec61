import Derived.Test.Qxb6605489aWalkA
namespace Go.Proofs.Qxb6605489a
open Go.RowKit

theorem Row.form {w : World} {v : Value} {xs : List Value} (h : Row w v xs) : ∃ a c, v = .slice a xs.length c := by
  obtain ⟨a, c, hv, _⟩ := h
  exact ⟨a, c, hv⟩
theorem Row.openB {w : World} {v : Value} {bs : List UInt8} (h : Row w v (B bs)) : ∃ a c, v = .slice a bs.length c ∧ bs.length ≤ c ∧ c ≤ maxLen := by
  obtain ⟨a, c, hv, h1, h2, _⟩ := h
  rw [B_length] at hv h1
  exact ⟨a, c, hv, h1, h2⟩
theorem Src.one {P : Program} {t e : TypeId} (ht : P.underlying t = some (.slice e)) (w : World) (x : Value) (hx : x.oneCell' = true) (c : Nat) :
    Src P 1 t (.slice (some ⟨w.heap.size, 0, none⟩) 1 c) 1 [x] (w.alloc (.cells #[x] e)) := by
  refine Src.ofSlice _ ht _ 1 c [x] rfl (cell_one_new _ _ _) (fun u hu => ?_)
  simp at hu
  subst hu
  exact hx

/-- The framed name between its prefix and its suffix. -/
def full (pre : List UInt8) (s : ByteArray) (suf : List UInt8) : List UInt8 := pre ++ UInt8.ofNat s.size :: (s.data.toList ++ suf)

theorem size_len (s : ByteArray) : s.data.toList.length = s.size := by rw [Array.length_toList]; rfl

theorem full_length (pre : List UInt8) (s : ByteArray) (suf : List UInt8) : (full pre s suf).length = pre.length + 1 + s.size + suf.length := by
  simp only [full, List.length_append, List.length_cons, size_len]
  omega

theorem B_full (pre : List UInt8) (s : ByteArray) (suf : List UInt8) (h : s.size ≤ 255) : B pre ++ Value.int IntKind.u8 ↑s.size :: (byteCells s ++ B suf) = B (full pre s suf) := by
  have e : ((UInt8.ofNat s.size).toNat : Int) = (s.size : Int) := by
    rw [UInt8.toNat_ofNat']
    omega
  simp only [B, full, byteCells, List.map_append, List.map_cons, e]

theorem full_at (pre : List UInt8) (s : ByteArray) (suf : List UInt8) : (full pre s suf)[pre.length]? = some (UInt8.ofNat s.size) := by
  unfold full
  rw [List.getElem?_append_right (Nat.le_refl _)]
  simp

theorem full_nat (s : ByteArray) (h : s.size ≤ 255) : (UInt8.ofNat s.size).toNat = s.size := by
  rw [UInt8.toNat_ofNat']
  omega

theorem dec_full_no (pre : List UInt8) (s : ByteArray) (suf : List UInt8) (sh : Int) (h : s.size ≤ 255) (hs : (s.size : Int) < sh) : dec (full pre s suf) pre.length sh = ([], 0, false) :=
  dec_no _ _ _ _ (full_at pre s suf) (.inl (by rw [full_nat s h]; exact hs))

theorem dec_full_yes (pre : List UInt8) (s : ByteArray) (suf : List UInt8) (sh : Int) (h : s.size ≤ 255) (hs : ¬ (s.size : Int) < sh) : decV (dec (full pre s suf) pre.length sh) = .tuple #[.string s, .int .i64 (pre.length + 1 + s.size : Int), .bool true] := by
  rw [dec_yes _ _ _ _ (full_at pre s suf) (by rw [full_nat s h]; exact hs) (by rw [full_nat s h, full_length]; omega), full_nat s h]
  have e : ((full pre s suf).drop (pre.length + 1)).take s.size = s.data.toList := by
    unfold full
    rw [← List.drop_drop, List.drop_left, List.drop_one, List.tail_cons]
    rw [← size_len s]
    exact List.take_left
  rw [e]
  unfold decV bstr
  simp

theorem dec_full_cut (pre : List UInt8) (s : ByteArray) (suf : List UInt8) (sh : Int) (h : s.size ≤ 255) (hs : 0 < s.size) : dec ((full pre s suf).take (pre.length + s.size)) pre.length sh = ([], 0, false) := by
  refine dec_no _ _ _ (UInt8.ofNat s.size) ?_ (.inr ?_)
  · rw [List.getElem?_take_of_lt (by omega), full_at]
  · rw [List.length_take, full_length, full_nat s h]
    omega

theorem dec_full_end (pre : List UInt8) (s : ByteArray) (suf : List UInt8) (sh : Int) : dec ((full pre s suf).take pre.length) pre.length sh = ([], 0, false) :=
  dec_out _ _ _ (by rw [List.length_take]; omega)

theorem Row.cut {w : World} {a : Option Addr} {n c : Nat} {bs : List UInt8} (h : Row w (.slice a n c) (B bs)) (k : Nat) (hk : k ≤ bs.length) : Row w (.slice a k c) (B (bs.take k)) := by
  obtain ⟨a', c', hv, h1, h2, h3, h4⟩ := h
  rw [B_length] at *
  simp only [Value.slice.injEq] at hv
  obtain ⟨rfl, rfl, rfl⟩ := hv
  refine ⟨a, c, by rw [B_length, List.length_take, Nat.min_eq_left hk], by rw [B_length, List.length_take]; omega, h2, h3, fun i u hu => h4 i u ?_⟩
  have hi : i < k := by
    have := (List.getElem?_eq_some_iff.1 hu).1
    rw [B_length, List.length_take] at this
    omega
  unfold B at hu ⊢
  rw [List.map_take, List.getElem?_take_of_lt hi] at hu
  exact hu

theorem decV_no : decV ([], 0, false) = .tuple #[.string ⟨#[]⟩, .int .i64 0, .bool false] := rfl

def Yes (w0 : World) (e : Ending) (w : World) : Prop := e = .returned (.bool true) ∧ Below w0.heap.size w0 w


set_option maxHeartbeats 400000 in
set_option maxRecDepth 100000 in
theorem round_main (pre suf : List UInt8) (v0 v2 : Value) (s : ByteArray) (sh : Int) (w : World) (h0 : Row w v0 (B pre)) (h2 : Row w v2 (B suf)) (hs : s.size ≤ maxLen)
    (hsum : pre.length + s.size + suf.length ≤ 1048576) (h255 : s.size ≤ 255) :
    Calls Try.prog 3 #[v0, .string s, v2, .int .i64 sh] w fun e w' => Yes w e w' := by
  have H0 := hide h0
  have H2 := hide h2
  obtain ⟨a0, c0, rfl, hl0, hm0⟩ := h0.openB
  obtain ⟨a2, c2, rfl, hl2, hm2⟩ := h2.openB
  clear h0 h2
  have c6 := zzBytes6_any a0 pre.length c0 s a2 suf.length c2 sh w (by omega) hs (by omega)
  rw [decide_eq_true hsum] at c6
  have C6 := hide c6
  clear c6
  obtain ⟨i0, hi, hz0, hz1, hz2⟩ := info_parts Try.info5
  unfold maxLen at *
  go_enter Try.func3, Try.ntmps3
  go_wp2_with fail
  refine C6.out.mono ?_
  rintro e w' ⟨rfl, rfl⟩
  clear C6
  go_wp2_with fail
  refine (cloneBytes_any pre _ _ H0.out (by omega)).mono ?_
  rintro e w1 ⟨v1, rfl, hR1, hB1⟩
  obtain ⟨a1, c1, rfl, hl1, hm1⟩ := hR1.openB
  have R1 := hide hR1
  have B1 := hide hB1
  have H2' := hide (H2.out.below hB1)
  clear hR1 hB1 H0 H2 hl0 hm0 hm2 hl2
  go_wp2_with fail
  refine (cloneBytes_any suf _ _ H2'.out (by omega)).mono ?_
  rintro e w2 ⟨v3, rfl, hR3, hB3⟩
  obtain ⟨a3, c3, rfl, hl3, hm3⟩ := hR3.openB
  have R3 := hide hR3
  have B2 := hide (B1.out.trans (hB3.mono B1.out.size))
  have R1' := hide (R1.out.below hB3)
  clear R1 B1 H2' hR3 hB3
  go_wp2_with (at_make; refine wpList_make_own _ rfl _ _ 22 rfl w2.heap.size 5 i0 (.int .u8 0) 1 Try.underlying22 hi hz0 hz1 _ _ _ (pre.length + 1 + s.size + suf.length) rfl rfl ?b0 ?b1 ?b2 ?b3 ?_)
  case b0 => simp only [Int.natCast_add]; rfl
  case b1 => rw [hz2]; omega
  case b2 => unfold maxLen; omega
  case b3 => exact Nat.le_refl _
  intro w3 hO3 hG3
  have B3 := hide ((Below.refl w2.heap.size w2).grown hG3 (Nat.le_refl _) (by simp))
  have O3 := hide hO3
  have S1 := hide ((R1'.out.below B3.out).src (P := Try.prog) (t := 22) (e' := 5) Try.underlying22 (B_one pre))
  rw [B_length] at S1
  clear R1' hO3 hG3
  go_wp2_with (at_builtin; refine wpList_append_src _ rfl (.tmp 66) (.tmp 67) 22 22 rfl w2.heap.size 5 i0 (.int .u8 0) 1 1 Try.underlying22 hi hz0 hz1 hz2 rfl _ _ _ rfl O3.out _ _ _ rfl S1.out ?b1 ?b2 ?b3 ?_)
  case b1 => unfold maxLen; omega
  case b2 => omega
  case b3 => exact B3.out.size
  intro d4 w4 hO4 hG4
  have B4 := hide (B3.out.grown hG4 B3.out.size (fun k hk => (O3.out.lt k hk).1))
  have O4 := hide hO4
  clear B3 hO4 hG4 S1 O3
  go_wp2_with (at_builtin; refine wpList_append_src _ rfl (.tmp 69) (.tmp 73) 22 22 rfl w2.heap.size 5 i0 (.int .u8 0) 1 1 Try.underlying22 hi hz0 hz1 hz2 rfl _ _ _ rfl (O4.out.alloc _) _ _ _ rfl (Src.one Try.underlying22 _ _ rfl _) ?b1 ?b2 ?b3 ?_)
  case b1 => unfold maxLen; omega
  case b2 => omega
  case b3 => have := B4.out.size; simp; omega
  intro d5 w5 hO5 hG5
  have B5 := hide ((B4.out.alloc B4.out.size _).grown hG5 (by have := B4.out.size; simp; omega) (fun k hk => (O4.out.lt k hk).1))
  have O5 := hide hO5
  clear B4 hO5 hG5 O4
  go_wp2_with (at_builtin; refine wpList_append_src _ rfl (.tmp 75) (.tmp 76) 22 9 rfl w2.heap.size 5 i0 (.int .u8 0) 1 1 Try.underlying22 hi hz0 hz1 hz2 rfl _ _ _ rfl O5.out _ _ _ rfl (Src.ofString _ Try.underlying9 s) ?b1 ?b2 ?b3 ?_)
  case b1 => unfold maxLen; omega
  case b2 => omega
  case b3 => exact B5.out.size
  intro d6 w6 hO6 hG6
  have B6 := hide (B5.out.grown hG6 B5.out.size (fun k hk => (O5.out.lt k hk).1))
  have O6 := hide hO6
  clear B5 hO6 hG6 O5
  have S3 := hide ((R3.out.below B6.out).src (P := Try.prog) (t := 22) (e' := 5) Try.underlying22 (B_one suf))
  rw [B_length] at S3
  go_wp2_with (at_builtin; refine wpList_append_src _ rfl (.tmp 78) (.tmp 79) 22 22 rfl w2.heap.size 5 i0 (.int .u8 0) 1 1 Try.underlying22 hi hz0 hz1 hz2 rfl _ _ _ rfl O6.out _ _ _ rfl S3.out ?b1 ?b2 ?b3 ?_)
  case b1 => unfold maxLen; omega
  case b2 => omega
  case b3 => exact B6.out.size
  intro d7 w7 hO7 hG7
  have B7 := hide (B6.out.grown hG7 B6.out.size (fun k hk => (O6.out.lt k hk).1))
  have O7 := hide hO7
  clear B6 hO7 hG7 O6 S3 R3
  obtain ⟨g, cap, rfl, hcap, hmax, R7⟩ : ∃ g cap, d7 = .slice (some ⟨g, 0, none⟩) (pre.length + 1 + s.size + suf.length) cap ∧ pre.length + 1 + s.size + suf.length ≤ cap ∧ cap ≤ maxLen ∧ Hid (Row w7 d7 (B (full pre s suf))) := by
    have hr := Row.of_owns O7.out
    rw [B_full pre s suf h255] at hr
    rcases O7.out.2 with ⟨_, h⟩ | ⟨g, cap, cur, hv, _, _, h1, h2, _⟩
    · omega
    · exact ⟨g, cap, hv, h1, h2, hr⟩
  clear O7
  unfold maxLen at hmax
  have hfl := full_length pre s suf
  have B' := hide (B2.out.trans (B7.out.mono B2.out.size))
  clear B2 B7
  have C1 := hide (ZZdecodeName_any (full pre s suf) _ pre.length sh w7 R7.out (by omega) (by omega))
  have C3 := hide (ZZdecodeName_any _ _ pre.length sh w7 (R7.out.cut pre.length (by omega)) (by rw [List.length_take]; omega) (by omega))
  unfold DecE at C1 C3
  rw [dec_full_end, decV_no] at C3
  have HFL := hide hfl
  clear hfl
  have hstr : (s.toList != s.toList) = false := by simp
  by_cases hsz : 0 < s.size
  · have C2 := hide (ZZdecodeName_any _ _ pre.length sh w7 (R7.out.cut (pre.length + s.size) (by rw [HFL.out]; omega)) (by rw [List.length_take, HFL.out]; omega) (by omega))
    unfold DecE at C2
    rw [dec_full_cut pre s suf sh h255 hsz, decV_no] at C2
    by_cases hsh : (s.size : Int) < sh
    · rw [dec_full_no pre s suf sh h255 hsh, decV_no] at C1
      go_wp2_with fail
      refine C1.out.mono ?_
      rintro e wx ⟨rfl, rfl⟩
      go_wp2_with fail
      refine C2.out.mono ?_
      rintro e wy ⟨rfl, rfl⟩
      go_wp2_with fail
      refine C3.out.mono ?_
      rintro e wz ⟨rfl, rfl⟩
      go_wp2_with fail
      go_ret
      exact ⟨rfl, B'.out⟩
    · rw [dec_full_yes pre s suf sh h255 hsh] at C1
      go_wp2_with fail
      refine C1.out.mono ?_
      rintro e wx ⟨rfl, rfl⟩
      go_wp2_with fail
      refine C2.out.mono ?_
      rintro e wy ⟨rfl, rfl⟩
      go_wp2_with fail
      refine C3.out.mono ?_
      rintro e wz ⟨rfl, rfl⟩
      go_wp2_with fail
      go_ret
      exact ⟨rfl, B'.out⟩
  · by_cases hsh : (s.size : Int) < sh
    · rw [dec_full_no pre s suf sh h255 hsh, decV_no] at C1
      go_wp2_with fail
      refine C1.out.mono ?_
      rintro e wx ⟨rfl, rfl⟩
      go_wp2_with fail
      refine C3.out.mono ?_
      rintro e wz ⟨rfl, rfl⟩
      go_wp2_with fail
      go_ret
      exact ⟨rfl, B'.out⟩
    · rw [dec_full_yes pre s suf sh h255 hsh] at C1
      go_wp2_with fail
      refine C1.out.mono ?_
      rintro e wx ⟨rfl, rfl⟩
      go_wp2_with fail
      refine C3.out.mono ?_
      rintro e wz ⟨rfl, rfl⟩
      go_wp2_with fail
      go_ret
      exact ⟨rfl, B'.out⟩

set_option maxHeartbeats 400000 in
set_option maxRecDepth 100000 in
theorem round_out (l0 l2 : Nat) (a0 a2 : Option Addr) (c0 c2 : Nat) (s : ByteArray) (sh : Int) (w : World) (h0 : l0 ≤ maxLen) (hs : s.size ≤ maxLen) (h2 : l2 ≤ maxLen)
    (hno : ¬ (l0 + s.size + l2 ≤ 1048576 ∧ s.size ≤ 255)) :
    Calls Try.prog 3 #[.slice a0 l0 c0, .string s, .slice a2 l2 c2, .int .i64 sh] w fun e w' => Yes w e w' := by
  have c6 := zzBytes6_any a0 l0 c0 s a2 l2 c2 sh w h0 hs h2
  unfold maxLen at *
  by_cases hsum : l0 + s.size + l2 ≤ 1048576
  · rw [decide_eq_true hsum] at c6
    have C6 := hide c6
    clear c6
    have h255 : 255 < s.size := by omega
    clear hno
    go_enter Try.func3, Try.ntmps3
    go_wp2_with fail
    refine C6.out.mono ?_
    rintro e w' ⟨rfl, rfl⟩
    clear C6
    go_wp2_with fail
    go_ret
    exact ⟨rfl, Below.refl _ _⟩
  · rw [decide_eq_false hsum] at c6
    have C6 := hide c6
    clear c6 hno hsum
    go_enter Try.func3, Try.ntmps3
    go_wp2_with fail
    refine C6.out.mono ?_
    rintro e w' ⟨rfl, rfl⟩
    clear C6
    go_wp2_with fail
    go_ret
    exact ⟨rfl, Below.refl _ _⟩
end Go.Proofs.Qxb6605489a
