import Derived.Test.Qxb6605489aWalkG
import Derived.Deep.DeepCutAuto
namespace Go.Proofs.Qxb6605489a
open Go.RowKit

def short2B (ps : List (ByteArray × ByteArray)) : Bool := ps.all fun p => decide (p.1.size ≤ 255) && decide (p.2.size ≤ 255)
theorem short2_take (ss : List (ByteArray × ByteArray)) (k : Nat) (x : ByteArray × ByteArray) (hx : ss[k]? = some x) : short2B (ss.take (k + 1)) = (short2B (ss.take k) && (decide (x.1.size ≤ 255) && decide (x.2.size ≤ 255))) := by
  have hlt := (List.getElem?_eq_some_iff.1 hx).1
  have e := (List.getElem?_eq_some_iff.1 hx).2
  rw [List.take_succ_eq_append_getElem hlt, e]
  simp [short2B]
theorem short2_at (ss : List (ByteArray × ByteArray)) (k : Nat) (x : ByteArray × ByteArray) (hx : ss[k]? = some x) (h : short2B ss = true) : x.1.size ≤ 255 ∧ x.2.size ≤ 255 := by
  have := List.all_eq_true.1 h x (List.mem_of_getElem? hx)
  simpa using this

/-- The pairs as one list of names. -/
def flat (ps : List (ByteArray × ByteArray)) : List ByteArray := ps.flatMap fun p => [p.1, p.2]
theorem flat_length (ps : List (ByteArray × ByteArray)) : (flat ps).length = ps.length * 2 := by
  induction ps with
  | nil => rfl
  | cons p r ih => simp only [flat, List.flatMap_cons, List.length_append, List.length_cons, List.length_nil] at ih ⊢; omega
theorem flat_get (ps : List (ByteArray × ByteArray)) (k : Nat) (p : ByteArray × ByteArray) (hp : ps[k]? = some p) : (flat ps)[k * 2]? = some p.1 ∧ (flat ps)[k * 2 + 1]? = some p.2 := by
  induction ps generalizing k with
  | nil => simp at hp
  | cons q r ih =>
    cases k with
    | zero => simp at hp; subst hp; simp [flat]
    | succ k =>
      simp at hp
      have h := ih k hp
      have e1 : (k + 1) * 2 = k * 2 + 1 + 1 := by omega
      simp only [flat, List.flatMap_cons, e1] at h ⊢
      exact ⟨by simpa using h.1, by simpa using h.2⟩
theorem flat_tot (ps : List (ByteArray × ByteArray)) : nsize (flat ps) = 2 * ps.length + tot2 ps := by
  induction ps with
  | nil => rfl
  | cons p r ih =>
    simp only [flat, nsize, tot, tot2, List.flatMap_cons, List.length_append, List.length_cons, List.length_nil, List.map_append, List.map_cons, List.map_nil, List.sum_append, List.sum_cons, List.sum_nil] at ih ⊢
    omega

/-- A name inside a record: what lies before it, what lies behind. -/
theorem rec_full (pre : List UInt8) (ts : List ByteArray) (post : List UInt8) (k : Nat) (x : ByteArray) (hx : ts[k]? = some x) :
    pre ++ enc ts ++ post = full (pre ++ enc (ts.take k)) x (enc (ts.drop (k + 1)) ++ post) := by
  rw [enc_full ts k x hx]
  simp [full]
theorem rec_len (pre : List UInt8) (ts : List ByteArray) (k : Nat) : (pre ++ enc (ts.take k)).length = pre.length + nsize (ts.take k) := by
  rw [List.length_append, enc_length]
theorem B_app (a b : List UInt8) : B (a ++ b) = B a ++ B b := by simp [B]
/-- One name more. -/
theorem B_rec (pre : List UInt8) (ts : List ByteArray) (k : Nat) (x : ByteArray) (hx : ts[k]? = some x) (h : x.size ≤ 255) :
    B (pre ++ enc (ts.take k)) ++ [Value.int .u8 (x.size : Int)] ++ byteCells x = B (pre ++ enc (ts.take (k + 1))) := by
  have e : ((UInt8.ofNat x.size).toNat : Int) = (x.size : Int) := by
    rw [UInt8.toNat_ofNat']
    omega
  rw [enc_take ts k x hx]
  simp only [B_app, List.append_assoc]
  simp only [B, byteCells, List.map_cons, List.map_nil, e]

/-- Any cell of a byte is the cell of some byte. -/
theorem u8_cell (z : Int) (h0 : 0 ≤ z) (h1 : z < 256) : Value.int .u8 z = .int .u8 ((UInt8.ofNat z.toNat).toNat : Int) := by
  have : ((UInt8.ofNat z.toNat).toNat : Int) = z := by
    rw [UInt8.toNat_ofNat']
    omega
  rw [this]

theorem Src.lit {P : Program} {t e : TypeId} (ht : P.underlying t = some (.slice e)) (w : World) (cs : List Value) (h1 : ∀ u ∈ cs, u.oneCell' = true) (n c : Nat) (hn : n = cs.length) :
    Src P 1 t (.slice (some ⟨w.heap.size, 0, none⟩) n c) n cs (w.alloc (.cells cs.toArray e)) := by
  subst hn
  refine Src.ofSlice _ ht _ cs.length c cs (by simp) (fun j u hu => ?_) h1
  have hlt := (List.getElem?_eq_some_iff.1 hu).1
  rw [Addr.add_lit, Nat.zero_add, cell_of_row _ w.heap.size j cs.toArray e (0, 0) (Go.heap_alloc_new w _)]
  simpa using hu

theorem three (a b c : Int) (ha : 0 ≤ a ∧ a < 256) (hb : 0 ≤ b ∧ b < 256) (hc : 0 ≤ c ∧ c < 256) : ∃ hd : List UInt8, hd.length = 3 ∧ [Value.int .u8 a, .int .u8 b, .int .u8 c] = B hd :=
  ⟨[UInt8.ofNat a.toNat, UInt8.ofNat b.toNat, UInt8.ofNat c.toNat], rfl, by rw [u8_cell a ha.1 ha.2, u8_cell b hb.1 hb.2, u8_cell c hc.1 hc.2]; rfl⟩
theorem two (a b : Int) (ha : 0 ≤ a ∧ a < 256) (hb : 0 ≤ b ∧ b < 256) : ∃ hd : List UInt8, hd.length = 2 ∧ [Value.int .u8 a, .int .u8 b] = B hd :=
  ⟨[UInt8.ofNat a.toNat, UInt8.ofNat b.toNat], rfl, by rw [u8_cell a ha.1 ha.2, u8_cell b hb.1 hb.2]; rfl⟩

set_option maxHeartbeats 4000000 in
set_option maxRecDepth 100000 in
theorem loc_any (ss : List ByteArray) (ps : List (ByteArray × ByteArray)) (v v2 : Value) (eb : Bool) (w : World) (h : Row w v (S ss)) (h2 : Row2 w v2 ps) (hs : ∀ s ∈ ss, s.size ≤ maxLen) (hp : ∀ p ∈ ps, p.1.size ≤ maxLen ∧ p.2.size ≤ maxLen) :
    Calls Try.prog 5 #[v, v2, .bool eb] w fun e w' => Yes w e w' := by
  have C13 := hide (zzBytes13_any ss ps v v2 eb w h h2 hs hp)
  have H := hide h
  have H2 := hide h2
  obtain ⟨a, c, rfl, hl, hm⟩ := h.openS
  obtain ⟨a2, c2, rfl, hl2, hm2⟩ := h2.open2
  clear h h2 hs hp
  unfold maxLen at hm hm2
  obtain ⟨i0, hi, hz0, hz1, hz2⟩ := info_parts Try.info5
  go_enter Try.func5, Try.ntmps5
  go_wp2_with fail
  refine C13.out.mono ?_
  rintro e w' ⟨⟨r, rfl, hr⟩, rfl⟩
  clear C13
  cases r with
  | false =>
    go_wp2_with fail
    go_ret
    exact ⟨rfl, Below.refl _ _⟩
  | true =>
    have hr := hr rfl
    have C14 := hide (locationsBytes_any ss ps _ _ w' H.out H2.out hr)
    go_wp2_with fail
    refine C14.out.mono ?_
    rintro e w1 ⟨hE, hw⟩
    subst hw
    clear C14
    rcases hE with rfl | ⟨rfl, hn⟩
    · go_wp2_with fail
      go_ret
      exact ⟨rfl, Below.refl _ _⟩
    obtain ⟨n, hn', HN⟩ : ∃ n, n ≤ 1048576 ∧ Hid (16 * ss.length + 32 * ps.length + tot ss + tot2 ps = n) := ⟨_, hn, rfl⟩
    rw [HN.out]
    clear hn
    by_cases hq1 : ss.length ≤ 65535
    case neg =>
      go_wp2_with fail
      go_ret
      exact ⟨rfl, Below.refl _ _⟩
    by_cases hq2 : ps.length ≤ 65535
    case neg =>
      go_wp2_with fail
      go_ret
      exact ⟨rfl, Below.refl _ _⟩
    go_wp2_with fail
    go_loop [8] (fun i => ∃ k : Nat, k ≤ ss.length ∧ Hid (shortB (ss.take k) = true) ∧ i = .int .i64 k) (fun i => ss.length - (intOf i).toNat)
    case atStart => exact ⟨0, by omega, rfl, rfl⟩
    case round =>
    obtain ⟨k, hk, HK, rfl⟩ := hrel
    by_cases hlt : k < ss.length
    case pos =>
      obtain ⟨x, hx⟩ : ∃ x, ss[k]? = some x := ⟨_, List.getElem?_eq_getElem hlt⟩
      have hxs : x.size ≤ 1048576 := by have := tot_take_le ss (k + 1); rw [tot_take ss k x hx] at this; omega
      have HK' := hide (short_take ss k x hx)
      obtain ⟨b, o, hab, hc⟩ := H.out.atS hx
      subst hab
      clear hx
      by_cases h255 : x.size ≤ 255
      · go_wp2_with fail
        go_round
        case rel => exact ⟨k + 1, by omega, by rw [HK'.out, HK.out, decide_eq_true h255]; rfl, by go_num⟩
        case measure => simp [intOf]; omega
      · go_wp2_with fail
        go_ret
        exact ⟨rfl, Below.refl _ _⟩
    have hk' : k = ss.length := by omega
    subst hk'
    rw [List.take_length] at HK
    clear hlt hk
    go_wp2_with fail
    go_loop [9] (fun i => ∃ k : Nat, k ≤ ps.length ∧ Hid (short2B (ps.take k) = true) ∧ i = .int .i64 k) (fun i => ps.length - (intOf i).toNat)
    case atStart => exact ⟨0, by omega, rfl, rfl⟩
    case round =>
    obtain ⟨k, hk, HK2, rfl⟩ := hrel
    by_cases hlt : k < ps.length
    case pos =>
      obtain ⟨⟨x, y⟩, hx⟩ : ∃ x, ps[k]? = some x := ⟨_, List.getElem?_eq_getElem hlt⟩
      have hxs : x.size + y.size ≤ 1048576 := by have := tot2_take_le ps (k + 1); rw [tot2_take ps k _ hx] at this; simp only at this; omega
      have HK' := hide (short2_take ps k _ hx)
      obtain ⟨b, o, hab, hc, hc'⟩ := H2.out.at2 hx
      subst hab
      simp only at hc hc'
      clear hx
      by_cases h255 : x.size ≤ 255
      · by_cases h255' : y.size ≤ 255
        · go_wp2_with fail
          go_round
          case rel => exact ⟨k + 1, by omega, by rw [HK'.out, HK2.out, decide_eq_true h255, decide_eq_true h255']; rfl, by go_num⟩
          case measure => simp [intOf]; omega
        · go_wp2_with fail
          go_ret
          exact ⟨rfl, Below.refl _ _⟩
      · go_wp2_with fail
        go_ret
        exact ⟨rfl, Below.refl _ _⟩
    have hk' : k = ps.length := by omega
    subst hk'
    rw [List.take_length] at HK2
    clear hlt hk
    have C10 := hide (cloneStrings_any ss _ w1 H.out (by omega))
    go_wp2_with fail
    refine C10.out.mono ?_
    rintro e w2 ⟨v1, rfl, hR1, hB1⟩
    obtain ⟨a1, c1, rfl, hl1, hm1⟩ := hR1.openS
    have R1 := hide hR1
    have B2 := hide hB1
    have C15 := hide (cloneSubs_any ps _ w2 (H2.out.below hB1) (by omega))
    clear hR1 hB1 H C10 hl H2
    go_wp2_with fail
    refine C15.out.mono ?_
    rintro e w3 ⟨v3, rfl, hR3, hB3⟩
    obtain ⟨a3, c3, rfl, hl3, hm3⟩ := hR3.open2
    have R3 := hide hR3
    have R1' := hide (R1.out.below hB3)
    have B3 := hide (B2.out.trans (hB3.mono B2.out.size))
    clear hR3 hB3 C15 R1 B2
    go_wp2_with (at_make; refine wpList_make_own _ rfl _ _ 22 rfl w3.heap.size 5 i0 (.int .u8 0) 1 Try.underlying22 hi hz0 hz1 _ _ _ (5 + n) rfl rfl ?b0 ?b1 ?b2 ?b3 ?_)
    case b0 => simp only [Int.natCast_add]; rfl
    case b1 => rw [hz2]; omega
    case b2 => unfold maxLen; omega
    case b3 => exact Nat.le_refl _
    intro w4 hO4 hG4
    have B4 := hide ((Below.refl w3.heap.size w3).grown hG4 (Nat.le_refl _) (by simp))
    have O4 := hide hO4
    clear hO4 hG4
    have hnss : nsize ss ≤ 1048576 := by unfold nsize; omega
    go_upto_if 83 with fail
    go_cut [11] (fun f wx => (∃ z : Int, 0 ≤ z ∧ z < 256 ∧ f = .int .u8 z) ∧ wx = w4)
    case first =>
      cases eb
      · go_wp2_with fail
        go_meet
        case rel => exact ⟨⟨0, by omega, by omega, rfl⟩, rfl⟩
      · go_wp2_with fail
        go_meet
        case rel => exact ⟨⟨1, by omega, by omega, rfl⟩, rfl⟩
    case rest =>
    obtain ⟨⟨z, hz0', hz1', rfl⟩, rfl⟩ := hcut
    go_wp2_with (at_builtin; refine wpList_append_src _ rfl (.tmp 84) (.tmp 93) 22 22 rfl w3.heap.size 5 i0 (.int .u8 0) 1 1 Try.underlying22 hi hz0 hz1 hz2 rfl _ _ _ rfl (O4.out.alloc _) _ _ _ rfl (Src.lit Try.underlying22 _ [_, _, _] ?c0 _ _ rfl) ?c1 ?c2 ?c3 ?_)
    case c0 => intro u hu; simp at hu; rcases hu with rfl | rfl | rfl <;> rfl
    case c1 => unfold maxLen; omega
    case c2 => omega
    case c3 => have := B4.out.size; simp; omega
    intro d5 w5 hO5 hG5
    have B5 := hide ((B4.out.alloc B4.out.size _).grown hG5 (by have := B4.out.size; simp; omega) (fun k hk => (O4.out.lt k hk).1))
    obtain ⟨hd, hd3, hdB⟩ := three z (ss.length / 256) (ss.length % 256) ⟨hz0', hz1'⟩ (by omega) (by omega)
    have O5 : Hid (w5.ownsRow w3.heap.size 5 1 d5 3 (B hd)) := by
      rw [← hdB]
      exact hO5
    have HD := hide hd3
    clear hO5 hG5 O4 B4 hdB hd3
    go_wp2_with fail
    go_loopw [10, 12] (fun d i wr => ∃ k : Nat, k ≤ ss.length ∧ i = .int .i64 k ∧ Hid (wr.ownsRow w3.heap.size 5 1 d (3 + nsize (ss.take k)) (B (hd ++ enc (ss.take k)))) ∧ Hid (Below w3.heap.size w3 wr)) (fun _ i _ => ss.length - (intOf i).toNat)
    case atStart => exact ⟨0, by omega, rfl, by rw [show hd ++ enc (ss.take 0) = hd from by simp [enc], nsize_zero]; exact O5, B5⟩
    case round =>
    obtain ⟨k, hk, rfl, O, Bw⟩ := hrel
    by_cases hlt : k < ss.length
    case pos =>
      obtain ⟨x, hx⟩ : ∃ x, ss[k]? = some x := ⟨_, List.getElem?_eq_getElem hlt⟩
      obtain ⟨b, o, hab, hc⟩ := (R1'.out.below Bw.out).atS hx
      subst hab
      have h255 := short_at ss k x hx HK.out
      have C16 := hide (appendName_any _ _ _ _ x wr O.out Bw.out.size h255 (by have := nsize_take_le ss k; omega))
      have HX := hide hx
      clear hx
      go_wp2_with fail
      refine C16.out.mono ?_
      rintro e w6 ⟨v6, rfl, hO6, hB6⟩
      rw [B_rec hd ss k x HX.out h255] at hO6
      have O6 : Hid (w6.ownsRow w3.heap.size 5 1 v6 (3 + nsize (ss.take (k + 1))) (B (hd ++ enc (ss.take (k + 1))))) := by
        rw [nsize_take ss k x HX.out, ← Nat.add_assoc, ← Nat.add_assoc]
        exact hO6
      have B6 := hide (Bw.out.trans hB6)
      clear hO6 hB6 O Bw C16
      go_wp2_with fail
      go_roundw
      case rel => exact ⟨k + 1, by omega, by go_num, O6, B6⟩
      case measure => simp [intOf]; omega
    have hk' : k = ss.length := by omega
    subst hk'
    rw [List.take_length] at O
    clear hlt hk O5 B5
    go_upto_if 109 with fail
    go_cut [10] (fun d wx => ∃ post : List UInt8, Hid ((ps.length = 0 ∧ post = []) ∨ (0 < ps.length ∧ ∃ hd2 : List UInt8, hd2.length = 2 ∧ post = hd2 ++ enc (flat ps))) ∧ Hid (wx.ownsRow w3.heap.size 5 1 d (3 + nsize ss + post.length) (B (hd ++ enc ss ++ post))) ∧ Hid (Below w3.heap.size w3 wx))
    case first =>
      by_cases hp0 : ps.length = 0
      · have hz' : ¬ (0 : Int) < (ps.length : Int) := by omega
        have HP := hide hp0
        clear hp0
        go_wp2_with fail
        go_meet
        case rel => exact ⟨[], .inl ⟨HP.out, rfl⟩, by rw [List.append_nil]; exact O, Bw⟩
      · have hz' : (0 : Int) < (ps.length : Int) := by omega
        clear hp0
        go_wp2_with (at_builtin; refine wpList_append_src _ rfl (.tmp 110) (.tmp 118) 22 22 rfl w3.heap.size 5 i0 (.int .u8 0) 1 1 Try.underlying22 hi hz0 hz1 hz2 rfl _ _ _ rfl (O.out.alloc _) _ _ _ rfl (Src.lit Try.underlying22 _ [_, _] ?c0 _ _ rfl) ?c1 ?c2 ?c3 ?_)
        case c0 => intro u hu; simp at hu; rcases hu with rfl | rfl <;> rfl
        case c1 => unfold maxLen; omega
        case c2 => omega
        case c3 => have := Bw.out.size; simp; omega
        intro d7 w7 hO7 hG7
        have B7 := hide ((Bw.out.alloc Bw.out.size _).grown hG7 (by have := Bw.out.size; simp; omega) (fun k hk => (O.out.lt k hk).1))
        obtain ⟨hd2, hd22, hd2B⟩ := two (ps.length / 256) (ps.length % 256) (by omega) (by omega)
        have O7 : Hid (w7.ownsRow w3.heap.size 5 1 d7 (3 + nsize ss + 2) (B (hd ++ enc ss ++ hd2))) := by
          rw [B_app, ← hd2B]
          exact hO7
        have HD2 := hide hd22
        clear hO7 hG7 O Bw hd2B hd22
        have hfl : nsize (flat ps) ≤ 2097152 := by rw [flat_tot]; omega
        go_wp2_with fail
        go_loopw [10, 13] (fun d i wr => ∃ k : Nat, k ≤ ps.length ∧ i = .int .i64 k ∧ Hid (wr.ownsRow w3.heap.size 5 1 d (3 + nsize ss + 2 + nsize ((flat ps).take (k * 2))) (B (hd ++ enc ss ++ hd2 ++ enc ((flat ps).take (k * 2))))) ∧ Hid (Below w3.heap.size w3 wr)) (fun _ i _ => ps.length - (intOf i).toNat)
        case atStart => exact ⟨0, by omega, rfl, by rw [Nat.zero_mul, nsize_zero, show hd ++ enc ss ++ hd2 ++ enc ((flat ps).take 0) = hd ++ enc ss ++ hd2 from by simp [enc]]; exact O7, B7⟩
        case round =>
        obtain ⟨k, hk, rfl, O, Bw⟩ := hrel
        by_cases hlt : k < ps.length
        case pos =>
          obtain ⟨⟨x, y⟩, hx⟩ : ∃ x, ps[k]? = some x := ⟨_, List.getElem?_eq_getElem hlt⟩
          obtain ⟨b, o, hab, hc, hc'⟩ := (R3.out.below Bw.out).at2 hx
          subst hab
          simp only at hc hc'
          have h255 := short2_at ps k (x, y) hx HK2.out
          simp only at h255
          obtain ⟨h255, h255'⟩ := h255
          have HF := hide (flat_get ps k (x, y) hx)
          have hn1 := nsize_take_le (flat ps) (k * 2)
          have hn2 := nsize_take_le (flat ps) (k * 2 + 1)
          have C16 := hide (appendName_any _ _ _ _ x wr O.out Bw.out.size h255 (by omega))
          have HX := hide hx
          clear hx
          go_wp2_with fail
          refine C16.out.mono ?_
          rintro e w8 ⟨v8, rfl, hO8, hB8⟩
          rw [B_rec _ (flat ps) (k * 2) x HF.out.1 h255] at hO8
          have O8 : Hid (w8.ownsRow w3.heap.size 5 1 v8 (3 + nsize ss + 2 + nsize ((flat ps).take (k * 2 + 1))) (B (hd ++ enc ss ++ hd2 ++ enc ((flat ps).take (k * 2 + 1))))) := by
            rw [nsize_take (flat ps) (k * 2) x HF.out.1, ← Nat.add_assoc, ← Nat.add_assoc]
            exact hO8
          have B8 := hide (Bw.out.trans hB8)
          have hc2 : w8.cell? ⟨b, o + k * 2 + 1, none⟩ = some (.string y) := by
            obtain ⟨b', o', hab, _, hc⟩ := (R3.out.below B8.out).at2 HX.out
            simp only [Option.some.injEq, Addr.mk.injEq, and_true] at hab
            obtain ⟨rfl, rfl⟩ := hab
            exact hc
          have C16' := hide (appendName_any _ _ _ _ y w8 O8.out B8.out.size h255' (by omega))
          clear hO8 hB8 O Bw C16 hc hc'
          go_wp2_with fail
          refine C16'.out.mono ?_
          rintro e w9 ⟨v9, rfl, hO9, hB9⟩
          rw [B_rec _ (flat ps) (k * 2 + 1) y HF.out.2 h255'] at hO9
          have O9 : Hid (w9.ownsRow w3.heap.size 5 1 v9 (3 + nsize ss + 2 + nsize ((flat ps).take ((k + 1) * 2))) (B (hd ++ enc ss ++ hd2 ++ enc ((flat ps).take ((k + 1) * 2))))) := by
            rw [show (k + 1) * 2 = k * 2 + 1 + 1 by omega, nsize_take (flat ps) (k * 2 + 1) y HF.out.2, ← Nat.add_assoc, ← Nat.add_assoc]
            exact hO9
          have B9 := hide (B8.out.trans hB9)
          clear hO9 hB9 O8 B8 C16' hc2
          go_wp2_with fail
          go_roundw
          case rel => exact ⟨k + 1, by omega, by go_num, O9, B9⟩
          case measure => simp [intOf]; omega
        have hk' : k = ps.length := by omega
        subst hk'
        rw [← flat_length, List.take_length] at O
        clear hlt hk O7 B7
        go_wp2_with fail
        go_meet
        case rel =>
          refine ⟨hd2 ++ enc (flat ps), .inr ⟨by omega, hd2, HD2.out, rfl⟩, ?_, Bw⟩
          rw [List.length_append, HD2.out, enc_length, ← List.append_assoc, ← Nat.add_assoc]
          exact O
    case rest =>
    obtain ⟨post, HPO, O, Bx⟩ := hcut
    have hpl : Hid (3 + nsize ss + post.length = lsize ss ps) := by
      unfold lsize
      rcases HPO.out with ⟨hp0, rfl⟩ | ⟨hp0, hd2, h22, rfl⟩
      · rw [if_pos hp0]; rfl
      · rw [if_neg (by omega), List.length_append, h22, enc_length, flat_tot]; rfl
    have hls : lsize ss ps ≤ 4194304 := by unfold lsize; split <;> omega
    rw [hpl.out] at O
    obtain ⟨rec, HREC⟩ : ∃ rec, Hid (rec = hd ++ enc ss ++ post) := ⟨_, rfl⟩
    rw [← HREC.out] at O
    have hrl : rec.length = lsize ss ps := by
      have h5 := O.out.1
      rw [B_length] at h5
      omega
    have BR := hide (Row.of_owns O.out)
    obtain ⟨ad, cd, rfl, hld, hmd⟩ := BR.out.openB
    rw [hrl] at BR hld
    have HRL := hide hrl
    clear O hrl
    have C17 := hide (toCore_any ps _ wc (R3.out.below Bx.out) (by omega))
    rw [HRL.out]
    go_wp2_with fail
    refine C17.out.mono ?_
    rintro e w7 ⟨v7, rfl, hR7, hB7⟩
    obtain ⟨a7, c7, rfl, hl7, hm7⟩ := hR7.open2
    have R7 := hide hR7
    have BR7 := hide (BR.out.below hB7)
    have Bz := hide (Bx.out.trans (hB7.mono Bx.out.size))
    clear hR7 hB7 C17 BR Bx
    have R17 := hide (R1'.out.below Bz.out)
    have R37 := hide (R3.out.below Bz.out)
    go_wp2_with fail
    refine Calls.mono (ZZlocationsSize_any ss ps _ _ eb _ ?h1 ?h2 ?h3) ?_
    case h1 => exact R17.out.below ((Below.refl _ _).alloc (Nat.le_refl _) _)
    case h2 => exact R7.out.below ((Below.refl _ _).alloc (Nat.le_refl _) _)
    case h3 => assumption
    rintro e w8 ⟨rfl, hB8⟩
    have hb : Below w7.heap.size w7 w8 := ((Below.refl _ _).alloc (Nat.le_refl _) _).trans (hB8.mono (by simp))
    have BR8 := hide (BR7.out.below hb)
    have R18 := hide (R17.out.below hb)
    have R38 := hide (R37.out.below hb)
    have BZ := hide (B3.out.trans ((Bz.out.trans (hb.mono Bz.out.size)).mono B3.out.size))
    clear hB8 hb BR7 R17 R37 Bz R7 R1' R3 B3
    go_wp2_with fail
    go_loop [15, 16] (fun t i => ∃ k m : Nat, k ≤ ss.length ∧ m ≤ 4194304 ∧ Hid (m = 3 + nsize (ss.take k)) ∧ i = .int .i64 k ∧ t = .int .i64 m) (fun _ i => ss.length - (intOf i).toNat)
    case atStart => exact ⟨0, 3, by omega, by omega, by rw [nsize_zero]; exact rfl, rfl, rfl⟩
    case round =>
    obtain ⟨k, m, hk, hmm, HM, rfl, rfl⟩ := hrel
    by_cases hlt : k < ss.length
    case pos =>
      obtain ⟨x, hx⟩ : ∃ x, ss[k]? = some x := ⟨_, List.getElem?_eq_getElem hlt⟩
      have h255 := short_at ss k x hx HK.out
      have hm' : m = (hd ++ enc (ss.take k)).length := by rw [rec_len, HD.out]; exact HM.out
      have BR' := BR8.out
      rw [HREC.out, rec_full hd ss post k x hx] at BR'
      have C12 := readName_yes (hd ++ enc (ss.take k)) x _ _ w8 BR' h255 (by rw [← rec_full hd ss post k x hx, ← HREC.out, HRL.out]; omega)
      rw [← hm'] at C12
      have C12 := hide C12
      have HM' := hide (nsize_take ss k x hx)
      have hms : m + (1 + x.size) ≤ 4194304 := by
        have h5 := nsize_take_le ss (k + 1)
        rw [HM'.out] at h5
        have := HM.out
        omega
      obtain ⟨b, o, hab, hc⟩ := R18.out.atS hx
      subst hab
      clear hx hm' BR'
      go_wp2_with fail
      refine C12.out.mono ?_
      rintro e wy ⟨rfl, rfl⟩
      go_wp2_with fail
      go_round
      case rel => exact ⟨k + 1, m + (1 + x.size), by omega, by omega, by rw [HM'.out]; have := HM.out; show _ = _; omega, by go_num, by go_num⟩
      case measure => simp [intOf]; omega
    have hk' : k = ss.length := by omega
    subst hk'
    rw [List.take_length] at HM
    clear hlt hk
    rcases HPO.out with ⟨hp0, hpost⟩ | ⟨hp0, hd2, h22, hpost⟩
    · have hz' : ¬ (0 : Int) < (ps.length : Int) := by omega
      have hm' : m = lsize ss ps := by rw [← hpl.out, hpost, HM.out]; rfl
      subst hm'
      clear hp0 hpost
      go_wp2_with fail
      go_ret
      exact ⟨rfl, BZ.out⟩
    · have hz' : (0 : Int) < (ps.length : Int) := by omega
      have HPOST := hide hpost
      have H22 := hide h22
      clear hp0 hpost h22
      have hfl : nsize (flat ps) ≤ 2097152 := by rw [flat_tot]; omega
      go_wp2_with fail
      go_loop [15, 19] (fun t i => ∃ k q : Nat, k ≤ ps.length ∧ q ≤ 4194304 ∧ Hid (q = 3 + nsize ss + 2 + nsize ((flat ps).take (k * 2))) ∧ i = .int .i64 k ∧ t = .int .i64 q) (fun _ i => ps.length - (intOf i).toNat)
      case atStart => exact ⟨0, m + 2, by omega, by have := HM.out; omega, by rw [Nat.zero_mul, nsize_zero, HM.out]; exact rfl, rfl, by go_num⟩
      case round =>
      obtain ⟨k, q, hk, hqq, HQ, rfl, rfl⟩ := hrel
      by_cases hlt : k < ps.length
      case pos =>
        obtain ⟨⟨x, y⟩, hx⟩ : ∃ x, ps[k]? = some x := ⟨_, List.getElem?_eq_getElem hlt⟩
        have h255 := short2_at ps k (x, y) hx HK2.out
        simp only at h255
        obtain ⟨h255, h255'⟩ := h255
        have HF := flat_get ps k (x, y) hx
        obtain ⟨hf1, hf2⟩ := HF
        simp only at hf1 hf2
        have erec : rec = (hd ++ enc ss ++ hd2) ++ enc (flat ps) ++ [] := by rw [HREC.out, HPOST.out]; simp
        have hpl3 : (hd ++ enc ss ++ hd2).length = 3 + nsize ss + 2 := by rw [List.length_append, List.length_append, HD.out, H22.out, enc_length]
        have BR1 := BR8.out
        rw [erec, rec_full _ (flat ps) [] (k * 2) x hf1] at BR1
        have C1 := readName_yes _ x _ _ w8 BR1 h255 (by rw [← rec_full _ (flat ps) [] (k * 2) x hf1, ← erec, HRL.out]; omega)
        rw [show ((hd ++ enc ss ++ hd2) ++ enc ((flat ps).take (k * 2))).length = q from by rw [rec_len, hpl3]; exact HQ.out.symm] at C1
        have BR2 := BR8.out
        rw [erec, rec_full _ (flat ps) [] (k * 2 + 1) y hf2] at BR2
        have C2 := readName_yes _ y _ _ w8 BR2 h255' (by rw [← rec_full _ (flat ps) [] (k * 2 + 1) y hf2, ← erec, HRL.out]; omega)
        rw [show ((hd ++ enc ss ++ hd2) ++ enc ((flat ps).take (k * 2 + 1))).length = q + 1 + x.size from by rw [rec_len, hpl3, nsize_take (flat ps) (k * 2) x hf1, HQ.out]; omega] at C2
        simp only [Int.natCast_add, Int.natCast_one] at C2
        have C1 := hide C1
        have C2 := hide C2
        have HQ' : Hid (q + 1 + x.size + 1 + y.size = 3 + nsize ss + 2 + nsize ((flat ps).take ((k + 1) * 2))) := by
          rw [show (k + 1) * 2 = k * 2 + 1 + 1 by omega, nsize_take (flat ps) (k * 2 + 1) y hf2, nsize_take (flat ps) (k * 2) x hf1, HQ.out]
          show _ = _
          omega
        have hqs : q + 1 + x.size + 1 + y.size ≤ 4194304 := by
          have h5 := nsize_take_le (flat ps) ((k + 1) * 2)
          have h6 := HQ'.out
          omega
        obtain ⟨b, o, hab, hc, hc'⟩ := R38.out.at2 hx
        subst hab
        simp only at hc hc'
        clear hx hf1 hf2 erec hpl3 BR1 BR2
        go_wp2_with fail
        refine C1.out.mono ?_
        rintro e wy ⟨rfl, rfl⟩
        go_wp2_with fail
        refine C2.out.mono ?_
        rintro e wz ⟨rfl, rfl⟩
        go_wp2_with fail
        go_round
        case rel => exact ⟨k + 1, q + 1 + x.size + 1 + y.size, by omega, by omega, HQ', by go_num, by go_num⟩
        case measure => simp [intOf]; omega
      have hk' : k = ps.length := by omega
      subst hk'
      have hm' : q = lsize ss ps := by
        rw [← hpl.out, HPOST.out, List.length_append, H22.out, enc_length, HQ.out, ← flat_length, List.take_length]
        omega
      subst hm'
      go_wp2_with fail
      go_ret
      exact ⟨rfl, BZ.out⟩
end Go.Proofs.Qxb6605489a
