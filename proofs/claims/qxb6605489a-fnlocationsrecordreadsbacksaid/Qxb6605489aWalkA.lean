import Derived.Test.Qxb6605489aRows
import Derived.Test.Qxb6605489aGen
namespace Go.Proofs.Qxb6605489a
open Go.RowKit

theorem Try.info5 : (Try.prog.info? 5).map (fun i => (i.zero, i.size, i.bytes)) = some (some (.int .u8 0), 1, 1) := by kernel_rfl

/-- The bytes as cells. -/
def B (bs : List UInt8) : List Value := bs.map fun b => Value.int .u8 b.toNat
theorem B_length (bs : List UInt8) : (B bs).length = bs.length := by simp [B]
theorem B_get {bs : List UInt8} {k : Nat} {x : UInt8} (h : bs[k]? = some x) : (B bs)[k]? = some (.int .u8 x.toNat) := by simp [B, h]
theorem B_one (bs : List UInt8) : ∀ u ∈ B bs, u.oneCell' = true := by
  intro u hu
  obtain ⟨_, _, rfl⟩ := List.mem_map.1 hu
  rfl

/-- A fact on the returned value that the walk does not look into. -/
def RetRow (e : Ending) (w0 w : World) (xs : List Value) : Prop := ∃ v', e = .returned v' ∧ Row w v' xs ∧ Below w0.heap.size w0 w

set_option maxHeartbeats 400000 in
theorem cloneBytes_any (bs : List UInt8) (v : Value) (w : World) (h : Row w v (B bs)) (hz : bs.length ≤ 1048576) :
    Calls Try.prog 7 #[v] w fun e w' => RetRow e w w' (B bs) := by
  have h0 := h
  obtain ⟨a, c, rfl, h1, h2, h3, h4⟩ := h
  have q22 : ∀ (w : World) (a : Option Addr) (n c n' c' : Nat), (binOp .eql 22 (.slice a n c) (.slice none n' c')).run Try.prog w = .ok (.bool a.isNone) w := fun w a n c n' c' => Lib.run_eql_slice_nil w _ _ a n c n' c' Try.underlying22
  obtain ⟨i0, hi, hz0, hz1, hz2⟩ := info_parts Try.info5
  have H4 : Hid _ := h4
  clear h4
  cases a with
  | none =>
    rw [h0.none_nil] at *
    have H0 : Hid _ := h0
    clear h0
    go_enter Try.func7, Try.ntmps7
    go_wp2
    go_ret
    exact ⟨_, rfl, Row.nil _, Below.refl _ _⟩
  | some ad =>
    simp only [B_length] at *
    go_enter Try.func7, Try.ntmps7
    go_wp2_with (first | (at_make; refine wpList_make_full _ rfl _ _ 22 rfl w.heap.size 5 i0 (.int .u8 0) 1 Try.underlying22 hi hz0 hz1 _ _ _ _ bs.length rfl rfl rfl rfl ?b1 ?b2 ?b3 ?_) | go_in)
    case b1 => rw [hz2]; omega
    case b2 => unfold maxLen; omega
    case b3 => exact Nat.le_refl _
    intro w1 hown hgrow
    have hbel : Below w.heap.size w w1 := (Below.refl _ _).grown hgrow (Nat.le_refl _) (by simp)
    have HO : Hid (w1.ownsRow w.heap.size 5 1 (.slice (some ⟨w.heap.size, 0, none⟩) bs.length bs.length) bs.length (Copied (B bs) 0 (.int .u8 0))) := by
      rw [copied_zero, B_length]
      rw [toList_madeCells_one] at hown
      exact hown
    have HB : Hid _ := hbel
    clear hown hgrow hbel h0
    go_wp2
    go_loopw [4] (fun i wr => ∃ k : Nat, k ≤ bs.length ∧ i = .int .i64 k ∧ Hid (wr.ownsRow w.heap.size 5 1 (.slice (some ⟨w.heap.size, 0, none⟩) bs.length bs.length) bs.length (Copied (B bs) k (.int .u8 0))) ∧ Hid (Below w.heap.size w wr)) (fun i _ => bs.length - (intOf i).toNat)
    case atStart => exact ⟨0, Nat.zero_le _, rfl, HO, HB⟩
    case round =>
      obtain ⟨k, hk, rfl, hO, hB⟩ := hrel
      by_cases hlt : k < bs.length
      · obtain ⟨x, hx⟩ : ∃ x, bs[k]? = some x := ⟨_, List.getElem?_eq_getElem hlt⟩
        have HX : Hid _ := B_get hx
        obtain ⟨b, o, hab, hc⟩ := H4.out k _ HX.out
        simp only [Option.some.injEq] at hab
        subst hab
        have hcr : wr.cell? ⟨b, o + k, none⟩ = some (.int .u8 x.toNat) := cell_later hB.out hc
        obtain ⟨u, hu⟩ : ∃ u, wr.cell? ⟨w.heap.size, k, none⟩ = some u := by
          rw [hO.out.cellAt k (by omega)]
          exact ⟨_, List.getElem?_eq_getElem (by have := hO.out.1; omega)⟩
        have hf : wr.frozen? ⟨w.heap.size, k, none⟩ = false := hO.out.frozenAt k
        clear hx hc
        go_wp2
        go_roundw
        case rel =>
          refine ⟨k + 1, by omega, by go_num, ?_, ?_⟩
          · have h5 := (hO.out.stored k (.int .u8 x.toNat)).1
            rw [copied_step _ _ _ _ HX.out] at h5
            exact h5
          · exact hB.out.setCell (Nat.le_refl _) _
        case measure => simp [intOf]; omega
      · go_wp2
        go_ret
        have hk' : k = bs.length := by omega
        subst hk'
        have h5 := hO.out
        have h6 := copied_full (B bs) (.int .u8 0)
        rw [B_length] at h6
        rw [h6] at h5
        exact ⟨_, rfl, Row.of_owns h5, hB.out⟩
/-- What decodeName answers. -/
def dec (ds : List UInt8) (off : Nat) (sh : Int) : List UInt8 × Nat × Bool :=
  match ds[off]? with
  | none => ([], 0, false)
  | some x => if (x.toNat : Int) < sh ∨ ds.length < off + 1 + x.toNat then ([], 0, false) else ((ds.drop (off + 1)).take x.toNat, off + 1 + x.toNat, true)

def bstr (l : List UInt8) : Value := .string ⟨l.toArray⟩
def decV (r : List UInt8 × Nat × Bool) : Value := .tuple #[bstr r.1, .int .i64 (r.2.1 : Int), .bool r.2.2]
/-- decodeName's answer, behind a name. -/
def DecE (e : Ending) (r : List UInt8 × Nat × Bool) : Prop := e = .returned (decV r)

theorem strOf_B (bs : List UInt8) : strOfNums (bs.map fun b => (b.toNat : Int)) = ⟨bs.toArray⟩ := by
  unfold strOfNums
  rw [List.map_map]
  congr 2
  conv => rhs; rw [← List.map_id bs]
  apply List.map_congr_left
  intro b _
  simp

theorem dec_out (ds : List UInt8) (off : Nat) (sh : Int) (h : ds.length ≤ off) : dec ds off sh = ([], 0, false) := by
  unfold dec
  rw [List.getElem?_eq_none h]
theorem dec_no (ds : List UInt8) (off : Nat) (sh : Int) (x : UInt8) (hx : ds[off]? = some x) (h : (x.toNat : Int) < sh ∨ ds.length < off + 1 + x.toNat) : dec ds off sh = ([], 0, false) := by
  unfold dec
  rw [hx]
  exact if_pos h
theorem dec_yes (ds : List UInt8) (off : Nat) (sh : Int) (x : UInt8) (hx : ds[off]? = some x) (h1 : ¬ (x.toNat : Int) < sh) (h2 : ¬ ds.length < off + 1 + x.toNat) : dec ds off sh = ((ds.drop (off + 1)).take x.toNat, off + 1 + x.toNat, true) := by
  unfold dec
  rw [hx]
  exact if_neg (by omega)

set_option maxHeartbeats 400000 in
theorem decodeName_any (ds : List UInt8) (v : Value) (off : Nat) (sh : Int) (w : World) (h : Row w v (B ds)) (hz : ds.length ≤ 4194304) (ho : off ≤ 4194304) :
    Calls Try.prog 19 #[v, .int .i64 off, .int .i64 sh] w fun e w' => DecE e (dec ds off sh) ∧ w' = w := by
  obtain ⟨a, c, rfl, h1, h2, h3, h4⟩ := h
  unfold maxLen at h2
  rw [B_length] at *
  have H4 : Hid _ := h4
  clear h4
  by_cases hlt : off < ds.length
  · obtain ⟨x, hx⟩ : ∃ x, ds[off]? = some x := ⟨_, List.getElem?_eq_getElem hlt⟩
    obtain ⟨b, o, hab, hc⟩ := H4.out off _ (B_get hx)
    subst hab
    have hb : x.toNat < 256 := x.toNat_lt
    by_cases hs : (x.toNat : Int) < sh
    · have HF : Hid _ := dec_no ds off sh x hx (.inl hs)
      clear hx
      go_enter Try.func19, Try.ntmps19
      go_wp2
      all_goals (go_ret3; exact ⟨by unfold DecE; rw [HF.out]; rfl, rfl⟩)
    · by_cases hl : ds.length < off + 1 + x.toNat
      · have HF : Hid _ := dec_no ds off sh x hx (.inr hl)
        clear hx
        go_enter Try.func19, Try.ntmps19
        go_wp2
        all_goals (go_ret3; exact ⟨by unfold DecE; rw [HF.out]; rfl, rfl⟩)
      · have HF : Hid _ := dec_yes ds off sh x hx hs hl
        have hcc : ∀ i, i < x.toNat → w.cell? ⟨b, o + (off + 1) + i, none⟩ = some (.int .u8 ((((ds.drop (off + 1)).take x.toNat).map fun b => (b.toNat : Int)).getD i 0)) := by
          intro i hi
          have hx' : ds[off + 1 + i]? = some (ds[off + 1 + i]'(by omega)) := List.getElem?_eq_getElem (by omega)
          obtain ⟨b', o', hab, hc'⟩ := H4.out (off + 1 + i) _ (B_get hx')
          simp only [Option.some.injEq, Addr.mk.injEq, and_true] at hab
          obtain ⟨rfl, rfl⟩ := hab
          rw [show o + (off + 1) + i = o + (off + 1 + i) by omega, hc']
          simp [List.getD, List.getElem?_take_of_lt hi, hx']
        have hlen : (((ds.drop (off + 1)).take x.toNat).map fun b => (b.toNat : Int)).length = x.toNat := by simp; omega
        clear hx
        by_cases hce : c = off + 1
        · subst hce
          have hx0 : x.toNat = 0 := by omega
          rw [hx0] at HF
          have hcv := run_convert_bytes_arg (P := Try.prog) w 22 5 Try.underlying22 Try.underlying5 b o 0 0 [] rfl (fun i hi => by omega) 9 Try.underlying9
          rw [show strOfNums [] = ⟨([] : List UInt8).toArray⟩ from rfl] at hcv
          clear hcc hlen
          go_enter Try.func19, Try.ntmps19
          go_wp2

          go_ret3; exact ⟨by unfold DecE; rw [HF.out]; rfl, rfl⟩
        · have hcv := run_convert_bytes_arg (P := Try.prog) w 22 5 Try.underlying22 Try.underlying5 b (o + (off + 1)) x.toNat (c - (off + 1)) _ hlen hcc 9 Try.underlying9
          rw [strOf_B] at hcv
          clear hcc hlen
          go_enter Try.func19, Try.ntmps19
          go_wp2
          go_ret3; exact ⟨by unfold DecE; rw [HF.out]; rfl, rfl⟩
  · have HF : Hid _ := dec_out ds off sh (by omega)
    go_enter Try.func19, Try.ntmps19
    go_wp2
    go_ret3
    exact ⟨by unfold DecE; rw [HF.out]; rfl, rfl⟩

set_option maxHeartbeats 400000 in
theorem ZZdecodeName_any (ds : List UInt8) (v : Value) (off : Nat) (sh : Int) (w : World) (h : Row w v (B ds)) (hz : ds.length ≤ 4194304) (ho : off ≤ 4194304) :
    Calls Try.prog 8 #[v, .int .i64 off, .int .i64 sh] w fun e w' => DecE e (dec ds off sh) ∧ w' = w := by
  have c19 := decodeName_any ds v off sh w h hz ho
  have C19 := hide c19
  have H := hide h
  clear c19 h
  go_enter Try.func8, Try.ntmps8
  go_wp2_with (go_at_call 19; refine C19.out.mono ?_; rintro e w1 ⟨he, hw⟩; unfold DecE decV at he; subst he; subst hw)
  go_ret3
  exact ⟨rfl, rfl⟩

set_option maxHeartbeats 400000 in
theorem zzBytes6_any (a0 : Option Addr) (l0 c0 : Nat) (s : ByteArray) (a2 : Option Addr) (l2 c2 : Nat) (sh : Int) (w : World) (h0 : l0 ≤ maxLen) (h1 : s.size ≤ maxLen) (h2 : l2 ≤ maxLen) :
    Calls Try.prog 6 #[.slice a0 l0 c0, .string s, .slice a2 l2 c2, .int .i64 sh] w fun e w' => (e = .returned (.bool (decide (l0 + s.size + l2 ≤ 1048576)))) ∧ w' = w := by
  unfold maxLen at *
  by_cases h : l0 + s.size + l2 ≤ 1048576
  · have H : Hid _ := decide_eq_true h
    go_enter Try.func6, Try.ntmps6
    go_wp2
    go_ret
    exact ⟨by rw [H.out]; rfl, rfl⟩
  · have H : Hid _ := decide_eq_false h
    go_enter Try.func6, Try.ntmps6
    go_wp2
    all_goals (go_ret; exact ⟨by rw [H.out]; rfl, rfl⟩)
end Go.Proofs.Qxb6605489a
