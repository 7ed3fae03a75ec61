import Derived.Test.Qxb6605452aMem2
namespace Go.Proofs.Qxb6605452a
open Go.RowKit

def zV (l : List Int) : List Value := l.map (.int .i64)
theorem zV_length (l : List Int) : (zV l).length = l.length := by simp [zV]
theorem zV_get {l : List Int} {k : Nat} {x : Int} (h : l[k]? = some x) : (zV l)[k]? = some (.int .i64 x) := by simp [zV, h]

/-- A slice of slices of numbers. -/
def RowsZ (w : World) (v : Value) (out : List (List Int)) : Prop :=
  ∃ a c, v = .slice a out.length c ∧ out.length ≤ c ∧ c ≤ maxLen ∧ (a = none → c = 0) ∧
    ∀ i l, out[i]? = some l → ∃ b o ar cr, a = some ⟨b, o, none⟩ ∧ w.cell? ⟨b, o + i, none⟩ = some (.slice ar l.length cr) ∧ Row w (.slice ar l.length cr) (zV l)
theorem RowsZ.below {w w' : World} {v : Value} {out : List (List Int)} (h : RowsZ w v out) (hb : Below w.heap.size w w') : RowsZ w' v out := by
  obtain ⟨a, c, rfl, h1, h2, h3, h4⟩ := h
  refine ⟨a, c, rfl, h1, h2, h3, fun i l hl => ?_⟩
  obtain ⟨b, o, ar, cr, rfl, hc, hr⟩ := h4 i l hl
  exact ⟨b, o, ar, cr, rfl, cell_later hb hc, hr.below hb⟩
theorem RowsZ.at {w : World} {a : Option Addr} {n c : Nat} {out : List (List Int)} (h : RowsZ w (.slice a n c) out) {i : Nat} {l : List Int} (hl : out[i]? = some l) :
    ∃ b o ar cr, a = some ⟨b, o, none⟩ ∧ w.cell? ⟨b, o + i, none⟩ = some (.slice ar l.length cr) ∧ Row w (.slice ar l.length cr) (zV l) := by
  obtain ⟨a', c', hv, h1, h2, h3, h4⟩ := h
  simp only [Value.slice.injEq] at hv
  obtain ⟨rfl, rfl, rfl⟩ := hv
  exact h4 i l hl
theorem Row.atZ {w : World} {a : Option Addr} {n c : Nat} {l : List Int} (h : Row w (.slice a n c) (zV l)) {k : Nat} {x : Int} (hx : l[k]? = some x) : ∃ b o, a = some ⟨b, o, none⟩ ∧ w.cell? ⟨b, o + k, none⟩ = some (.int .i64 x) := by
  obtain ⟨a', c', hv, h1, h2, h3, h4⟩ := h
  simp only [Value.slice.injEq] at hv
  obtain ⟨rfl, rfl, rfl⟩ := hv
  exact h4 k _ (zV_get hx)
theorem Row.lenLe {w : World} {a : Option Addr} {n c : Nat} {xs : List Value} (h : Row w (.slice a n c) xs) : n ≤ maxLen := by
  obtain ⟨a', c', hv, h1, h2, h3, h4⟩ := h
  simp only [Value.slice.injEq] at hv
  obtain ⟨rfl, rfl, rfl⟩ := hv
  omega

/-- The sum of the rows' lengths. -/
def totZ (out : List (List Int)) : Nat := (out.map List.length).sum
theorem totZ_take {out : List (List Int)} {k : Nat} {l : List Int} (h : out[k]? = some l) : totZ (out.take (k + 1)) = totZ (out.take k) + l.length := by
  have hk := (List.getElem?_eq_some_iff.1 h).1
  have he := (List.getElem?_eq_some_iff.1 h).2
  rw [List.take_add_one, h]
  simp [totZ]
theorem totZ_le (out : List (List Int)) (k : Nat) : totZ (out.take k) ≤ totZ out := by
  have e : totZ out = totZ (out.take k) + totZ (out.drop k) := by
    unfold totZ
    rw [← List.sum_append, ← List.map_append, List.take_append_drop]
  omega

/-- Some bool comes back. -/
def SomeBool (e : Ending) : Prop := ∃ b : Bool, e = .returned (.bool b)
theorem SomeBool.mk {v : Value} (b : Bool) (h : v = .bool b) : SomeBool (.returned v) := ⟨b, by rw [h]⟩

set_option maxHeartbeats 800000 in
theorem bytes7_any (ts : List Int) (out : List (List Int)) (vt vo : Value) (w : World) (ht : Row w vt (zV ts)) (ho : RowsZ w vo out) :
    Calls Try.prog 7 #[vt, vo] w fun e w' => SomeBool e ∧ w' = w := by
  have HO := hide ho
  obtain ⟨at', ct, rfl, ht1, ht2, _⟩ := ht
  obtain ⟨ao, co, rfl, ho1, ho2, _⟩ := ho
  rw [zV_length] at *
  unfold maxLen at ht2 ho2
  go_enter Try.func7, Try.ntmps7
  by_cases h1 : ts.length ≤ 1048576
  · by_cases h2 : out.length ≤ 1048576
    · by_cases h3 : (ts.length : Int) + (out.length : Int) ≤ 1048576
      · obtain ⟨m0, hm0⟩ : ∃ m : Int, m = (ts.length : Int) + (out.length : Int) := ⟨_, rfl⟩
        go_wp2_with fail
        rw [← hm0]
        go_loop [5, 6] (fun t i => ∃ (k : Nat) (n : Int), k ≤ out.length ∧ 0 ≤ n ∧ n ≤ 1048576 ∧ i = .int .i64 k ∧ t = .int .i64 n) (fun _ i => out.length - (intOf i).toNat)
        case atStart => exact ⟨0, m0, by omega, by omega, by omega, rfl, rfl⟩
        case round =>
          obtain ⟨k, n, hk, hn0, hn, rfl, rfl⟩ := hrel
          by_cases hlt : k < out.length
          · obtain ⟨l, hl⟩ : ∃ l, out[k]? = some l := ⟨_, List.getElem?_eq_getElem hlt⟩
            obtain ⟨b, o, ar, cr, hab, hc, hr⟩ := HO.out.at hl
            have hll := hr.lenLe
            unfold maxLen at hll
            subst hab
            clear hl hr
            by_cases hb1 : l.length ≤ 1048576
            · by_cases hb2 : n + (l.length : Int) ≤ 1048576
              · go_wp2_with fail
                go_round
                case rel => exact ⟨k + 1, n + (l.length : Int), by omega, by omega, hb2, by go_num, rfl⟩
                case measure => simp [intOf]; omega
              · go_wp2_with fail
                go_ret
                exact ⟨SomeBool.mk _ rfl, rfl⟩
            · go_wp2_with fail
              go_ret
              exact ⟨SomeBool.mk _ rfl, rfl⟩
          · have hke : k = out.length := by omega
            subst hke
            go_wp2_with fail
            go_ret
            exact ⟨SomeBool.mk _ rfl, rfl⟩
      · go_wp2_with fail
        go_ret
        exact ⟨SomeBool.mk _ rfl, rfl⟩
    · go_wp2_with fail
      go_ret
      exact ⟨SomeBool.mk _ rfl, rfl⟩
  · go_wp2_with fail
    go_ret
    exact ⟨SomeBool.mk _ rfl, rfl⟩
set_option maxHeartbeats 800000 in
theorem bytes15_any (ts : List Int) (out : List (List Int)) (vt vo : Value) (w : World) (ht : Row w vt (zV ts)) (ho : RowsZ w vo out) :
    Calls Try.prog 15 #[vt, vo] w fun e w' => SomeBool e ∧ w' = w := by
  have HO := hide ho
  obtain ⟨at', ct, rfl, ht1, ht2, _⟩ := ht
  obtain ⟨ao, co, rfl, ho1, ho2, _⟩ := ho
  rw [zV_length] at *
  unfold maxLen at ht2 ho2
  go_enter Try.func15, Try.ntmps15
  by_cases h1 : ts.length ≤ 1048576
  · by_cases h2 : out.length ≤ 1048576
    · by_cases h3 : (ts.length : Int) + (out.length : Int) ≤ 1048576
      · obtain ⟨m0, hm0⟩ : ∃ m : Int, m = (ts.length : Int) + (out.length : Int) := ⟨_, rfl⟩
        go_wp2_with fail
        rw [← hm0]
        go_loop [5, 6] (fun t i => ∃ (k : Nat) (n : Int), k ≤ out.length ∧ 0 ≤ n ∧ n ≤ 1048576 ∧ i = .int .i64 k ∧ t = .int .i64 n) (fun _ i => out.length - (intOf i).toNat)
        case atStart => exact ⟨0, m0, by omega, by omega, by omega, rfl, rfl⟩
        case round =>
          obtain ⟨k, n, hk, hn0, hn, rfl, rfl⟩ := hrel
          by_cases hlt : k < out.length
          · obtain ⟨l, hl⟩ : ∃ l, out[k]? = some l := ⟨_, List.getElem?_eq_getElem hlt⟩
            obtain ⟨b, o, ar, cr, hab, hc, hr⟩ := HO.out.at hl
            have hll := hr.lenLe
            unfold maxLen at hll
            subst hab
            clear hl hr
            by_cases hb1 : l.length ≤ 1048576
            · by_cases hb2 : n + (l.length : Int) ≤ 1048576
              · go_wp2_with fail
                go_round
                case rel => exact ⟨k + 1, n + (l.length : Int), by omega, by omega, hb2, by go_num, rfl⟩
                case measure => simp [intOf]; omega
              · go_wp2_with fail
                go_ret
                exact ⟨SomeBool.mk _ rfl, rfl⟩
            · go_wp2_with fail
              go_ret
              exact ⟨SomeBool.mk _ rfl, rfl⟩
          · have hke : k = out.length := by omega
            subst hke
            go_wp2_with fail
            go_ret
            exact ⟨SomeBool.mk _ rfl, rfl⟩
      · go_wp2_with fail
        go_ret
        exact ⟨SomeBool.mk _ rfl, rfl⟩
    · go_wp2_with fail
      go_ret
      exact ⟨SomeBool.mk _ rfl, rfl⟩
  · go_wp2_with fail
    go_ret
    exact ⟨SomeBool.mk _ rfl, rfl⟩
set_option maxHeartbeats 800000 in
theorem bytes23_any (ts : List Int) (out : List (List Int)) (vt vo : Value) (w : World) (ht : Row w vt (zV ts)) (ho : RowsZ w vo out) :
    Calls Try.prog 23 #[vt, vo] w fun e w' => SomeBool e ∧ w' = w := by
  have HO := hide ho
  obtain ⟨at', ct, rfl, ht1, ht2, _⟩ := ht
  obtain ⟨ao, co, rfl, ho1, ho2, _⟩ := ho
  rw [zV_length] at *
  unfold maxLen at ht2 ho2
  go_enter Try.func23, Try.ntmps23
  by_cases h1 : ts.length ≤ 1048576
  · by_cases h2 : out.length ≤ 1048576
    · by_cases h3 : (ts.length : Int) + (out.length : Int) ≤ 1048576
      · obtain ⟨m0, hm0⟩ : ∃ m : Int, m = (ts.length : Int) + (out.length : Int) := ⟨_, rfl⟩
        go_wp2_with fail
        rw [← hm0]
        go_loop [5, 6] (fun t i => ∃ (k : Nat) (n : Int), k ≤ out.length ∧ 0 ≤ n ∧ n ≤ 1048576 ∧ i = .int .i64 k ∧ t = .int .i64 n) (fun _ i => out.length - (intOf i).toNat)
        case atStart => exact ⟨0, m0, by omega, by omega, by omega, rfl, rfl⟩
        case round =>
          obtain ⟨k, n, hk, hn0, hn, rfl, rfl⟩ := hrel
          by_cases hlt : k < out.length
          · obtain ⟨l, hl⟩ : ∃ l, out[k]? = some l := ⟨_, List.getElem?_eq_getElem hlt⟩
            obtain ⟨b, o, ar, cr, hab, hc, hr⟩ := HO.out.at hl
            have hll := hr.lenLe
            unfold maxLen at hll
            subst hab
            clear hl hr
            by_cases hb1 : l.length ≤ 1048576
            · by_cases hb2 : n + (l.length : Int) ≤ 1048576
              · go_wp2_with fail
                go_round
                case rel => exact ⟨k + 1, n + (l.length : Int), by omega, by omega, hb2, by go_num, rfl⟩
                case measure => simp [intOf]; omega
              · go_wp2_with fail
                go_ret
                exact ⟨SomeBool.mk _ rfl, rfl⟩
            · go_wp2_with fail
              go_ret
              exact ⟨SomeBool.mk _ rfl, rfl⟩
          · have hke : k = out.length := by omega
            subst hke
            go_wp2_with fail
            go_ret
            exact ⟨SomeBool.mk _ rfl, rfl⟩
      · go_wp2_with fail
        go_ret
        exact ⟨SomeBool.mk _ rfl, rfl⟩
    · go_wp2_with fail
      go_ret
      exact ⟨SomeBool.mk _ rfl, rfl⟩
  · go_wp2_with fail
    go_ret
    exact ⟨SomeBool.mk _ rfl, rfl⟩

/-- A number comes back; where it is small the lengths are. -/
def CountE (e : Ending) (n : Nat) : Prop := ∃ r : Int, e = .returned (.int .i64 r) ∧ 0 ≤ r ∧ r ≤ 9223372036854775807 ∧ (r ≤ 1048576 → 8 * n ≤ 1048576)
theorem CountE.mk {v : Value} {n : Nat} (r : Int) (h : v = .int .i64 r) (h1 : 0 ≤ r) (h2 : r ≤ 9223372036854775807) (h3 : r ≤ 1048576 → 8 * n ≤ 1048576) : CountE (.returned v) n := ⟨r, by rw [h], h1, h2, h3⟩

set_option maxHeartbeats 800000 in
theorem bytes8_any (ts : List Int) (out : List (List Int)) (vt vo : Value) (w : World) (ht : Row w vt (zV ts)) (ho : RowsZ w vo out) :
    Calls Try.prog 8 #[vt, vo] w fun e w' => CountE e (ts.length + out.length + totZ out) ∧ w' = w := by
  have HO := hide ho
  obtain ⟨at', ct, rfl, ht1, ht2, _⟩ := ht
  obtain ⟨ao, co, rfl, ho1, ho2, _⟩ := ho
  rw [zV_length] at *
  unfold maxLen at ht2 ho2
  go_enter Try.func8, Try.ntmps8
  by_cases h1 : ts.length ≤ 1048576
  · by_cases h2 : out.length ≤ 1048576
    · obtain ⟨m0, hm0⟩ : ∃ m : Int, m = 8 * (ts.length : Int) + 8 * (out.length : Int) := ⟨_, rfl⟩
      go_wp2_with fail
      rw [← hm0]
      go_loop [5, 6] (fun t i => ∃ (k : Nat) (n : Int), k ≤ out.length ∧ 0 ≤ n ∧ n ≤ 16777216 ∧ Hid (n = 8 * (ts.length : Int) + 8 * (out.length : Int) + 8 * (totZ (out.take k) : Int)) ∧ i = .int .i64 k ∧ t = .int .i64 n) (fun _ i => out.length - (intOf i).toNat)
      case atStart => exact ⟨0, m0, by omega, by omega, by omega, by show _ = _; simp [totZ]; exact hm0, rfl, rfl⟩
      case round =>
        obtain ⟨k, n, hk, hn0, hn, HN, rfl, rfl⟩ := hrel
        by_cases hlt : k < out.length
        · obtain ⟨l, hl⟩ : ∃ l, out[k]? = some l := ⟨_, List.getElem?_eq_getElem hlt⟩
          obtain ⟨b, o, ar, cr, hab, hc, hr⟩ := HO.out.at hl
          have hll := hr.lenLe
          have HT := hide (totZ_take hl)
          have HT2 := hide (totZ_le out (k + 1))
          unfold maxLen at hll
          subst hab
          clear hl hr
          by_cases hb1 : l.length ≤ 1048576
          · by_cases hb2 : n + 8 * (l.length : Int) ≤ 1048576
            · go_wp2_with fail
              go_round
              case rel => exact ⟨k + 1, n + 8 * (l.length : Int), by omega, by omega, by omega, by show _ = _; have := HN.out; rw [HT.out]; omega, by go_num, rfl⟩
              case measure => simp [intOf]; omega
            · go_wp2_with fail
              go_ret
              exact ⟨CountE.mk _ rfl (by omega) (by omega) (fun h => absurd h (by omega)), rfl⟩
          · go_wp2_with fail
            go_ret
            exact ⟨CountE.mk _ rfl (by omega) (by omega) (fun h => absurd h (by omega)), rfl⟩
        · have hke : k = out.length := by omega
          subst hke
          go_wp2_with fail
          go_ret
          refine ⟨CountE.mk _ rfl (by omega) (by omega) (fun h => ?_), rfl⟩
          have := HN.out
          rw [List.take_length] at this
          omega
    · go_wp2_with fail
      go_ret
      exact ⟨CountE.mk _ rfl (by omega) (by omega) (fun h => absurd h (by omega)), rfl⟩
  · go_wp2_with fail
    go_ret
    exact ⟨CountE.mk _ rfl (by omega) (by omega) (fun h => absurd h (by omega)), rfl⟩
end Go.Proofs.Qxb6605452a
