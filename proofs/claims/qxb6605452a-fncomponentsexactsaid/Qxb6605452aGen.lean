import Derived.WalkKit
import Derived.WalkSpells
import Derived.WalkLawsBesides
import Derived.Deep.AppendSrc
import Derived.Deep.LoopGhost
namespace Go.Proofs.Qxb6605452a
open Go.RowKit

theorem hide {p : Prop} (h : p) : Hid p := h

/-! ### A slice value that reads as given cells -/
/-- The slice value v reads as the cells xs (one cell an element). -/
def Row (w : World) (v : Value) (xs : List Value) : Prop :=
  ∃ a c, v = .slice a xs.length c ∧ xs.length ≤ c ∧ c ≤ maxLen ∧ (a = none → c = 0) ∧
    ∀ i u, xs[i]? = some u → ∃ b o, a = some ⟨b, o, none⟩ ∧ w.cell? ⟨b, o + i, none⟩ = some u

theorem Row.below {w w' : World} {v : Value} {xs : List Value} (h : Row w v xs) (hb : Below w.heap.size w w') : Row w' v xs := by
  obtain ⟨a, c, rfl, h1, h2, h3, h4⟩ := h
  refine ⟨a, c, rfl, h1, h2, h3, fun i u hu => ?_⟩
  obtain ⟨b, o, rfl, hc⟩ := h4 i u hu
  exact ⟨b, o, rfl, cell_later hb hc⟩

theorem Row.of_owns {w : World} {base : Nat} {e : TypeId} {v : Value} {n : Nat} {xs : List Value} (h : w.ownsRow base e 1 v n xs) : Row w v xs := by
  obtain ⟨h1, h2⟩ := h
  simp at h1
  rcases h2 with ⟨rfl, rfl⟩ | ⟨g, cap, cur, rfl, hb, hg, hn, hm, hs, ht⟩
  · have : xs = [] := List.eq_nil_of_length_eq_zero h1
    subst this
    exact ⟨none, 0, rfl, Nat.le_refl _, Nat.zero_le _, fun _ => rfl, fun i u hu => by simp at hu⟩
  · refine ⟨some ⟨g, 0, none⟩, cap, by rw [h1], by omega, hm, (fun h => by cases h), fun i u hu => ⟨g, 0, rfl, ?_⟩⟩
    have hlt : i < xs.length := (List.getElem?_eq_some_iff.1 hu).1
    rw [Nat.zero_add, cell_of_row w g i cur e (0, 0) hg]
    rw [← ht, List.getElem?_take] at hu
    split at hu
    · simpa using hu
    · cases hu

theorem Row.none_nil {w : World} {n c : Nat} {xs : List Value} (h : Row w (.slice none n c) xs) : xs = [] := by
  obtain ⟨a, c', hv, h1, h2, h3, h4⟩ := h
  simp only [Value.slice.injEq] at hv
  obtain ⟨rfl, rfl, rfl⟩ := hv
  have := h3 rfl
  exact List.eq_nil_of_length_eq_zero (by omega)

theorem Row.nil (w : World) : Row w (.slice none 0 0) [] := ⟨none, 0, rfl, Nat.le_refl _, Nat.zero_le _, fun _ => rfl, fun i u hu => by simp at hu⟩

/-- The first part of what a slice reads as: 's[:n]'. -/
theorem Row.src {P : Program} {w : World} {v : Value} {xs : List Value} {t e' : TypeId} (h : Row w v xs) (ht : P.underlying t = some (.slice e')) (h1 : ∀ u ∈ xs, u.oneCell' = true) : Src P 1 t v xs.length xs w := by
  obtain ⟨a, c, rfl, g1, g2, g3, g4⟩ := h
  cases a with
  | none =>
    have hx : xs = [] := List.eq_nil_of_length_eq_zero (by have := g3 rfl; omega)
    subst hx
    exact Src.ofNil w ht c
  | some ad =>
    refine Src.ofSlice w ht ad _ c xs (by simp) (fun j u hu => ?_) h1
    obtain ⟨b, o, hab, hc⟩ := g4 j u hu
    simp only [Option.some.injEq] at hab
    subst hab
    rw [Addr.add_lit]
    exact hc

/-! ### Copying a row cell by cell -/
/-- Half copied: the first k cells are those of xs. -/
def Copied (xs : List Value) (k : Nat) (z : Value) : List Value := xs.take k ++ List.replicate (xs.length - k) z

theorem copied_zero (xs : List Value) (z : Value) : Copied xs 0 z = List.replicate xs.length z := by simp [Copied]
theorem copied_full (xs : List Value) (z : Value) : Copied xs xs.length z = xs := by simp [Copied]
theorem copied_step (xs : List Value) (k : Nat) (z u : Value) (hu : xs[k]? = some u) : (Copied xs k z).set k u = Copied xs (k + 1) z := by
  have h : k < xs.length := (List.getElem?_eq_some_iff.1 hu).1
  have hu' : xs[k] = u := (List.getElem?_eq_some_iff.1 hu).2
  subst hu'
  unfold Copied
  apply List.ext_getElem?
  intro j
  by_cases hj : j < xs.length
  · rcases Nat.lt_trichotomy j k with hl | hl | hl
    · rw [List.getElem?_set_ne (by omega), List.getElem?_append_left (by simp; omega), List.getElem?_append_left (by simp; omega), List.getElem?_take_of_lt hl, List.getElem?_take_of_lt (by omega)]
    · subst hl
      rw [List.getElem?_set_self (by simp; omega), List.getElem?_append_left (by simp; omega), List.getElem?_take_of_lt (by omega), List.getElem?_eq_getElem h]
    · rw [List.getElem?_set_ne (by omega), List.getElem?_append_right (by simp; omega), List.getElem?_append_right (by simp; omega)]
      rw [List.getElem?_replicate, List.getElem?_replicate, if_pos (by simp; omega), if_pos (by simp; omega)]
  · rw [List.getElem?_eq_none (by simp; omega), List.getElem?_eq_none (by simp; omega)]

/-! ### append onto a row of the call's own, from whatever source -/
section
variable {P : Program} (w : World)

theorem run_append_own_src (base : Nat) (t tx ty e : TypeId) (i : TypeInfo) (z : Value) (size bytes : Nat) (ht : P.underlying t = some (.slice e)) (hi : P.info? e = some i) (hz : i.zero = some z)
    (hsize : i.size = size) (hby : i.bytes = bytes) (hzs : z.cells.size = size)
    (v : Value) (n : Nat) (xs : List Value) (hown : w.ownsRow base e size v n xs)
    (x : Value) (m : Nat) (news : List Value) (hs : Src P size tx x m news w)
    (h63 : n + m ≤ maxLen) (hbytes : (n + m) * bytes ≤ 140737488355328) (hbase : base ≤ w.heap.size) :
    ∃ v' w', (Builtin.append_ #[t, tx] ty #[v, x]).run P w = .ok v' w' ∧ w'.ownsRow base e size v' (n + m) (xs ++ news) ∧ w.grownBy w' v.ownBlock ∧ (∀ k, v'.ownBlock = some k → v.ownBlock = some k ∨ w.heap.size ≤ k) := by
  subst hsize
  subst hby
  have hl := hs.newsLen
  have hsmall : ((n + m : Nat) : Int) ≤ 9223372036854775807 := by simp only [maxLen] at h63; omega
  have hlen : (xs ++ news).length = (n + m) * i.size := by rw [List.length_append, hown.1, hl, Nat.add_mul]
  have grown : ∀ (old : Nat), old < n + m → ∀ (row : Option Nat),
      (w.drew.alloc (.cells ((xs ++ news).toArray ++ Builtin.zeroCells z.cells (grownCap w (n + m) old e - (n + m))) e)).ownsRow base e i.size
        (.slice (some ⟨w.heap.size, 0, none⟩) (n + m) (grownCap w (n + m) old e)) (n + m) (xs ++ news) ∧
      w.grownBy (w.drew.alloc (.cells ((xs ++ news).toArray ++ Builtin.zeroCells z.cells (grownCap w (n + m) old e - (n + m))) e)) row := by
    intro old ho row
    have hge := grownCap_ge w (n + m) old e
    have hcm : grownCap w (n + m) old e ≤ maxLen := grownCap_le_maxLen w (n + m) old e h63
    refine ⟨⟨hlen, .inr ⟨w.heap.size, _, _, rfl, hbase, heap_alloc_new w.drew _, hge, hcm, ?_, ?_⟩⟩, ⟨rfl, rfl, rfl, by simp, fun k hk _ => Below.heap_alloc w.drew _ k hk⟩⟩
    · simp only [Array.size_append, List.size_toArray, size_zeroCells, hzs, hlen, ← Nat.add_mul]
      congr 1
      omega
    · simp only [Array.toList_append]
      rw [← hlen]
      exact List.take_left
  rcases hown.2 with ⟨rfl, rfl⟩ | ⟨g, cap, cur, rfl, hbg, hg, hnc, hcm, hcs, htake⟩
  · have hx : xs = [] := List.eq_nil_of_length_eq_zero (by simpa using hown.1)
    subst hx
    by_cases hm : m = 0
    · subst hm
      have hn : news = [] := List.eq_nil_of_length_eq_zero (by simpa using hl)
      subst hn
      refine ⟨.slice none 0 0, w, ?_, World.ownsRow_nil w base e i.size, ⟨rfl, rfl, rfl, Nat.le_refl _, fun _ _ _ => rfl⟩, fun k hk => .inl hk⟩
      have hc := hs.cells
      rcases hs.kind with ⟨e', hk⟩ | hk <;> simp [Builtin.append_, run_underlying ht, run_underlying hk, sizeOf, typeInfo, hi, hs.len, hc]
    · have hr := run_append_grow_src (P := P) w t tx ty e i z ht hi hz none 0 0 [] (run_firstCells_none w.drew i.size 0 0 0) x m news hs (by omega) (by simpa using hsmall) (growslice_fits (by omega) hbytes)
      have hgr := grown 0 (by omega) (Value.ownBlock (.slice none 0 0))
      exact ⟨_, _, hr, hgr.1, hgr.2, fun k hk => .inr (by simp [Value.ownBlock] at hk; omega)⟩
  · by_cases hroom : n + m ≤ cap
    · have hfit : n * i.size + news.length ≤ cur.size := by rw [hl, hcs, ← Nat.add_mul]; exact Nat.mul_le_mul_right _ hroom
      have hst := run_storeCells_at P g (n * i.size) e news 0 cur w hg (by simpa using hfit) hs.one
      simp only [Nat.add_zero] at hst
      refine ⟨.slice (some ⟨g, 0, none⟩) (n + m) cap, w.setRow g (cur.toList.take (n * i.size) ++ news ++ cur.toList.drop (n * i.size + news.length)).toArray, ?_, ⟨hlen, .inr ⟨g, cap, _, rfl, hbg, setRow_heap w g cur _ e _ hg, hroom, hcm, ?_, ?_⟩⟩, ⟨rfl, rfl, rfl, by simp, fun k _ hk => setRow_other w g k _ (fun e => hk (by simp [Value.ownBlock, e]))⟩, fun k hk => .inl hk⟩
      · rcases hs.kind with ⟨e', hk⟩ | hk <;> simp [Builtin.append_, run_underlying ht, run_underlying hk, sizeOf, typeInfo, hi, hs.len, hroom, hs.cells, Addr.add_lit, hst]
      · simp only [List.size_toArray, List.length_append, List.length_take, List.length_drop, Array.length_toList]
        omega
      · rw [htake, ← hlen]
        exact List.take_left
    · have holds : ∀ j u, xs[j]? = some u → w.cell? ((⟨g, 0, none⟩ : Addr).add j) = some u := hown.cells (g := g) rfl
      have hr := run_append_grow_src (P := P) w t tx ty e i z ht hi hz (some ⟨g, 0, none⟩) n cap xs (run_firstCells_some w.drew i.size n ⟨g, 0, none⟩ n cap xs hown.1 (by simpa using holds)) x m news hs (by omega) hsmall (growslice_fits (by omega) hbytes)
      have hgr := grown cap (by omega) (Value.ownBlock (.slice (some ⟨g, 0, none⟩) n cap))
      exact ⟨_, _, hr, hgr.1, hgr.2, fun k hk => .inr (by simp [Value.ownBlock] at hk; omega)⟩

theorem wpList_append_src {ops : Array Oper} {rest : List Oper} {o : Oper} {a : Act} {Q : Exit → Act → World → Prop} (hgd : o.guard = none) (s x : Operand) (t tx : TypeId)
    (ho : o.op = .call { callee := .builtin .append, args := #[s, x], argTypes := #[t, tx] })
    (base : Nat) (e : TypeId) (i : TypeInfo) (z : Value) (size bytes : Nat) (ht : P.underlying t = some (.slice e)) (hi : P.info? e = some i) (hz : i.zero = some z)
    (hsize : i.size = size) (hby : i.bytes = bytes) (hzs : z.cells.size = size)
    (v : Value) (n : Nat) (xs : List Value) (hs : a.eval s = v) (hown : w.ownsRow base e size v n xs)
    (xv : Value) (m : Nat) (news : List Value) (hx : a.eval x = xv) (hsrc : Src P size tx xv m news w)
    (h63 : n + m ≤ maxLen) (hbytes : (n + m) * bytes ≤ 140737488355328) (hbase : base ≤ w.heap.size)
    (h : ∀ v' w', w'.ownsRow base e size v' (n + m) (xs ++ news) → w.grownBy w' v.ownBlock → (∀ k, v'.ownBlock = some k → v.ownBlock = some k ∨ w.heap.size ≤ k) → wpList P ops Q rest (a.put o.dst v') w') : wpList P ops Q (o :: rest) a w := by
  refine wpList_plain hgd fun K hK => ?_
  obtain ⟨v', w', hr, h2, h3, h4⟩ := run_append_own_src (P := P) w base t tx o.type e i z size bytes ht hi hz hsize hby hzs v n xs hown xv m news hsrc h63 hbytes hbase
  unfold Oper.wp execOp
  simp only [ho, resolve, invoke, builtin, Sem.run_bind, Sem.run_pure, Result.andThen_ok, List.map_toArray, List.map_cons, List.map_nil, hs, hx, hr]
  exact hK _ _ (h v' w' h2 h3 h4)
end
end Go.Proofs.Qxb6605452a
