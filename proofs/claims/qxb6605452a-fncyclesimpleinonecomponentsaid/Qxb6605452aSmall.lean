import Derived.Test.Qxb6605452aQrow
import Derived.Test.Qxb6605452aWell
namespace Go.Proofs.Qxb6605452a
open Go.RowKit

/-- The closure of 'cycle': has the component more than one member? -/
theorem big_any (size : List Nat) (az : Option Addr) (cz bz c m : Nat) (w : World) (h1 : w.cell? ⟨bz, 0, none⟩ = some (.slice az size.length cz)) (hz : Row w (.slice az size.length cz) (intsV size)) (hm : size[c]? = some m) :
    Calls Try.prog 33 #[.int .i64 (c : Int), .pointer (some ⟨bz, 0, none⟩)] w fun e w' => e = .returned (.bool (decide (1 < m))) ∧ w' = w := by
  have hl := (List.getElem?_eq_some_iff.1 hm).1
  obtain ⟨b, o, rfl, c2⟩ := hz.atI hm
  have hl' : (c : Int) < (size.length : Int) := by omega
  clear hz hm
  go_enter Try.func33, Try.ntmps33
  go_wp2_with fail
  go_ret
  simp
  omega

/-- What 'slices.IndexFunc' answers here: the first node whose component has more than one member, or -1. -/
def FstE (n : Nat) (f : Nat → Nat) (size : List Nat) (e : Ending) : Prop :=
  (e = .returned (.int .i64 (-1)) ∧ ∀ x m, x < n → size[f x]? = some m → m ≤ 1) ∨
  ∃ r m : Nat, e = .returned (.int .i64 (r : Int)) ∧ r < n ∧ size[f r]? = some m ∧ 1 < m ∧ ∀ x m, x < r → size[f x]? = some m → m ≤ 1

set_option maxHeartbeats 1000000 in
set_option maxRecDepth 100000 in
theorem index_any (n : Nat) (f : Nat → Nat) (size : List Nat) (ac az : Option Addr) (cc cz bz : Nat) (w : World) (h1 : w.cell? ⟨bz, 0, none⟩ = some (.slice az size.length cz)) (hz : Row w (.slice az size.length cz) (intsV size))
    (hc : Row w (.slice ac n cc) (tabI n f)) (hf : ∀ x, x < n → f x < size.length) (hn : n ≤ 4096) :
    Calls Try.prog 32 #[.slice ac n cc, .func (.func 33) #[] #[.pointer (some ⟨bz, 0, none⟩)]] w fun e w' => FstE n f size e ∧ w' = w := by
  have HZ := hide hz
  have HC := hide hc
  have HF := hide hf
  have H1 := hide h1
  clear hz hc hf h1
  go_enter Try.func32, Try.ntmps32
  go_wp2_with fail
  go_loopw [4, 8] (fun rv kv wr => ∃ k : Nat, k ≤ n ∧ rv = .int .i64 0 ∧ kv = .int .i64 k ∧ wr = w ∧ Hid (∀ x m, x < k → size[f x]? = some m → m ≤ 1)) (fun _ kv _ => n - (intOf kv).toNat)
  case atStart => exact ⟨0, by omega, rfl, rfl, rfl, fun x m hx => by omega⟩
  case round =>
    obtain ⟨k, hk, rfl, rfl, hw, HJ⟩ := hrel
    obtain rfl := hw.symm
    by_cases hlt : k < n
    · have hfl := HF.out k hlt
      obtain ⟨m, hm⟩ : ∃ m, size[f k]? = some m := ⟨_, List.getElem?_eq_getElem hfl⟩
      have C := hide (big_any size az cz bz (f k) m w H1.out HZ.out hm)
      obtain ⟨b, o, hab, c1⟩ := HC.out.tabAt hlt
      subst hab
      have hlt' : (k : Int) < (n : Int) := by omega
      have HM := hide hm
      clear hm
      go_wp2_with fail
      refine C.out.mono ?_
      rintro e w1 ⟨rfl, hw⟩
      obtain rfl := hw.symm
      clear C
      by_cases h1 : 1 < m
      · have hd : decide (1 < m) = true := by simpa using h1
        rw [hd]
        go_wp2_with fail
        go_ret
        exact ⟨.inr ⟨k, m, rfl, hlt, HM.out, h1, HJ.out⟩, rfl⟩
      · have hd : decide (1 < m) = false := by simpa using h1
        rw [hd]
        go_wp2_with fail
        go_roundw
        case rel => exact ⟨k + 1, by omega, rfl, by go_num, (by first | trivial | rfl), fun x m' hx hm' => by
          by_cases e : x = k
          · subst e
            have := HM.out
            rw [hm'] at this
            simp at this
            omega
          · exact HJ.out x m' (by omega) hm'⟩
        case measure => simp [intOf]; omega
    · have hke : k = n := by omega
      subst hke
      go_wp2_with fail
      go_ret
      exact ⟨.inl ⟨rfl, HJ.out⟩, rfl⟩

/-! ### turning a row round -/
def rvk (n : Nat) (F : Nat → Int) (k t : Nat) : Int := if t < k ∨ n - k ≤ t then F (n - 1 - t) else F t
theorem rvk_step {n k : Nat} (F : Nat → Int) (h : k < n - 1 - k) : upd (upd (rvk n F k) k (F (n - 1 - k))) (n - 1 - k) (F k) = rvk n F (k + 1) := by
  funext t
  unfold upd rvk
  by_cases h1 : t = n - 1 - k
  · subst h1
    rw [if_pos rfl, if_pos (by omega)]
    congr 1
    omega
  · rw [if_neg h1]
    by_cases h2 : t = k
    · subst h2
      rw [if_pos rfl, if_pos (by omega)]
    · rw [if_neg h2]
      by_cases h3 : t < k ∨ n - k ≤ t
      · rw [if_pos h3, if_pos (by omega)]
      · rw [if_neg h3, if_neg (by omega)]
theorem tabZ_list (l : List Int) : tabZ l.length (fun t => l.getD t 0) = zV l := by
  apply List.ext_getElem?
  intro j
  by_cases hj : j < l.length
  · rw [tabZ_get _ hj, zV_get (List.getElem?_eq_getElem hj), List.getD, List.getElem?_eq_getElem hj]
    rfl
  · rw [List.getElem?_eq_none (by rw [tabZ_length]; omega), List.getElem?_eq_none (by rw [zV_length]; omega)]
theorem rvk_done (l : List Int) {k : Nat} (h : l.length ≤ k + 1 + k) : tabZ l.length (rvk l.length (fun t => l.getD t 0) k) = zV l.reverse := by
  apply List.ext_getElem?
  intro j
  by_cases hj : j < l.length
  · have e : l.reverse[j]? = some (l.getD (l.length - 1 - j) 0) := by
      rw [List.getElem?_reverse hj, List.getD, List.getElem?_eq_getElem (by omega)]
      rfl
    rw [tabZ_get _ hj, zV_get e]
    congr 2
    unfold rvk
    by_cases h3 : j < k ∨ l.length - k ≤ j
    · rw [if_pos h3]
    · rw [if_neg h3, show l.length - 1 - j = j by omega]
  · rw [List.getElem?_eq_none (by rw [tabZ_length]; omega), List.getElem?_eq_none (by rw [zV_length]; simp; omega)]

set_option maxHeartbeats 1000000 in
set_option maxRecDepth 100000 in
theorem reverse_any (l : List Int) (g c B : Nat) (w : World) (h : w.ownsRow B 3 1 (.slice (some ⟨g, 0, none⟩) l.length c) l.length (zV l)) (hl : l.length ≤ 1048576) :
    Calls Try.prog 34 #[.slice (some ⟨g, 0, none⟩) l.length c] w fun e w' => e = .returned (.tuple #[]) ∧ w'.ownsRow B 3 1 (.slice (some ⟨g, 0, none⟩) l.length c) l.length (zV l.reverse) ∧ Below B w w' := by
  have hg : B ≤ g := (h.lt g rfl).1
  rw [← tabZ_list] at h
  have H0 := hide h
  clear h
  go_enter Try.func34, Try.ntmps34
  go_wp2_with fail
  go_loopw [2, 3] (fun iv jv wr => ∃ (k : Nat) (j : Int), k ≤ l.length ∧ iv = .int .i64 k ∧ jv = .int .i64 j ∧ j = (l.length : Int) - 1 - k ∧ Hid (wr.ownsRow B 3 1 (.slice (some ⟨g, 0, none⟩) l.length c) l.length (tabZ l.length (rvk l.length (fun t => l.getD t 0) k)) ∧ Below B w wr)) (fun iv _ _ => l.length - (intOf iv).toNat)
  case atStart =>
    refine ⟨0, (l.length : Int) - 1, by omega, rfl, by go_num, by omega, ?_, Below.refl _ _⟩
    have e : rvk l.length (fun t => l.getD t 0) 0 = fun t => if l.length ≤ t then l.getD (l.length - 1 - t) 0 else l.getD t 0 := by
      funext t; simp [rvk]
    have e2 : tabZ l.length (rvk l.length (fun t => l.getD t 0) 0) = tabZ l.length (fun t => l.getD t 0) := by
      rw [e]
      unfold tabZ
      refine List.map_congr_left fun t ht => ?_
      have := List.mem_range.1 ht
      simp only
      rw [if_neg (by omega)]
    rw [e2]
    exact H0.out
  case round =>
    obtain ⟨k, j, hk, rfl, rfl, hj, HJ⟩ := hrel
    by_cases hlt : k + 1 + k < l.length
    · obtain ⟨q, hq⟩ : ∃ q : Nat, q = l.length - 1 - k := ⟨_, rfl⟩
      have hjq : j = (q : Int) := by omega
      subst hjq
      obtain ⟨hO, hB⟩ := HJ.out
      have e1 : rvk l.length (fun t => l.getD t 0) k k = l.getD k 0 := by unfold rvk; rw [if_neg (by omega)]
      have e2 : rvk l.length (fun t => l.getD t 0) k q = l.getD q 0 := by unfold rvk; rw [if_neg (by omega)]
      have ck : wr.cell? ⟨g, k, none⟩ = some (.int .i64 (l.getD k 0)) := by rw [hO.cellAt _ (by omega), ← e1]; exact tabZ_get _ (by omega)
      have cq : wr.cell? ⟨g, q, none⟩ = some (.int .i64 (l.getD q 0)) := by rw [hO.cellAt _ (by omega), ← e2]; exact tabZ_get _ (by omega)
      have fk : wr.frozen? ⟨g, k, none⟩ = false := hO.frozenAt _
      have fq : wr.frozen? ⟨g, q, none⟩ = false := hO.frozenAt _
      have h5 := ((hO.stored k (.int .i64 (l.getD q 0))).1.stored q (.int .i64 (l.getD k 0))).1
      rw [tabZ_set, tabZ_set] at h5
      have hst := rvk_step (n := l.length) (k := k) (fun t => l.getD t 0) (by omega)
      rw [← hq] at hst
      rw [hst] at h5
      have hB2 : Below B w ((wr.setCell ⟨g, k, none⟩ (.int .i64 (l.getD q 0))).setCell ⟨g, q, none⟩ (.int .i64 (l.getD k 0))) := (hB.setCell hg _).setCell hg _
      have HE := hide (And.intro h5 hB2)
      have hkq : k ≠ q := by omega
      have hkl' : (k : Int) < (l.length : Int) := by omega
      have hql' : (q : Int) < (l.length : Int) := by omega
      have hkq' : (k : Int) < (q : Int) := by omega
      have HQ := hide hq
      have HJ2 := hide hj
      generalize l.getD k 0 = x at *
      generalize l.getD q 0 = y at *
      clear hO hB hB2 e1 e2 h5 hst HJ H0 hq hj
      go_wp2_with fail
      go_region
      all_goals go_wp2_with fail
      all_goals
        go_roundw
        case rel => exact ⟨k + 1, (q : Int) - 1, by omega, by go_num, by go_num, by have := HQ.out; omega, HE.out.1.drew, HE.out.2.drew⟩
        case measure => simp [intOf]; omega
    · have hd : decide ((k : Int) < j) = false := by simp; omega
      go_wp2_with fail
      go_end0
      refine ⟨rfl, ?_, HJ.out.2⟩
      have := HJ.out.1
      rw [rvk_done l (by omega)] at this
      exact this
end Go.Proofs.Qxb6605452a
