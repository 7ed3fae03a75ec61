import Derived.Test.Qxb6605489aRows
import Derived.Test.Qxb6605489aWalkH
import Derived.Test.Qxb6605489aNames
import Derived.WalkKit
import Derived.ProofKit
import Derived.OpenShut
import Derived.ShutString
import Derived.ChangeOld
import Derived.Below
import Derived.SliceStrings
import Derived.Deep.SlicePairs
namespace Go.Proofs.Qxb6605489a.fnLocationsRecordReadsBack
open Go.ChangeShapes Go.WideShapes Go.ChangeAt Go.RowKit Go.Deep
open Go.ChangeMaps (open_string shut_string)
set_option linter.unusedVariables false

theorem own : ownKnob Try.prog.godebug = none := by kernel_rfl
theorem laidOut : laidOutB Try.prog = true := by kernel_rfl

/-- What the walk is told of a slice of pairs of strings that came in. -/
theorem pairsOf {w : World} {x : Addr} {len cap : Nat} (hl : len ≤ cap) (hm : cap ≤ maxLen)
    (hc : ∀ i, i < len → ∃ s t : ByteArray, w.cell? (x.add (i * 2)) = some (.string s) ∧ w.cell? (x.add (i * 2 + 1)) = some (.string t) ∧ s.size ≤ maxLen ∧ t.size ≤ maxLen) :
    ∃ ps, Row2 w (.slice (some x) len cap) ps ∧ ∀ p ∈ ps, p.1.size ≤ maxLen ∧ p.2.size ≤ maxLen := by
  have hc' : ∀ i, i < len → ∃ p : ByteArray × ByteArray, w.cell? (x.add (i * 2)) = some (.string p.1) ∧ w.cell? (x.add (i * 2 + 1)) = some (.string p.2) ∧ p.1.size ≤ maxLen ∧ p.2.size ≤ maxLen := fun i hi => by
    obtain ⟨s, t, h⟩ := hc i hi
    exact ⟨(s, t), h⟩
  obtain ⟨q, hq⟩ := choose_lt hc'
  have hlen : ((List.range len).map q).length = len := by simp
  refine ⟨(List.range len).map q, ⟨some x, cap, ?_, ?_, hm, (fun h => by cases h), fun i p hp => ?_⟩, fun p hp => ?_⟩
  · rw [hlen]
  · rw [hlen]; exact hl
  · have hi : i < len := by
      have := (List.getElem?_eq_some_iff.1 hp).1
      rw [hlen] at this
      exact this
    have hp' : q i = p := by
      rw [List.getElem?_map, List.getElem?_range hi] at hp
      simpa using hp
    obtain ⟨b, o, sp⟩ := x
    have hsp : sp = none := by simpa [Addr.add] using World.cell?_spot (hq 0 (by omega)).1
    subst hsp
    have h5 := hq i hi
    rw [Addr.add_lit, Addr.add_lit, hp', ← Nat.add_assoc] at h5
    exact ⟨b, o, rfl, h5.1, h5.2.1⟩
  · obtain ⟨i, hi, rfl⟩ := List.mem_map.1 hp
    exact (hq i (List.mem_range.1 hi)).2.2

set_option maxRecDepth 100000 in
theorem lifted (os : Os) (started : os.Started) (H : Type) (enc : TypeId × Value → H) :
    ReturnsInHanded {} Try.checked os 5 .any (Rows.fnLocationsRecordReadsBackSpec.pre6 enc Try.prog Try.f5 Rows.fnLocationsRecordReadsBackRow.domain false) (Rows.fnLocationsRecordReadsBackSpec.post enc Try.prog Try.f5 false true false false) := by
  refine returnsInHanded_of_change (C := Try.checked) own started (by kernel_rfl) Try.func5
    (ChangeSpec.witness6 (enc := enc) (C := Try.checked) false ⟨#[], #[.slice none 0 0, .slice none 0 0, .bool false], []⟩ 8 (by kernel_rfl) (by kernel_rfl) (by kernel_rfl) (by kernel_rfl)) ?_
  intro W base args ds gs before hval0 hW hcnd _
  have hval : ∀ (j : Nat) t v, Try.f5.params[j]? = some t → args[j]? = some v → Value.okWide Try.prog W .any base t v := hval0
  have hW' := hW
  obtain ⟨p, q, hA0, hV, rfl, hfz, hnd⟩ := hW
  have hA : DataW.TrodAll enc Try.prog W 0 (fun _ => true) true Try.f5.params.toList args.toList ds p := hA0
  rw [Try.params5] at hA hval
  obtain ⟨v0, vs0, d0, ds0, p0, q0, hargs, rfl, rfl, h0, r0⟩ := trodAll_cons hA
  obtain ⟨v1, vs1, d1, ds1, p1, q1, rfl, rfl, rfl, h1, r1⟩ := trodAll_cons r0
  obtain ⟨v2, vs2, d2, ds2, p2, q2, rfl, rfl, rfl, h2, r2⟩ := trodAll_cons r1
  obtain ⟨rfl, rfl, rfl⟩ := trodAll_nil r2
  obtain rfl : args = #[v0, v1, v2] := by cases args; simp_all
  obtain ⟨rfl, rfl⟩ := trodVars_none hV
  obtain ⟨a0, len0, cap0, rfl⟩ := okWide_slice Try.underlying27 (hval 0 27 v0 rfl rfl)
  obtain ⟨a1, len1, cap1, rfl⟩ := okWide_slice Try.underlying33 (hval 1 33 v1 rfl rfl)
  have k0 := h0
  have k1 := h1
  have lt0 : ∀ x ∈ p0, x.block < W.heap.size := by obtain ⟨m, hm⟩ := k0; exact DataW.trod_lt m _ _ _ hm
  have lt1 : ∀ x ∈ p1, x.block < W.heap.size := by obtain ⟨m, hm⟩ := k1; exact DataW.trod_lt m _ _ _ hm
  obtain ⟨z0, w0, w1⟩ : ∃ zs, Row W (.slice a0 len0 cap0) (S zs) ∧ ∀ s ∈ zs, s.size ≤ maxLen := by
    obtain ⟨fuel, hf⟩ := h0
    rcases open_strings Try.underlying27 Try.underlying9 (by kernel_rfl) hf with ⟨hcs, _⟩ | ⟨x, l, c, zs, hcs, _, hl, hm, hz, _, hcell, hwz⟩
    · simp [Value.cells] at hcs
      obtain ⟨rfl, rfl, rfl⟩ := hcs
      exact ⟨[], Row.nil _, fun _ h => by cases h⟩
    · simp [Value.cells] at hcs
      obtain ⟨rfl, rfl, rfl⟩ := hcs
      exact ⟨_, fnNamesSizeEncodeDecode.rowOfStrs hl hm (by simpa using hz) hcell hwz⟩
  obtain ⟨z1, w2, w3⟩ : ∃ zs, Row2 W (.slice a1 len1 cap1) zs ∧ ∀ p ∈ zs, p.1.size ≤ maxLen ∧ p.2.size ≤ maxLen := by
    obtain ⟨fuel, hf⟩ := h1
    rcases open_slice_pairs Try.underlying33 Try.underlying37 (by kernel_rfl) rfl rfl (by kernel_rfl) (by kernel_rfl) hf with ⟨hcs, _⟩ | ⟨x, l, c, m, n, V0, V1, D0, D1, P0, P1, hcs, _, hl, hm, hmm, _, hcell⟩
    · simp [Value.cells] at hcs
      obtain ⟨rfl, rfl, rfl⟩ := hcs
      exact ⟨[], Row2.nil _, fun _ h => by cases h⟩
    · simp [Value.cells] at hcs
      obtain ⟨rfl, rfl, rfl⟩ := hcs
      simp only [if_true] at hmm
      refine pairsOf hl hm (fun i hi => ?_)
      obtain ⟨c0, c1, t0, t1⟩ := hcell i (by omega)
      obtain ⟨s, e0, _, hs⟩ := DataW.trod_string Try.underlying9 t0
      obtain ⟨t, e1, _, ht⟩ := DataW.trod_string Try.underlying9 t1
      simp at e0 e1
      exact ⟨s, t, by rw [c0, e0], by rw [c1, e1], hs, ht⟩
  obtain ⟨b2, rfl, rfl, rfl⟩ := open_bool Try.underlying4 (hval 2 4 v2 rfl rfl) h2
  clear hA0 hval0
  refine (loc_any z0 z1 _ _ b2 W w0 w2 w1 w3).mono fun e W' ⟨he, bel⟩ => ?_
  subst he
  exact ⟨_, rfl, _, _, _, [], _, [], hW', trodAll_mk1 (shut_bool Try.underlying4 _), (trodAll_cons_mk (Below.trod laidOut (by kernel_rfl) (of_decide_eq_true (by kernel_rfl)) k0 bel lt0) (trodAll_cons_mk (Below.trod laidOut (by kernel_rfl) (of_decide_eq_true (by kernel_rfl)) k1 bel lt1) (trodAll_cons_mk (shut_bool Try.underlying4 b2) trodAll_mk0))), rfl, bel.frame _, fun h => by cases h⟩

theorem over : Rows.fnLocationsRecordReadsBackRow.holds Try.pinned (OpenSpec.ofChange Rows.fnLocationsRecordReadsBackSpec) :=
  OpenClaim.holds_of_wide 5 Try.f5 rfl rfl rfl rfl rfl rfl rfl ⟨rfl, rfl, rfl, rfl, rfl⟩ rfl rfl rfl rfl rfl (by kernel_rfl) Try.func5 (by kernel_rfl)
    (of_decide_eq_true (by kernel_rfl)) (by unfold Func.isWrapper; first | (rw [if_pos (by decide +kernel)]; kernel_rfl) | (rw [if_neg (by decide +kernel)]; exact ⟨rfl, rfl⟩))
    (fun os started H enc _ => lifted os started H enc)
end Go.Proofs.Qxb6605489a.fnLocationsRecordReadsBack

namespace Go.Proofs.Qxb6605489a
theorem fnLocationsRecordReadsBack_holds : Rows.FnLocationsRecordReadsBackSaid := fnLocationsRecordReadsBack.over
end Go.Proofs.Qxb6605489a
