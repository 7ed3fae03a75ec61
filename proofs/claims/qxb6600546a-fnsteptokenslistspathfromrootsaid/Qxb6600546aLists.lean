import Derived.Test.Qxb6600546aRows
import Derived.Test.Qxb6600546aWalkC
import Derived.WalkKit
import Derived.ProofKit
import Derived.OpenShut
import Derived.ShutString
import Derived.ChangeOld
import Derived.Below
import Derived.SliceStrings
namespace Go.Proofs.Qxb6600546a.fnStepTokensListsPathFromRoot
open Go.ChangeShapes Go.WideShapes Go.ChangeAt Go.RowKit
open Go.ChangeMaps (open_string shut_string)
set_option linter.unusedVariables false

theorem own : ownKnob Try.prog.godebug = none := by kernel_rfl
theorem laidOut : laidOutB Try.prog = true := by kernel_rfl

/-- What the walk is told of a slice of strings that came in. -/
theorem rowOfStrs {w : World} {x : Addr} {len cap : Nat} {zs : List ByteArray} (hl : len ≤ cap) (hm : cap ≤ maxLen) (hz : zs.length = cap)
    (hc : ∀ i, i < zs.length → w.cell? (x.add i) = some (.string (zs.getD i ByteArray.empty))) (hw : ∀ s ∈ zs, s.size ≤ maxLen) :
    Row w (.slice (some x) len cap) (S (zs.take len)) ∧ ∀ s ∈ zs.take len, s.size ≤ maxLen := by
  have hlen : (zs.take len).length = len := by simp; omega
  refine ⟨⟨some x, cap, ?_, ?_, hm, (fun h => by cases h), fun i u hu => ?_⟩, fun s hs => hw s (List.mem_of_mem_take hs)⟩
  · rw [S_length, hlen]
  · rw [S_length, hlen]; exact hl
  · have hi : i < len := by
      have := (List.getElem?_eq_some_iff.1 hu).1
      rw [S_length, hlen] at this
      exact this
    have hiz : i < zs.length := by omega
    have hcell := hc i hiz
    obtain ⟨b, o, sp⟩ := x
    have hsp : sp = none := by simpa [Addr.add] using World.cell?_spot (hc 0 (by omega))
    subst hsp
    rw [Addr.add_lit] at hcell
    refine ⟨b, o, rfl, ?_⟩
    rw [hcell]
    have e : (S (zs.take len))[i]? = some (.string (zs.getD i ByteArray.empty)) := by
      rw [S, List.getElem?_map, List.getElem?_take_of_lt hi, List.getElem?_eq_getElem hiz, List.getD, List.getElem?_eq_getElem hiz]
      rfl
    rw [e] at hu
    exact hu

set_option maxRecDepth 100000 in
theorem lifted (os : Os) (started : os.Started) (H : Type) (enc : TypeId × Value → H) :
    ReturnsInHanded {} Try.checked os 3 .any (Rows.fnStepTokensListsPathFromRootSpec.pre6 enc Try.prog Try.f3 Rows.fnStepTokensListsPathFromRootRow.domain false) (Rows.fnStepTokensListsPathFromRootSpec.post enc Try.prog Try.f3 false true false false) := by
  refine returnsInHanded_of_change (C := Try.checked) own started (by kernel_rfl) Try.func3
    (ChangeSpec.witness6 (enc := enc) (C := Try.checked) false ⟨#[], #[.slice none 0 0], []⟩ 8 (by kernel_rfl) (by kernel_rfl) (by kernel_rfl) (by kernel_rfl)) ?_
  intro W base args ds gs before hval0 hW hcnd _
  have hval : ∀ (j : Nat) t v, Try.f3.params[j]? = some t → args[j]? = some v → Value.okWide Try.prog W .any base t v := hval0
  have hW' := hW
  obtain ⟨p, q, hA0, hV, rfl, hfz, hnd⟩ := hW
  have hA : DataW.TrodAll enc Try.prog W 0 (fun _ => true) true Try.f3.params.toList args.toList ds p := hA0
  rw [Try.params3] at hA hval
  obtain ⟨v0, vs0, d0, ds0, p0, q0, hargs, rfl, rfl, h0, r0⟩ := trodAll_cons hA
  obtain ⟨rfl, rfl, rfl⟩ := trodAll_nil r0
  obtain rfl : args = #[v0] := by cases args; simp_all
  obtain ⟨rfl, rfl⟩ := trodVars_none hV
  obtain ⟨a0, len0, cap0, rfl⟩ := okWide_slice Try.underlying22 (hval 0 22 v0 rfl rfl)
  have k0 := h0
  have lt0 : ∀ x ∈ p0, x.block < W.heap.size := by obtain ⟨m, hm⟩ := k0; exact DataW.trod_lt m _ _ _ hm
  obtain ⟨z0, w0, w1⟩ : ∃ zs, Row W (.slice a0 len0 cap0) (S zs) ∧ ∀ s ∈ zs, s.size ≤ maxLen := by
    obtain ⟨fuel, hf⟩ := h0
    rcases open_strings Try.underlying22 Try.underlying9 (by kernel_rfl) hf with ⟨hcs, _⟩ | ⟨x, l, c, zs, hcs, _, hl, hm, hz, _, hcell, hwz⟩
    · simp [Value.cells] at hcs
      obtain ⟨rfl, rfl, rfl⟩ := hcs
      exact ⟨[], Row.nil _, fun _ h => by cases h⟩
    · simp [Value.cells] at hcs
      obtain ⟨rfl, rfl, rfl⟩ := hcs
      exact ⟨_, rowOfStrs hl hm (by simpa using hz) hcell hwz⟩
  clear hA0 hval0
  refine (lists_any z0 _ W w0 w1).mono fun e W' ⟨he, bel⟩ => ?_
  subst he
  exact ⟨_, rfl, _, _, _, [], _, [], hW', trodAll_mk1 (shut_bool Try.underlying4 _), (trodAll_cons_mk (Below.trod laidOut (by kernel_rfl) (of_decide_eq_true (by kernel_rfl)) k0 bel lt0) trodAll_mk0), rfl, bel.frame _, fun h => by cases h⟩

theorem over : Rows.fnStepTokensListsPathFromRootRow.holds Try.pinned (OpenSpec.ofChange Rows.fnStepTokensListsPathFromRootSpec) :=
  OpenClaim.holds_of_wide 3 Try.f3 rfl rfl rfl rfl rfl rfl rfl ⟨rfl, rfl, rfl, rfl, rfl⟩ rfl rfl rfl rfl rfl (by kernel_rfl) Try.func3 (by kernel_rfl)
    (of_decide_eq_true (by kernel_rfl)) (by unfold Func.isWrapper; first | (rw [if_pos (by decide +kernel)]; kernel_rfl) | (rw [if_neg (by decide +kernel)]; exact ⟨rfl, rfl⟩))
    (fun os started H enc _ => lifted os started H enc)
end Go.Proofs.Qxb6600546a.fnStepTokensListsPathFromRoot

namespace Go.Proofs.Qxb6600546a
theorem fnStepTokensListsPathFromRoot_holds : Rows.FnStepTokensListsPathFromRootSaid := fnStepTokensListsPathFromRoot.over
end Go.Proofs.Qxb6600546a
