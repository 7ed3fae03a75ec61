import Derived.Test.Qxb6605452aReachMem
import Derived.Test.Qxb6605452aVisit
namespace Go.Proofs.Qxb6605452a
open Go.RowKit

/-- What 'components' leaves. -/
def CompE (out : List (List Nat)) (w : World) (e : Ending) (w' : World) : Prop :=
  ∃ s sz, e = .returned (.tuple #[.slice (some ⟨w.heap.size + 6, 0, none⟩) out.length out.length, sz]) ∧ Rch out out.length s ∧ s.wlk = [] ∧
    w'.ownsRow w.heap.size 3 1 (.slice (some ⟨w.heap.size + 6, 0, none⟩) out.length out.length) out.length (tabI out.length s.comp) ∧
    w'.ownsRow w.heap.size 3 1 sz s.size.length (intsV s.size) ∧ (s.size = [] → sz = .slice none 0 0) ∧ Below w.heap.size w w'

/-- The contract of 'components'. -/
def CompSpec : Prop :=
  ∀ (out : List (List Nat)) (atx : Option Addr) (ctx bg : Nat) (vout : Value) (w : World), w.cell? ⟨bg, 0, none⟩ = some (.slice atx out.length ctx) → w.cell? ⟨bg, 1, none⟩ = some vout →
    Rows2 w vout out → out.length ≤ 4096 → (∀ v w, E out v w → w < out.length) → (∀ l ∈ out, l.length ≤ 1048576) →
    Calls Try.prog 27 #[.pointer (some ⟨bg, 0, none⟩)] w fun e w' => CompE out w e w'

/-- What 'ZZComponents' leaves. -/
def ZCompE (out : List (List Nat)) (w : World) (e : Ending) (w' : World) : Prop :=
  ∃ (s : St) (vc vz : Value), e = .returned (.tuple #[vc, vz]) ∧ Rch out out.length s ∧ s.wlk = [] ∧ (∃ a c, vc = .slice a out.length c) ∧ (∃ a c, vz = .slice a s.size.length c) ∧
    w'.ownsRow w.heap.size 3 1 vc out.length (tabI out.length s.comp) ∧ w'.ownsRow w.heap.size 3 1 vz s.size.length (intsV s.size) ∧ (s.size = [] → vz = .slice none 0 0) ∧ vc ≠ .slice none 0 0 ∧ Below w.heap.size w w'

set_option maxRecDepth 100000 in
theorem zzComponents_any (hC : CompSpec) (out : List (List Nat)) (atx : Option Addr) (ctx : Nat) (vout : Value) (w : World)
    (hr : Rows2 w vout out) (hn : out.length ≤ 4096) (hout : ∀ v w, E out v w → w < out.length) (hlen : ∀ l ∈ out, l.length ≤ 1048576) :
    Calls Try.prog 12 #[.slice atx out.length ctx, vout] w fun e w' => ZCompE out w e w' := by
  have HC := hide hC
  have HR := hide hr
  have HO := hide hout
  have HL := hide hlen
  clear hC hr hout hlen
  obtain ⟨ao, co, rfl, _, _⟩ := HR.out
  have C := hide (HC.out out atx ctx w.heap.size (.slice ao out.length co) (w.alloc (.cells #[.slice atx out.length ctx, .slice ao out.length co] 43))
    (by rw [cell_of_row _ w.heap.size 0 _ 43 (0, 0) (heap_last w _)]; rfl) (by rw [cell_of_row _ w.heap.size 1 _ 43 (0, 0) (heap_last w _)]; rfl)
    (HR.out.below ((Below.refl _ _).alloc (Nat.le_refl _) _)) hn HO.out HL.out)
  go_enter Try.func12, Try.ntmps12
  go_wp2_with fail
  refine C.out.mono ?_
  rintro e w1 ⟨s, sz, rfl, h1, h2, h3, h4, h5, h6⟩
  have HE := hide (And.intro h1 (And.intro h2 (And.intro h3 (And.intro h4 (And.intro h5 h6)))))
  clear h1 h2 h3 h4 h5 h6 C HC
  go_wp2_with fail
  go_ret2
  obtain ⟨h1, h2, h3, h4, h5, h6⟩ := HE.out
  obtain ⟨az, cz, rfl, _, _, _⟩ := own_form h4
  have hs : (w.alloc (.cells #[.slice atx out.length ctx, .slice ao out.length co] 43)).heap.size = w.heap.size + 1 := by simp
  rw [hs] at h3 h4 h6
  exact ⟨s, _, _, rfl, h1, h2, ⟨_, _, rfl⟩, ⟨_, _, rfl⟩, own_down h3 (by omega), own_down h4 (by omega), h5, by simp, ((Below.refl _ _).alloc (Nat.le_refl _) _).trans (h6.mono (by omega))⟩
end Go.Proofs.Qxb6605452a
