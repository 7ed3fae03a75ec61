import Derived.Test.Qxb6605452aCycle
namespace Go.Proofs.Qxb6605452a
open Go.RowKit

/-- What 'ZZCycle' hands back, in the world w'. -/
def CycV (out : List (List Nat)) (ts : List Int) (s : St) (w' : World) (vg : Value) : Prop :=
  (vg = .slice none 0 0 ∧ ∀ x m, x < out.length → s.size[s.comp x]? = some m → m ≤ 1) ∨
  ∃ (st m : Nat) (C : List Nat) (g c : Nat), vg = .slice (some ⟨g, 0, none⟩) C.length c ∧ st < out.length ∧ s.size[s.comp st]? = some m ∧ 1 < m ∧ (∀ x m, x < st → s.size[s.comp x]? = some m → m ≤ 1) ∧
    CycOk out s.comp st C ∧ Row w' (.slice (some ⟨g, 0, none⟩) C.length c) (zV (C.map (tau ts)))
theorem CycV.below {out : List (List Nat)} {ts : List Int} {s : St} {w w' : World} {vg : Value} (h : CycV out ts s w vg) (hb : Below w.heap.size w w') : CycV out ts s w' vg := by
  rcases h with h | ⟨st, m, C, g, c, h1, h2, h3, h4, h5, h6, h7⟩
  · exact .inl h
  · exact .inr ⟨st, m, C, g, c, h1, h2, h3, h4, h5, h6, h7.below hb⟩
def ZCycE (out : List (List Nat)) (ts : List Int) (w : World) (e : Ending) (w' : World) : Prop :=
  ∃ (s : St) (vg : Value), e = .returned vg ∧ Rch out out.length s ∧ s.wlk = [] ∧ Below w.heap.size w w' ∧ CycV out ts s w' vg
theorem CycE.z {out : List (List Nat)} {ts : List Int} {w : World} {e : Ending} {w' : World} (h : CycE out ts w e w') : ZCycE out ts w e w' := by
  obtain ⟨s, h1, h2, h3, ⟨rfl, h4⟩ | ⟨st, m, C, g, c, rfl, h4⟩⟩ := h
  · exact ⟨s, _, rfl, h1, h2, h3, .inl ⟨rfl, h4⟩⟩
  · exact ⟨s, _, rfl, h1, h2, h3, .inr ⟨st, m, C, g, c, rfl, h4⟩⟩

set_option maxRecDepth 100000 in
theorem zzCycle_any (hC : CompSpec) (out : List (List Nat)) (ts : List Int) (atx : Option Addr) (ctx : Nat) (vout : Value) (w : World)
    (ht : Row w (.slice atx out.length ctx) (zV ts)) (hr : Rows2 w vout out) (hn : out.length ≤ 4096) (hout : ∀ v w, E out v w → w < out.length) (hlen : ∀ l ∈ out, l.length ≤ 1048576) :
    Calls Try.prog 21 #[.slice atx out.length ctx, vout] w fun e w' => ZCycE out ts w e w' := by
  have HR := hide hr
  obtain ⟨ao, co, rfl, _, _⟩ := hr
  have hB0 : Below w.heap.size w (w.alloc (.cells #[.slice atx out.length ctx, .slice ao out.length co] 43)) := (Below.refl _ _).alloc (Nat.le_refl _) _
  have C := hide (cycle_any hC out ts atx ctx w.heap.size (.slice ao out.length co) (w.alloc (.cells #[.slice atx out.length ctx, .slice ao out.length co] 43))
    (by rw [cell_of_row _ w.heap.size 0 _ 43 (0, 0) (heap_last w _)]; rfl) (by rw [cell_of_row _ w.heap.size 1 _ 43 (0, 0) (heap_last w _)]; rfl)
    (ht.below hB0) (HR.out.below hB0) hn hout hlen)
  have HB0 := hide hB0
  clear hC ht hout hlen hB0
  go_enter Try.func21, Try.ntmps21
  go_wp2_with fail
  refine C.out.mono ?_
  intro e w1 hE
  obtain ⟨s, vg, rfl, h1, h2, h3, h4⟩ := hE.z
  have HE := hide (And.intro h1 (And.intro h2 (And.intro (HB0.out.trans (h3.mono HB0.out.size)) h4)))
  clear h1 h2 h3 h4 hE C
  go_wp2_with fail
  go_ret
  exact ⟨s, vg, rfl, HE.out⟩
end Go.Proofs.Qxb6605452a
