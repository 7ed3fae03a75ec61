import Derived.Test.Qxb6605452aRoot
import Derived.BigQuiet
namespace Go.Proofs.Qxb6605452a
open Go.RowKit

set_option maxHeartbeats 1000000 in
set_option maxRecDepth 100000 in
/-- Two slices that read alike. -/
theorem same_any (l : List Nat) (a b : Option Addr) (ca cb : Nat) (w : World) (ha : Row w (.slice a l.length ca) (intsV l)) (hb : Row w (.slice b l.length cb) (intsV l)) (hn : a.isNone = b.isNone) (hl : l.length ≤ 1048576) :
    Calls Try.prog 14 #[.slice a l.length ca, .slice b l.length cb] w fun e w' => e = .returned (.bool true) ∧ Below w.heap.size w w' := by
  have HA := hide ha
  have HB := hide hb
  obtain ⟨na, hna⟩ : ∃ na, a.isNone = na := ⟨_, rfl⟩
  have hnb : b.isNone = na := by rw [← hn, hna]
  have qa : ∀ w n c n' c', (binOp .eql 22 (.slice a n c) (.slice none n' c')).run Try.prog w = .ok (.bool na) w := fun w n c n' c' => by rw [eql_nil22, hna]
  have qb : ∀ w n c n' c', (binOp .eql 22 (.slice b n c) (.slice none n' c')).run Try.prog w = .ok (.bool na) w := fun w n c n' c' => by rw [eql_nil22, hnb]
  have hd0 : (na != na) = false := by simp
  have hd1 : ((l.length : Int) != (l.length : Int)) = false := by simp
  clear ha hb hn hna hnb
  go_enter Try.func14, Try.ntmps14
  go_wp2_with fail
  go_loopw [4, 5] (fun rv kv wr => ∃ k : Nat, k ≤ l.length ∧ rv = .bool false ∧ kv = .int .i64 k ∧ Hid (Below w.heap.size w wr)) (fun _ kv _ => l.length - (intOf kv).toNat)
  case atStart => exact ⟨0, by omega, rfl, rfl, Below.refl _ _⟩
  case round =>
    obtain ⟨k, hk, rfl, rfl, HJ⟩ := hrel
    by_cases hlt : k < l.length
    · obtain ⟨x, hx⟩ : ∃ x, l[k]? = some x := ⟨_, List.getElem?_eq_getElem hlt⟩
      obtain ⟨b1, o1, hab1, k1⟩ := HA.out.atI hx
      obtain ⟨b2, o2, hab2, k2⟩ := HB.out.atI hx
      subst hab1
      subst hab2
      have k1 := cell_later HJ.out k1
      have k2 := cell_later HJ.out k2
      have hlt' : (k : Int) < (l.length : Int) := by omega
      have hd2 : ((x : Int) != (x : Int)) = false := by simp
      clear hx
      go_wp2_with fail
      go_quiet (fail)
      go_wp2_with fail
      go_roundw
      case rel => exact ⟨k + 1, by omega, rfl, by go_num, ⟨HJ.out.os, HJ.out.tape, HJ.out.output, HJ.out.size, HJ.out.block⟩⟩
      case measure => simp [intOf]; omega
    · have hke : k = l.length := by omega
      subst hke
      go_wp2_with fail
      go_ret
      exact ⟨rfl, HJ.out⟩
end Go.Proofs.Qxb6605452a
