/- The first rune of a text of plain bytes; one end of a class behind a backslash. Walked. -/
import Derived.Test.YtjddckigiinjgaaDoorMatB
set_option linter.unusedVariables false
set_option linter.unusedSimpArgs false
namespace Go.Proofs.YtjddckigiinjgaaDoor
open Go.RowKit

theorem not_empty (u : ByteArray) (h : 0 < u.size) : u.toList.isEmpty = false := by
  cases hl : u.toList with
  | nil =>
    have := size_list u
    rw [hl] at this
    simp at this
    omega
  | cons a r => rfl
set_option maxRecDepth 100000 in
theorem decode_any (u : ByteArray) (c : Nat) (w : World) (h : 0 < u.size) (hc : u[0].toNat = c) (hp : c < 128) : Calls Tryd.prog 19 #[.string u] w fun e w' => e = .returned (.tuple #[.int .i32 c, .int .i64 1]) ∧ w = w' := by
  have he := not_empty u h
  have h1 : (c : Int) < 128 := by omega
  have h2 : IntKind.i32.wrap (c : Int) = c := IntWalk.i32_in _ (by omega)
  go_enter Tryd.func19, Tryd.ntmps19
  go_wp2_with fail
  go_returns
  exact ⟨rfl, rfl⟩

/-- Text L1 is text L0 without its first byte. -/
def Tail1 (L0 L1 : ByteArray) : Prop := ∀ X : World, (Instr.slice 9 (.string L0) (some (.int .i64 1)) none none).run Tryd.prog X = .ok (.string L1) X
set_option maxHeartbeats 1600000 in
set_option maxRecDepth 100000 in
theorem getEsc_any (L0 L1 L2 : ByteArray) (c : Nat) (w : World) (z0 : 0 < L0.size) (e0 : L0[0].toNat = 92) (s1 : Tail1 L0 L1) (z1 : 0 < L1.size) (e1 : L1[0].toNat = c) (hp : c < 128) (s2 : Tail1 L1 L2) (z2 : 0 < L2.size) :
    Calls Tryd.prog 20 #[.string L0] w fun e w' => e = .returned (.tuple #[.int .i32 c, .string L2, .nilIface]) ∧ w = w' := by
  have CD := hid (fun X => decode_any L1 c X z1 e1 hp)
  unfold Tail1 at s1 s2
  have he := not_empty L0 z0
  have h1 : (L0.size == 0) = false := beq_eq_false_iff_ne.2 (by omega)
  have h2 : (L1.size == 0) = false := beq_eq_false_iff_ne.2 (by omega)
  have h3 : (L2.size == 0) = false := beq_eq_false_iff_ne.2 (by omega)
  have h4 : ((L0.size : Int) == 0) = false := beq_eq_false_iff_ne.2 (by omega)
  have h5 : ((L1.size : Int) == 0) = false := beq_eq_false_iff_ne.2 (by omega)
  have h6 : ((L2.size : Int) == 0) = false := beq_eq_false_iff_ne.2 (by omega)
  have h7 : ((c : Int) == 65533) = false := beq_eq_false_iff_ne.2 (by omega)
  go_enter Tryd.func20, Tryd.ntmps20
  go_wp2_with (go_at_call 19; refine (CD.out _).mono ?_; rintro e w' ⟨rfl, rfl⟩)
  go_returns
  exact ⟨rfl, rfl⟩
end Go.Proofs.YtjddckigiinjgaaDoor
