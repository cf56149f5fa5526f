/- path.Match of a pattern that is one chunk. Walked. -/
import Derived.Test.YtjddckigiinjgaaDoorMatE
import Derived.Test.YtjddckigiinjgaaDoorMatF
import Derived.Scope
set_option linter.unusedVariables false
set_option linter.unusedSimpArgs false
namespace Go.Proofs.YtjddckigiinjgaaDoor
open Go.RowKit

set_option maxHeartbeats 3200000 in
set_option maxRecDepth 100000 in
theorem match_one (P nm t : ByteArray) (ok : Bool) (w : World) (hP : 0 < P.size) (hb : ok = true → True)
    (HS : ∀ X, Calls Tryd.prog 16 #[.string P] X fun e w' => e = .returned (.tuple #[.bool false, .string P, .string ⟨#[]⟩]) ∧ X = w')
    (HC : ∀ X, Calls Tryd.prog 18 #[.string P, .string nm] X fun e w' => e = .returned (.tuple #[.string t, .bool ok, .nilIface]) ∧ X = w') :
    Calls Tryd.prog 12 #[.string P, .string nm] w fun e w' => e = .returned (.tuple #[.bool (ok && decide (t.size = 0)), .nilIface]) ∧ w = w' := by
  have CS := hid HS
  have CC := hid HC
  have p0 : (0 : Int) < P.size := by omega
  have H0 := hid hP
  clear HS HC hb hP
  go_enter Tryd.func12, Tryd.ntmps12
  go_wp2_with fail
  refine wp_scope_straight ?_
  refine wp_seq (wp_label ?_)
  go_wp2_with fail
  go_loop [0, 1] (fun v0 v1 => (v0 = .string P ∧ v1 = .string nm) ∨ (v0 = .string ⟨#[]⟩ ∧ v1 = .string t ∧ ok = true ∧ t.size = 0)) (fun v0 _ => lenOf v0)
  case atStart => exact .inl ⟨rfl, rfl⟩
  case round =>
    rcases hrel with ⟨rfl, rfl⟩ | ⟨rfl, rfl, ho, ht⟩
    · rcases ok with _ | _
      · go_wp2_with (first
          | (go_at_call 16; refine (CS.out _).mono ?_; rintro e w' ⟨rfl, rfl⟩)
          | (go_at_call 18; refine (CC.out _).mono ?_; rintro e w' ⟨rfl, rfl⟩))
        go_loop [0] (fun v0 => v0 = .string ⟨#[]⟩) (fun _ => 0)
        case atStart => exact rfl
        case round =>
          obtain rfl := hrel
          go_wp2_with fail
          go_returns
          exact ⟨rfl, rfl⟩
      · by_cases ht : t.size = 0
        · have t1 : (t.size == 0) = true := by rw [ht]; rfl
          have t2 : ((t.size : Int) == 0) = true := by rw [ht]; rfl
          have HT := hid ht
          clear ht
          go_wp2_with (first
            | (go_at_call 16; refine (CS.out _).mono ?_; rintro e w' ⟨rfl, rfl⟩)
            | (go_at_call 18; refine (CC.out _).mono ?_; rintro e w' ⟨rfl, rfl⟩))
          exact ⟨.inr ⟨rfl, rfl, trivial, HT.out⟩, H0.out⟩
        · have t1 : (t.size == 0) = false := beq_eq_false_iff_ne.2 ht
          have t2 : ((t.size : Int) == 0) = false := beq_eq_false_iff_ne.2 (by omega)
          have HT := hid ht
          clear ht
          go_wp2_with (first
            | (go_at_call 16; refine (CS.out _).mono ?_; rintro e w' ⟨rfl, rfl⟩)
            | (go_at_call 18; refine (CC.out _).mono ?_; rintro e w' ⟨rfl, rfl⟩))
          go_loop [0] (fun v0 => v0 = .string ⟨#[]⟩) (fun _ => 0)
          case atStart => exact rfl
          case round =>
            obtain rfl := hrel
            go_wp2_with fail
            go_returns
            exact ⟨by rw [decide_eq_false HT.out]; rfl, rfl⟩
    · have t2 : ((t.size : Int) == 0) = true := by rw [ht]; rfl
      have t1 : (t.size == 0) = true := by rw [ht]; rfl
      have HT := hid ht
      have HO := hid ho
      clear ht ho
      go_wp2_with fail
      go_returns
      exact ⟨by rw [HO.out, decide_eq_true HT.out]; rfl, rfl⟩
end Go.Proofs.YtjddckigiinjgaaDoor
