/- matchAsked of a name alone. Walked. -/
import Derived.Test.YtjddckigiinjgaaDoorMatH
set_option linter.unusedVariables false
set_option linter.unusedSimpArgs false
namespace Go.Proofs.YtjddckigiinjgaaDoor
open Go.RowKit

def askedB (s : ByteArray) : Bool := decide (s.size ≤ 200) && (!s.toList.isEmpty && plainB s)
set_option maxHeartbeats 1600000 in
set_option maxRecDepth 100000 in
theorem asked_any (s : ByteArray) (w : World) (hs : s.size ≤ 2147483647) : Calls Tryd.prog 4 #[.string s, .slice none 0 0] w fun e w' => e = .returned (.bool (askedB s)) ∧ w = w' := by
  have CP := hid (fun X => refPlain_any s X hs)
  obtain ⟨p, hp⟩ : ∃ p, plainB s = p := ⟨_, rfl⟩
  obtain ⟨em, hem⟩ : ∃ p, s.toList.isEmpty = p := ⟨_, rfl⟩
  unfold askedB
  rw [hp] at CP ⊢
  rw [hem]
  have HE := hid hem
  clear hp hem
  by_cases h : s.size ≤ 200
  · rw [decide_eq_true h]
    have h1 : (s.size : Int) ≤ 200 := by omega
    rcases em with _ | _
    all_goals
      have he := HE.out
      go_enter Tryd.func4, Tryd.ntmps4
      go_wp2_with fail
      go_loop [5, 12] (fun u v => u = .int .i64 s.size ∧ v = .int .i64 0) (fun _ _ => 0)
      case atStart => exact ⟨rfl, rfl⟩
      case round =>
        obtain ⟨rfl, rfl⟩ := hrel
        go_wp2_with (go_at_call 7; refine (CP.out _).mono ?_; rintro e w' ⟨rfl, rfl⟩)
        go_ret
        exact ⟨rfl, rfl⟩
  · rw [decide_eq_false h]
    have h1 : ¬ (s.size : Int) ≤ 200 := by omega
    go_enter Tryd.func4, Tryd.ntmps4
    go_wp2_with fail
    go_loop [5, 12] (fun u v => u = .int .i64 s.size ∧ v = .int .i64 0) (fun _ _ => 0)
    case atStart => exact ⟨rfl, rfl⟩
    case round =>
      obtain ⟨rfl, rfl⟩ := hrel
      go_wp2_with fail
      go_ret
      exact ⟨rfl, rfl⟩
end Go.Proofs.YtjddckigiinjgaaDoor
