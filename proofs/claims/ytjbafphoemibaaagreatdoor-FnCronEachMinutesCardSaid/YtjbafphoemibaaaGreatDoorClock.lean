/- The reference's clocks: the offset of a zone at a second, and the date that a zone's clocks show. Walked. -/
import Derived.Test.YtjbafphoemibaaaGreatDoorDate
import Derived.Test.YtjbafphoemibaaaGreatDoorZoneC
import Derived.Deep.RegionHeld3
set_option linter.unusedVariables false
set_option linter.unusedSimpArgs false
namespace Go.Proofs.YtjbafphoemibaaaGreatDoor
open Go.RowKit

theorem mod7_any (a x : Int) (w : World) (h1 : -100000000 ≤ a) (h2 : a ≤ 100000000) (hx : a - 7 * (a / 7) = x) : Calls Tryz.prog 18 #[.int .i64 a, .int .i64 7] w fun e w' => e = .returned (.int .i64 x) ∧ w = w' := by
  have C := hid (fd_7 a w (by omega) (by omega))
  obtain ⟨q, hq⟩ : ∃ q, a / 7 = q := ⟨_, rfl⟩
  rw [hq] at C hx
  have q1 : -100000000 ≤ q := by omega
  have q2 : q ≤ 100000000 := by omega
  have e1 : wrap64 x = x := by unfold wrap64; omega
  clear hq
  go_enter Tryz.func18, Tryz.ntmps18
  go_wp2_with (go_at_call 28; refine C.out.mono ?_; rintro e w' ⟨rfl, rfl⟩)
  go_ret
  exact ⟨rfl, rfl⟩

/-- A date and time of day of the thin package. -/
abbrev vcells8 (Y M D h m s n d : Int) : Array Value := #[.int .i64 Y, .int .i64 M, .int .i64 D, .int .i64 h, .int .i64 m, .int .i64 s, .int .i64 n, .int .i64 d]
theorem set_b8 {w : World} {g : Nat} {t : TypeId} {x0 x1 x2 x3 x4 x5 x6 x7 : Value} (h : Blk w g t #[x0, x1, x2, x3, x4, x5, x6, x7]) (Y M D h' m s n d : Int) : Blk (w.setCells g 0 (vcells8 Y M D h' m s n d).toList) g t (vcells8 Y M D h' m s n d) := by
  have hk := (((((((h.set 0 (.int .i64 Y)).set 1 (.int .i64 M)).set 2 (.int .i64 D)).set 3 (.int .i64 h')).set 4 (.int .i64 m)).set 5 (.int .i64 s)).set 6 (.int .i64 n)).set 7 (.int .i64 d)
  simp only [List.setIfInBounds_toArray, List.set_cons_zero, List.set_cons_succ] at hk
  exact hk
theorem below_b8 {B : Nat} {w w1 : World} (h : Below B w w1) {g : Nat} (hg : B ≤ g) (Y M D h' m s n d : Int) : Below B w (w1.setCells g 0 (vcells8 Y M D h' m s n d).toList) :=
  below_set (below_set (below_set (below_set (below_set (below_set (below_set (below_set h hg 0 _) hg 1 _) hg 2 _) hg 3 _) hg 4 _) hg 5 _) hg 6 _) hg 7 _

/-- The offset in use at a second: that of the last of the first k transitions at or before it. -/
def scan (O W I : Nat → Int) (sec : Int) : Nat → Int
  | 0 => 0
  | k + 1 => if W k ≤ sec then O (I k).toNat else scan O W I sec k
theorem scan_bound {O W I : Nat → Int} {n0 n2 : Nat} {sec : Int} (h : goodC n0 n2 O W I) : ∀ k, k ≤ n2 → -86400 ≤ scan O W I sec k ∧ scan O W I sec k ≤ 86400
  | 0, _ => by simp [scan]
  | k + 1, hk => by
    have ih := scan_bound (sec := sec) h k (by omega)
    unfold scan
    split
    · have hi := h.2.2.1 k (by omega)
      exact h.1 _ (by omega)
    · exact ih

end Go.Proofs.YtjbafphoemibaaaGreatDoor
