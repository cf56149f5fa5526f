/- The reference's date of a day, and the date and time of day that clocks show. Walked. -/
import Derived.Test.YtfmagbkcfeckhaaCal
import Derived.Test.YtfmagbkcfeckhaaQTail
import Derived.Deep.DeepCutAuto
set_option linter.unusedVariables false
set_option linter.unusedSimpArgs false
namespace Go.Proofs.Ytfmagbkcfeckhaa
open Go.RowKit

theorem there_b {w : World} {g : Nat} {t : TypeId} {cs : Array Value} (h : Blk w g t cs) (n : Nat) (hn : n ≤ cs.size) : w.there g 0 n := fun j hj => by
  constructor
  · rw [Nat.zero_add, h.cell j, Array.getElem?_eq_getElem (by omega)]
    rfl
  · exact h.frozen _
theorem set_b3 {w : World} {g : Nat} {t : TypeId} {x y z : Value} (h : Blk w g t #[x, y, z]) (a b c : Value) : Blk (w.setCells g 0 #[a, b, c].toList) g t #[a, b, c] := ((h.set 0 a).set 1 b).set 2 c
theorem below_b3 {B : Nat} {w w1 : World} (h : Below B w w1) {g : Nat} (hg : B ≤ g) (a b c : Value) : Below B w (w1.setCells g 0 #[a, b, c].toList) :=
  below_set (below_set (below_set h hg 0 _) hg 1 _) hg 2 _

/-- The days of the first k months of a year. -/
def msum (y : Int) : Nat → Int
  | 0 => 0
  | k + 1 => msum y k + md y ((k : Int) + 1)
/-- The day that a date gives back. -/
def dateIs (day Y M D : Int) : Prop := day = ys Y + msum Y (M - 1).toNat + (D - 1)

set_option maxHeartbeats 3200000 in
set_option maxRecDepth 100000 in
theorem date_any (day : Int) (w : World) (h1 : -720000 ≤ day) (h2 : day ≤ 3000000) : Calls Try.prog 31 #[.int .i64 day] w fun e w' => (∃ Y M D, e = .returned (.agg #[.int .i64 Y, .int .i64 M, .int .i64 D]) ∧ dateIs day Y M D) ∧ Below w.heap.size w w' := by
  have C3 := hid (fun w => fd_366 day w (by omega) (by omega))
  have C5 := hid (fun w => fd_365 day w (by omega) (by omega))
  obtain ⟨p, hp⟩ : ∃ p, day / 366 = p := ⟨_, rfl⟩
  obtain ⟨q, hq⟩ : ∃ q, day / 365 = q := ⟨_, rfl⟩
  rw [hp] at C3
  rw [hq] at C5
  have p1 : -2000 ≤ p := by omega
  have p2 : p ≤ 9000 := by omega
  have q1 : -2000 ≤ q := by omega
  have q2 : q ≤ 9000 := by omega
  clear hp hq
  by_cases h0 : day < 0
  · go_enter Try.func31, Try.ntmps31
    go_wp2_with (first | (go_at_call_of 32 (Value.int .i64 366); refine (C3.out _).mono ?_; rintro e w' ⟨rfl, rfl⟩) | (go_at_call_of 32 (Value.int .i64 365); refine (C5.out _).mono ?_; rintro e w' ⟨rfl, rfl⟩))
    clear C3 C5
    have B := hid (show Below w.heap.size w (w.alloc (.cells #[.int .i64 0, .int .i64 0, .int .i64 0] 72)) by go_grown)
    have R := hid (Blk.new w 72 #[.int .i64 0, .int .i64 0, .int .i64 0])
    generalize (w.alloc (.cells #[.int .i64 0, .int .i64 0, .int .i64 0] 72)) = w1 at B R ⊢
    go_loop [3] (fun v => ∃ y : Int, v = .int .i64 y ∧ -1000 ≤ y ∧ y ≤ 20000) (fun v => (20000 - intOf v).toNat)
    case atStart => exact ⟨_, rfl, by omega, by omega⟩
    case round =>
      obtain ⟨y, rfl, y1, y2⟩ := hrel
      clear p1 p2 q1 q2
      obtain ⟨z, hz⟩ : ∃ z, y + 1 = z := ⟨_, rfl⟩
      have CY := hid (ys_any z w1 (by omega) (by omega))
      obtain ⟨s, hs⟩ : ∃ s, ys z = s := ⟨_, rfl⟩
      rw [hs] at CY
      have HS := hid hs
      clear hs
      have e1 : IntKind.i64.wrap (y + 1) = z := by rw [hz]; exact IntWalk.i64_in _ (by omega)
      have e1' : wrap64 z = z := by unfold wrap64; omega
      by_cases hc : s ≤ day
      · have y3 : z ≤ 20000 := by
          have := HS.out
          unfold ys at this
          omega
        go_wp2_with (go_at_call 45; refine CY.out.mono ?_; rintro e w' ⟨rfl, rfl⟩)
        go_round
        case rel => exact ⟨z, by go_num, by omega, by omega⟩
        case measure => simp [intOf]; omega
      · have C2 := hid (ys_any y w1 (by omega) (by omega))
        obtain ⟨u, hu⟩ : ∃ u, ys y = u := ⟨_, rfl⟩
        rw [hu] at C2
        have u1 : -1500000 ≤ u := by unfold ys at hu; omega
        have u2 : u ≤ 10000000 := by unfold ys at hu; omega
        have HU := hid hu
        clear hu
        go_wp2_with (first | (go_at_call_of 45 (Value.int .i64 z); refine CY.out.mono ?_; rintro e w' ⟨rfl, rfl⟩) | (go_at_call_of 45 (Value.int .i64 y); refine C2.out.mono ?_; rintro e w' ⟨rfl, rfl⟩))
        clear CY C2
        go_loop [4, 5] (fun rv mv => ∃ (r : Int) (k : Nat), rv = .int .i64 r ∧ mv = .int .i64 ((k : Int) + 1) ∧ r + (k : Int) ≤ 10000000 ∧ -20000000 ≤ r ∧ day - u = msum y k + r) (fun rv _ => (intOf rv).toNat)
        case atStart => exact ⟨day - u, 0, rfl, rfl, by omega, by omega, by simp [msum]⟩
        case round =>
          obtain ⟨r, k, rfl, rfl, r1, r2, r3⟩ := hrel
          have CM := hid (md_any y ((k : Int) + 1) w1)
          obtain ⟨m1, m2⟩ := md_pos y ((k : Int) + 1)
          obtain ⟨m, hm⟩ : ∃ m, md y ((k : Int) + 1) = m := ⟨_, rfl⟩
          rw [hm] at CM m1 m2
          have HM := hid hm
          have R3 := hid r3
          clear hm r3
          have k1 : 0 ≤ (k : Int) := by omega
          by_cases hr : m ≤ r
          · have e2 : IntKind.i64.wrap (r - m) = r - m := IntWalk.i64_in _ (by omega)
            have e3 : IntKind.i64.wrap ((k : Int) + 1 + 1) = (k : Int) + 1 + 1 := IntWalk.i64_in _ (by omega)
            go_wp2_with (go_at_call 46; refine CM.out.mono ?_; rintro e w' ⟨rfl, rfl⟩)
            go_round
            case rel => exact ⟨r - m, k + 1, by go_num, by go_num, by omega, by omega, by rw [msum, HM.out]; have := R3.out; omega⟩
            case measure => simp [intOf]; omega
          · have e2 : IntKind.i64.wrap (r + 1) = r + 1 := IntWalk.i64_in _ (by omega)
            have t0 := hid (there_b R.out 3 (Nat.le_refl 3))
            go_wp2_with (first | (go_at_call 46; refine CM.out.mono ?_; rintro e w' ⟨rfl, rfl⟩) | (refine wpList_store_mid rfl 72 (.tmp 2) (.tmp 42) rfl w.heap.size 0 #[.int .i64 y, .int .i64 ((k : Int) + 1), .int .i64 (r + 1)] (by rfl) (by rfl) t0.out (by kernel_rfl) (by simp [Value.oneCell']) ?_; have R3' := hid (set_b3 R.out (.int .i64 y) (.int .i64 ((k : Int) + 1)) (.int .i64 (r + 1))); have B3' := hid (below_b3 B.out (Nat.le_refl _) (.int .i64 y) (.int .i64 ((k : Int) + 1)) (.int .i64 (r + 1))); generalize w1.setCells w.heap.size 0 #[Value.int .i64 y, .int .i64 ((k : Int) + 1), .int .i64 (r + 1)].toList = w3 at R3' B3' ⊢))
            refine bodyPost_ret (results_cell_row rfl _ _ w.heap.size 72 _ (0, 0) _ rfl R3'.out Try.underlying72 rfl (by kernel_rfl)) rfl ⟨⟨_, _, _, rfl, ?_⟩, B3'.out⟩
            have h3 := R3.out
            have h4 := HU.out
            have e : ((k : Int) + 1 - 1).toNat = k := by omega
            unfold dateIs
            rw [e, h4]
            omega
  · go_enter Try.func31, Try.ntmps31
    go_wp2_with (first | (go_at_call_of 32 (Value.int .i64 366); refine (C3.out _).mono ?_; rintro e w' ⟨rfl, rfl⟩) | (go_at_call_of 32 (Value.int .i64 365); refine (C5.out _).mono ?_; rintro e w' ⟨rfl, rfl⟩))
    clear C3 C5
    have B := hid (show Below w.heap.size w (w.alloc (.cells #[.int .i64 0, .int .i64 0, .int .i64 0] 72)) by go_grown)
    have R := hid (Blk.new w 72 #[.int .i64 0, .int .i64 0, .int .i64 0])
    generalize (w.alloc (.cells #[.int .i64 0, .int .i64 0, .int .i64 0] 72)) = w1 at B R ⊢
    go_loop [3] (fun v => ∃ y : Int, v = .int .i64 y ∧ -1000 ≤ y ∧ y ≤ 20000) (fun v => (20000 - intOf v).toNat)
    case atStart => exact ⟨_, rfl, by omega, by omega⟩
    case round =>
      obtain ⟨y, rfl, y1, y2⟩ := hrel
      clear p1 p2 q1 q2
      obtain ⟨z, hz⟩ : ∃ z, y + 1 = z := ⟨_, rfl⟩
      have CY := hid (ys_any z w1 (by omega) (by omega))
      obtain ⟨s, hs⟩ : ∃ s, ys z = s := ⟨_, rfl⟩
      rw [hs] at CY
      have HS := hid hs
      clear hs
      have e1 : IntKind.i64.wrap (y + 1) = z := by rw [hz]; exact IntWalk.i64_in _ (by omega)
      have e1' : wrap64 z = z := by unfold wrap64; omega
      by_cases hc : s ≤ day
      · have y3 : z ≤ 20000 := by
          have := HS.out
          unfold ys at this
          omega
        go_wp2_with (go_at_call 45; refine CY.out.mono ?_; rintro e w' ⟨rfl, rfl⟩)
        go_round
        case rel => exact ⟨z, by go_num, by omega, by omega⟩
        case measure => simp [intOf]; omega
      · have C2 := hid (ys_any y w1 (by omega) (by omega))
        obtain ⟨u, hu⟩ : ∃ u, ys y = u := ⟨_, rfl⟩
        rw [hu] at C2
        have u1 : -1500000 ≤ u := by unfold ys at hu; omega
        have u2 : u ≤ 10000000 := by unfold ys at hu; omega
        have HU := hid hu
        clear hu
        go_wp2_with (first | (go_at_call_of 45 (Value.int .i64 z); refine CY.out.mono ?_; rintro e w' ⟨rfl, rfl⟩) | (go_at_call_of 45 (Value.int .i64 y); refine C2.out.mono ?_; rintro e w' ⟨rfl, rfl⟩))
        clear CY C2
        go_loop [4, 5] (fun rv mv => ∃ (r : Int) (k : Nat), rv = .int .i64 r ∧ mv = .int .i64 ((k : Int) + 1) ∧ r + (k : Int) ≤ 10000000 ∧ -20000000 ≤ r ∧ day - u = msum y k + r) (fun rv _ => (intOf rv).toNat)
        case atStart => exact ⟨day - u, 0, rfl, rfl, by omega, by omega, by simp [msum]⟩
        case round =>
          obtain ⟨r, k, rfl, rfl, r1, r2, r3⟩ := hrel
          have CM := hid (md_any y ((k : Int) + 1) w1)
          obtain ⟨m1, m2⟩ := md_pos y ((k : Int) + 1)
          obtain ⟨m, hm⟩ : ∃ m, md y ((k : Int) + 1) = m := ⟨_, rfl⟩
          rw [hm] at CM m1 m2
          have HM := hid hm
          have R3 := hid r3
          clear hm r3
          have k1 : 0 ≤ (k : Int) := by omega
          by_cases hr : m ≤ r
          · have e2 : IntKind.i64.wrap (r - m) = r - m := IntWalk.i64_in _ (by omega)
            have e3 : IntKind.i64.wrap ((k : Int) + 1 + 1) = (k : Int) + 1 + 1 := IntWalk.i64_in _ (by omega)
            go_wp2_with (go_at_call 46; refine CM.out.mono ?_; rintro e w' ⟨rfl, rfl⟩)
            go_round
            case rel => exact ⟨r - m, k + 1, by go_num, by go_num, by omega, by omega, by rw [msum, HM.out]; have := R3.out; omega⟩
            case measure => simp [intOf]; omega
          · have e2 : IntKind.i64.wrap (r + 1) = r + 1 := IntWalk.i64_in _ (by omega)
            have t0 := hid (there_b R.out 3 (Nat.le_refl 3))
            go_wp2_with (first | (go_at_call 46; refine CM.out.mono ?_; rintro e w' ⟨rfl, rfl⟩) | (refine wpList_store_mid rfl 72 (.tmp 2) (.tmp 42) rfl w.heap.size 0 #[.int .i64 y, .int .i64 ((k : Int) + 1), .int .i64 (r + 1)] (by rfl) (by rfl) t0.out (by kernel_rfl) (by simp [Value.oneCell']) ?_; have R3' := hid (set_b3 R.out (.int .i64 y) (.int .i64 ((k : Int) + 1)) (.int .i64 (r + 1))); have B3' := hid (below_b3 B.out (Nat.le_refl _) (.int .i64 y) (.int .i64 ((k : Int) + 1)) (.int .i64 (r + 1))); generalize w1.setCells w.heap.size 0 #[Value.int .i64 y, .int .i64 ((k : Int) + 1), .int .i64 (r + 1)].toList = w3 at R3' B3' ⊢))
            refine bodyPost_ret (results_cell_row rfl _ _ w.heap.size 72 _ (0, 0) _ rfl R3'.out Try.underlying72 rfl (by kernel_rfl)) rfl ⟨⟨_, _, _, rfl, ?_⟩, B3'.out⟩
            have h3 := R3.out
            have h4 := HU.out
            have e : ((k : Int) + 1 - 1).toNat = k := by omega
            unfold dateIs
            rw [e, h4]
            omega
end Go.Proofs.Ytfmagbkcfeckhaa
