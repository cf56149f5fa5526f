/- spec.CompareNumbers, walked. -/
import Derived.Test.YtmlbjcdildaldaaDoorVerB
import Derived.Deep.QuietTactic
import Derived.BigQuiet
import Derived.IntWalk
import Derived.Deep.DeepCutAuto
set_option linter.unusedVariables false
set_option linter.unusedSimpArgs false
namespace Go.Proofs.YtmlbjcdildaldaaDoor
open Go.RowKit

/-- The first of the first n differences that is not 0. -/
def firstC (x y : Nat → Int) : Nat → Int
  | 0 => 0
  | n + 1 => if firstC x y n = 0 then segC (x n) (y n) else firstC x y n
def three (a b c : Int) (k : Nat) : Int := if k = 0 then a else if k = 1 then b else c

theorem firstC_stop (x y : Nat → Int) (k n : Nat) (h : k < n) (hz : firstC x y k = 0) (h0 : segC (x k) (y k) ≠ 0) : firstC x y n = segC (x k) (y k) := by
  induction n with
  | zero => omega
  | succ n ih =>
    by_cases hk : k < n
    · have e := ih hk
      simp only [firstC]
      rw [e, if_neg h0]
    · obtain rfl : k = n := by omega
      simp only [firstC]
      rw [hz, if_pos rfl]

theorem two_blk (W : World) (t : TypeId) (x y : Array Value) : Blk ((W.alloc (.cells x t)).alloc (.cells y t)).drew W.heap.size t x ∧ Blk ((W.alloc (.cells x t)).alloc (.cells y t)).drew (W.heap.size + 1) t y := by
  have h1 := (Blk.new W t x).alloc (.cells y t)
  have h2 := Blk.new (W.alloc (.cells x t)) t y
  rw [World.size_alloc] at h2
  exact ⟨h1, h2⟩

theorem keep6 {a b c : Int} {p m : ByteArray} {a' b' c' : Int} {p' m' : ByteArray} {w w' : World} {t u : TypeId} (hb : Below ((w.alloc (.cells (scells a b c p m) t)).alloc (.cells (scells a' b' c' p' m') u)).heap.size ((w.alloc (.cells (scells a b c p m) t)).alloc (.cells (scells a' b' c' p' m') u)) w') :
    w'.cell? ⟨w.heap.size, 0, none⟩ = some (.int .u64 a) ∧ w'.cell? ⟨w.heap.size, 1, none⟩ = some (.int .u64 b) ∧ w'.cell? ⟨w.heap.size, 2, none⟩ = some (.int .u64 c) ∧ w'.cell? ⟨w.heap.size + 1, 0, none⟩ = some (.int .u64 a') ∧ w'.cell? ⟨w.heap.size + 1, 1, none⟩ = some (.int .u64 b') ∧ w'.cell? ⟨w.heap.size + 1, 2, none⟩ = some (.int .u64 c') := by
  have h1 : Blk ((w.alloc (.cells (scells a b c p m) t)).alloc (.cells (scells a' b' c' p' m') u)) w.heap.size t (scells a b c p m) := (Blk.new w t (scells a b c p m)).alloc _
  have h2 : Blk ((w.alloc (.cells (scells a b c p m) t)).alloc (.cells (scells a' b' c' p' m') u)) (w.heap.size + 1) u (scells a' b' c' p' m') := by
    have := Blk.new (w.alloc (.cells (scells a b c p m) t)) u (scells a' b' c' p' m')
    rwa [World.size_alloc] at this
  have k1 := h1.below hb
  have k2 := h2.below hb
  exact ⟨k1.cell 0, k1.cell 1, k1.cell 2, k2.cell 0, k2.cell 1, k2.cell 2⟩

set_option maxRecDepth 100000 in
theorem numbers_any (a b c : Int) (p m : ByteArray) (a' b' c' : Int) (p' m' : ByteArray) (n : Nat) (hn : n ≤ 3) (w : World) :
    Calls Tryd.prog 18 #[.agg (scells a b c p m), .agg (scells a' b' c' p' m'), .int .i64 n] w fun e w' => e = .returned (.int .i64 (firstC (three a b c) (three a' b' c') n)) ∧ Below w.heap.size w w' := by
  go_enter Tryd.func18, Tryd.ntmps18
  go_upto_region 1 with fail
  go_cut [7, 8] (fun s7 s8 wx => ∃ g h : Nat, s7 = .pointer (some ⟨g, 0, none⟩) ∧ s8 = .pointer (some ⟨h, 0, none⟩) ∧ Blk wx g 63 #[.int .u64 a, .int .u64 b, .int .u64 c] ∧ Blk wx h 63 #[.int .u64 a', .int .u64 b', .int .u64 c'] ∧ Below w.heap.size w wx)
  case first =>
    go_region_held3 (fun w' => w'.cell? ⟨w.heap.size, 0, none⟩ = some (.int .u64 a) ∧ w'.cell? ⟨w.heap.size, 1, none⟩ = some (.int .u64 b) ∧ w'.cell? ⟨w.heap.size, 2, none⟩ = some (.int .u64 c) ∧ w'.cell? ⟨w.heap.size + 1, 0, none⟩ = some (.int .u64 a') ∧ w'.cell? ⟨w.heap.size + 1, 1, none⟩ = some (.int .u64 b') ∧ w'.cell? ⟨w.heap.size + 1, 2, none⟩ = some (.int .u64 c')) (exact keep6 (t := 27) (u := 27) (by go_grown)) (fail)
    · go_wp2_with fail
      go_meet
      obtain ⟨k1, k2⟩ := two_blk ((w.alloc (.cells (scells a b c p m) 27)).alloc (.cells (scells a' b' c' p' m') 27)) 63 #[.int .u64 a, .int .u64 b, .int .u64 c] #[.int .u64 a', .int .u64 b', .int .u64 c']
      simp only [World.size_alloc] at k1 k2
      exact ⟨_, _, rfl, rfl, k1, k2, by go_grown⟩
    · go_wp2_with fail
      go_meet
      obtain ⟨k1, k2⟩ := two_blk ((w.alloc (.cells (scells a b c p m) 27)).alloc (.cells (scells a' b' c' p' m') 27)) 63 #[.int .u64 a', .int .u64 b', .int .u64 c'] #[.int .u64 a, .int .u64 b, .int .u64 c]
      simp only [World.size_alloc] at k1 k2
      exact ⟨_, _, rfl, rfl, k2, k1, by go_grown⟩
  case rest =>
    obtain ⟨g, h, rfl, rfl, h1, h2, hb⟩ := hcut
    have HB := hid hb
    have c1 : ∀ k : Nat, k < 3 → wc.cell? ⟨g, k, none⟩ = some (.int .u64 (three a b c k)) := fun k hk => by
      rw [h1.cell k]
      match k, hk with
      | 0, _ => rfl
      | 1, _ => rfl
      | 2, _ => rfl
    have c2 : ∀ k : Nat, k < 3 → wc.cell? ⟨h, k, none⟩ = some (.int .u64 (three a' b' c' k)) := fun k hk => by
      rw [h2.cell k]
      match k, hk with
      | 0, _ => rfl
      | 1, _ => rfl
      | 2, _ => rfl
    have HC1 := hid c1
    have HC2 := hid c2
    clear h1 h2 hb c1 c2
    go_wp2_with fail
    have lg : g < wc.heap.size := World.block_lt_of_cell? wc _ (HC1.out 0 (by omega))
    have lh : h < wc.heap.size := World.block_lt_of_cell? wc _ (HC2.out 0 (by omega))
    go_loopw [9] (fun i wr => ∃ k : Nat, k ≤ n ∧ i = .int .i64 k ∧ firstC (three a b c) (three a' b' c') k = 0 ∧ Below wc.heap.size wc wr) (fun i _ => n - (intOf i).toNat)
    case atStart => exact ⟨0, Nat.zero_le _, rfl, rfl, Below.refl _ _⟩
    case round =>
      obtain ⟨k, hk, rfl, hz, hb⟩ := hrel
      have HZ := hid hz
      have HR := hid hb
      clear hz hb
      by_cases hlt : k < n
      · have hc1 := (HR.out.cell (p := ⟨g, k, none⟩) lg).trans (HC1.out k (by omega))
        have hc2 := (HR.out.cell (p := ⟨h, k, none⟩) lh).trans (HC2.out k (by omega))
        have hi0 : (0 : Int) ≤ (k : Int) := by omega
        have hi3 : (k : Int) < 3 := by omega
        have hw : IntKind.i64.wrap ((k : Int) + 1) = (k : Int) + 1 := IntWalk.i64_in _ (by omega)
        go_wp2_with fail
        go_region_held3 (fun w' => w'.cell? ⟨g, k, none⟩ = some (.int .u64 (three a b c k)) ∧ w'.cell? ⟨h, k, none⟩ = some (.int .u64 (three a' b' c' k))) (go_keep)
          (first | (go_at_call 57; refine (order_any (three a b c k) (three a' b' c' k) _).mono ?_; rintro e w' ⟨rfl, rfl⟩))
        by_cases h0 : segC (three a b c k) (three a' b' c' k) = 0
        · go_wp2_with fail
          go_roundw
          case rel => exact ⟨k + 1, by omega, by go_num, by simp [firstC, HZ.out, h0], HR.out.drew⟩
          case measure => simp [intOf]; omega
        · have hf : (segC (three a b c k) (three a' b' c' k) == 0) = false := by simpa using h0
          go_wp2_with fail
          go_ret
          exact ⟨ret_i (firstC_stop _ _ k n hlt HZ.out h0).symm, bt HB.out HR.out.drew⟩
      · have hkn : k = n := by omega
        subst hkn
        by_cases h3 : k < 3
        · go_wp2_with fail
          go_ret
          exact ⟨ret_i HZ.out.symm, bt HB.out HR.out⟩
        · go_wp2_with fail
          go_ret
          exact ⟨ret_i HZ.out.symm, bt HB.out HR.out⟩
end Go.Proofs.YtmlbjcdildaldaaDoor
