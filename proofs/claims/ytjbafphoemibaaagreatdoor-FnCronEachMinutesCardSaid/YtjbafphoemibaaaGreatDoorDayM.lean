/- Whether the sets of the two fields of days allow a moment's day: a function of the day alone. Walked. -/
import Derived.Test.YtjbafphoemibaaaGreatDoorDays
import Derived.Test.YtjbafphoemibaaaGreatDoorStar
set_option linter.unusedVariables false
set_option linter.unusedSimpArgs false
namespace Go.Proofs.YtjbafphoemibaaaGreatDoor
open Go.RowKit

/-- A value is in a set. -/
def hasB (m : Int) (k : Nat) : Bool := decide (0 < bits .and .u64 ((2 ^ k : Nat) : Int) m)
def starB (m : Int) : Bool := decide (0 < bits .and .u64 m 9223372036854775808)
def dmB (dom dow : Int) (D W : Nat) : Bool := if starB dom || starB dow then hasB dom D && hasB dow W else hasB dom D || hasB dow W
/-- A schedule's block. -/
abbrev scd (a b c dom m dow : Int) (l : Option Addr) : Array Value := #[.int .u64 a, .int .u64 b, .int .u64 c, .int .u64 dom, .int .u64 m, .int .u64 dow, .pointer l]
theorem pow_wrap (k : Nat) (h : k < 64) : IntKind.u64.wrap ((2 : Int) ^ k) = ((2 ^ k : Nat) : Int) := by
  have e : ((2 : Int) ^ k) = ((2 ^ k : Nat) : Int) := by simp
  rw [e]
  have : 2 ^ k < 2 ^ 64 := Nat.pow_lt_pow_right (by decide) h
  exact wv (by omega)

set_option maxHeartbeats 3200000 in
set_option maxRecDepth 100000 in
theorem dayMatches_any (gs : Nat) (a b c dom m dow : Int) (l : Option Addr) (n e s off : Int) (p : Option Addr) (A d : Nat) (w : World) (hg : Blk w gs 60 (scd a b c dom m dow l)) (h0 : 0 ≤ n) (h1 : n < 1073741824) (hs : e + -62135596800 = s) (b1 : -1000000000000 ≤ s) (b2 : s ≤ 1000000000000) (hp : At w p s off) (ha : s + off + 9223372028741760000 = (A : Int)) (ha2 : A < 18446744073709551616) (hd : A / 86400 = d) :
    Calls Tryz.prog 123 #[.pointer (some ⟨gs, 0, none⟩), .agg (tcells n e p)] w fun e' w' => e' = .returned (.bool (dmB dom dow (mdN (ydN d)) ((d + 3) % 7))) ∧ Below w.heap.size w w' := by
  have B0 : Below w.heap.size w (w.alloc (.cells (tcells n e p) 52)) := by go_grown
  have B := hid B0
  have R := hid (Blk.new w 52 (tcells n e p))
  have G := hid (hg.below B0)
  have HP := hid (hp.below B0)
  have CDD := hid (fun X (hp : At X p s off) => day_any n e s off p A d X h0 h1 hs b1 b2 hp ha ha2 hd)
  have CDW := hid (fun X (hp : At X p s off) => wday_any n e s off p A d X h0 h1 hs b1 b2 hp ha ha2 hd)
  have db := mdN_le (ydN d)
  obtain ⟨D, hD⟩ : ∃ D, mdN (ydN d) = D := ⟨_, rfl⟩
  obtain ⟨W, hW⟩ : ∃ W, (d + 3) % 7 = W := ⟨_, rfl⟩
  have hW7 : W < 7 := by omega
  rw [hD] at CDD db ⊢
  rw [hW] at CDW ⊢
  have x1 := pow_wrap D (by omega)
  have x2 := pow_wrap W (by omega)
  have v1 : IntKind.u64.wrap (D : Int) = (D : Int) := wv (by omega)
  have v2 : IntKind.u64.wrap (W : Int) = (W : Int) := wv (by omega)
  have s1 : (D : Int) < 64 := by clear x1 x2 v1 v2; omega
  have s2 : (W : Int) < 64 := by clear x1 x2 v1 v2; omega
  unfold dmB hasB starB
  obtain ⟨y1, hy1⟩ : ∃ y, bits .and .u64 ((2 ^ D : Nat) : Int) dom = y := ⟨_, rfl⟩
  obtain ⟨y2, hy2⟩ : ∃ y, bits .and .u64 ((2 ^ W : Nat) : Int) dow = y := ⟨_, rfl⟩
  obtain ⟨z1, hz1⟩ : ∃ y, bits .and .u64 dom 9223372036854775808 = y := ⟨_, rfl⟩
  obtain ⟨z2, hz2⟩ : ∃ y, bits .and .u64 dow 9223372036854775808 = y := ⟨_, rfl⟩
  rw [hy1, hy2, hz1, hz2]
  obtain ⟨q1, hq1⟩ : ∃ q : Int, ((2 ^ D : Nat) : Int) = q := ⟨_, rfl⟩
  obtain ⟨q2, hq2⟩ : ∃ q : Int, ((2 ^ W : Nat) : Int) = q := ⟨_, rfl⟩
  rw [hq1] at hy1 x1
  rw [hq2] at hy2 x2
  clear h0 h1 hs b1 b2 hp ha ha2 hd hD hW db hW7 B0 hg hq1 hq2
  go_enter Tryz.func123, Tryz.ntmps123
  go_upto_region 1 with fail
  generalize (w.alloc (.cells (tcells n e p) 52)) = w1 at B R G HP ⊢
  have a0 : ∀ d os, (Go.Sort.grow (redrawn w1 d) os).cell? ⟨w.heap.size, 0, none⟩ = some (.int .u64 n) := fun d os => (blk_gr R.out d os).cell 0
  have a1 : ∀ d os, (Go.Sort.grow (redrawn w1 d) os).cell? ⟨w.heap.size, 1, none⟩ = some (.int .i64 e) := fun d os => (blk_gr R.out d os).cell 1
  have a2 : ∀ d os, (Go.Sort.grow (redrawn w1 d) os).cell? ⟨w.heap.size, 2, none⟩ = some (.pointer p) := fun d os => (blk_gr R.out d os).cell 2
  have k3 : ∀ d os, (Go.Sort.grow (redrawn w1 d) os).cell? ⟨gs, 3, none⟩ = some (.int .u64 dom) := fun d os => (blk_gr G.out d os).cell 3
  have C1 := hid (fun d os => Calls.regrown_of (CDD.out (Go.Sort.grow (redrawn w1 d) os) (HP.out.below (below_regrown w1 d os))))
  refine wp_region_quiet_below (by kernel_rfl) (by kernel_rfl) ?_
  repeat (go_big_quiet_step ((first | (go_at_call 115; exact C1.out _ _) | fail)))
  refine wpQuiet_nil ?_
  intro _ hw'
  obtain ⟨⟨dq, osq⟩, hw''⟩ := hw'
  subst hw''
  have RR := hid (blk_gr R.out dq osq)
  have GG := hid (blk_gr G.out dq osq)
  have BB := hid (bt B.out (below_regrown w1 dq osq))
  have HPP := hid (HP.out.below (below_regrown w1 dq osq))
  clear a0 a1 a2 k3 C1 HP G R B
  generalize Go.Sort.grow (redrawn w1 dq) osq = w2 at RR GG BB HPP ⊢
  go_upto_region 2 with fail
  have a0 : ∀ d os, (Go.Sort.grow (redrawn w2 d) os).cell? ⟨w.heap.size, 0, none⟩ = some (.int .u64 n) := fun d os => (blk_gr RR.out d os).cell 0
  have a1 : ∀ d os, (Go.Sort.grow (redrawn w2 d) os).cell? ⟨w.heap.size, 1, none⟩ = some (.int .i64 e) := fun d os => (blk_gr RR.out d os).cell 1
  have a2 : ∀ d os, (Go.Sort.grow (redrawn w2 d) os).cell? ⟨w.heap.size, 2, none⟩ = some (.pointer p) := fun d os => (blk_gr RR.out d os).cell 2
  have k5 : ∀ d os, (Go.Sort.grow (redrawn w2 d) os).cell? ⟨gs, 5, none⟩ = some (.int .u64 dow) := fun d os => (blk_gr GG.out d os).cell 5
  have C1 := hid (fun d os => Calls.regrown_of (CDW.out (Go.Sort.grow (redrawn w2 d) os) (HPP.out.below (below_regrown w2 d os))))
  refine wp_region_quiet_below (by kernel_rfl) (by kernel_rfl) ?_
  repeat (go_big_quiet_step ((first | (go_at_call 141; exact C1.out _ _) | fail)))
  refine wpQuiet_nil ?_
  intro _ hw'
  obtain ⟨⟨dq2, osq2⟩, hw''⟩ := hw'
  subst hw''
  have G3 := hid (blk_gr GG.out dq2 osq2)
  have B3 := hid (bt BB.out (below_regrown w2 dq2 osq2))
  clear a0 a1 a2 k5 C1 HPP GG RR BB CDD CDW hy1 hy2 x1 x2 v1 v2 s1 s2
  generalize Go.Sort.grow (redrawn w2 dq2) osq2 = w3 at G3 B3 ⊢
  have k3 := G3.out.cell 3
  have k5 := G3.out.cell 5
  obtain ⟨c1, hc1⟩ : ∃ c, decide (0 < y1) = c := ⟨_, rfl⟩
  obtain ⟨c2, hc2⟩ : ∃ c, decide (0 < y2) = c := ⟨_, rfl⟩
  rw [hc1, hc2]
  by_cases t1 : 0 < z1
  · have t1' : decide (0 < z1) = true := decide_eq_true t1
    cases c1
    · go_wp2_with fail
      all_goals first | (exfalso; omega) | (go_ret; exact ⟨rfl, B3.out⟩)
    · go_wp2_with fail
      all_goals first | (exfalso; omega) | (go_ret; exact ⟨rfl, B3.out⟩)
  · have t1' : decide (0 < z1) = false := decide_eq_false t1
    by_cases t2 : 0 < z2
    · have t2' : decide (0 < z2) = true := decide_eq_true t2
      cases c1
      · go_wp2_with fail
        go_ret
        exact ⟨rfl, B3.out⟩
      · go_wp2_with fail
        go_ret
        exact ⟨rfl, B3.out⟩
    · have t2' : decide (0 < z2) = false := decide_eq_false t2
      cases c1
      · go_wp2_with fail
        go_ret
        exact ⟨rfl, B3.out⟩
      · go_wp2_with fail
        go_ret
        exact ⟨rfl, B3.out⟩

end Go.Proofs.YtjbafphoemibaaaGreatDoor
