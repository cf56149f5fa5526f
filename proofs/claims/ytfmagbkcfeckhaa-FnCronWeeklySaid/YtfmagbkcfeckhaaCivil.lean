/- The date and time of day of an instant on the clocks of a good zone. Walked. -/
import Derived.Test.YtfmagbkcfeckhaaClock
set_option linter.unusedVariables false
set_option linter.unusedSimpArgs false
namespace Go.Proofs.Ytfmagbkcfeckhaa
open Go.RowKit

/-- A good zone's lists in memory. -/
structure ZIn (w : World) (o d h x : Option Addr) (n0 n1 n2 n3 : Nat) (O : Nat → Int) (D : Nat → Bool) (W I : Nat → Int) : Prop where
  good : goodZ n0 n1 n2 n3
  cont : goodC n0 n2 O W I
  off : Ints w o n0 O
  dst : Bols w d n1 D
  whn : Ints w h n2 W
  idx : Ints w x n3 I
theorem ZIn.below {w w' : World} {o d h x : Option Addr} {n0 n1 n2 n3 : Nat} {O : Nat → Int} {D : Nat → Bool} {W I : Nat → Int} (z : ZIn w o d h x n0 n1 n2 n3 O D W I) (hb : Below w.heap.size w w') : ZIn w' o d h x n0 n1 n2 n3 O D W I :=
  ⟨z.good, z.cont, z.off.below hb, z.dst.below hb, z.whn.below hb, z.idx.below hb⟩
theorem goodZ_sizes {n0 n1 n2 n3 : Nat} (h : goodZ n0 n1 n2 n3) : n0 ≤ 64 ∧ n2 ≤ 4096 ∧ n3 = n2 ∧ n1 = n0 := by
  rcases h with ⟨h0, h1, h2, h3⟩ | ⟨h0, h1, h2, h3, h4, h5⟩
  · exact ⟨by omega, by omega, by omega, by omega⟩
  · exact ⟨h1, h4, h5, h2⟩

set_option maxHeartbeats 3200000 in
set_option maxRecDepth 100000 in
theorem civil_any (s n : Int) (o d h x : Option Addr) (n0 c0 n1 c1 n2 c2 n3 c3 : Nat) (w : World) (O : Nat → Int) (D : Nat → Bool) (W I : Nat → Int) (hz : ZIn w o d h x n0 n1 n2 n3 O D W I) (hg : goodT s n) :
    Calls Try.prog 12 #[.agg (icells s n), .agg (zcells o d h x n0 c0 n1 c1 n2 c2 n3 c3)] w fun e w' => (∃ Y M D h m sc d, e = .returned (.agg (vcells8 Y M D h m sc n d)) ∧ dateIs ((s + scan O W I s n2) / 86400) Y M D) ∧ Below w.heap.size w w' := by
  obtain ⟨g1, g2, g3, g4⟩ := hg
  obtain ⟨z1, z2, z3', z4'⟩ := goodZ_sizes hz.good
  have z3 := hid z3'
  clear z3' z4'
  obtain ⟨b1, b2⟩ := scan_bound (sec := s) hz.cont n2 (Nat.le_refl _)
  have s1 : (w.alloc (.cells (icells s n) 26)).heap.size = w.heap.size + 1 := by simp
  have s2 : ((w.alloc (.cells (icells s n) 26)).alloc (.cells (zcells o d h x n0 c0 n1 c1 n2 c2 n3 c3) 34)).heap.size = w.heap.size + 1 + 1 := by simp
  have B0 : Below w.heap.size w (((w.alloc (.cells (icells s n) 26)).alloc (.cells (zcells o d h x n0 c0 n1 c1 n2 c2 n3 c3) 34)).alloc (.cells (vcells8 0 0 0 0 0 0 0 0) 38)) := by go_grown
  have B := hid B0
  have K5 := hid (((Blk.new w 26 (icells s n)).alloc (.cells (zcells o d h x n0 c0 n1 c1 n2 c2 n3 c3) 34)).alloc (.cells (vcells8 0 0 0 0 0 0 0 0) 38))
  have K6 := hid ((Blk.new (w.alloc (.cells (icells s n) 26)) 34 (zcells o d h x n0 c0 n1 c1 n2 c2 n3 c3)).alloc (.cells (vcells8 0 0 0 0 0 0 0 0) 38))
  have R := hid (Blk.new ((w.alloc (.cells (icells s n) 26)).alloc (.cells (zcells o d h x n0 c0 n1 c1 n2 c2 n3 c3) 34)) 38 (vcells8 0 0 0 0 0 0 0 0))
  rw [s1] at K6
  rw [s2] at R
  obtain ⟨off, hoff⟩ : ∃ off, scan O W I s n2 = off := ⟨_, rfl⟩
  rw [hoff] at b1 b2 ⊢
  have CC := hid (fun X => clock_any (s + off) n X (by omega) (by omega))
  have e1 : ∀ off, -86400 ≤ off → off ≤ 86400 → wrap64 (s + off) = s + off := fun off h1 h2 => by unfold wrap64; omega
  have e2 : ∀ off, -86400 ≤ off → off ≤ 86400 → IntKind.i64.wrap (s + off) = s + off := fun off h1 h2 => IntWalk.i64_in _ (by omega)
  replace e1 := e1 off b1 b2
  replace e2 := e2 off b1 b2
  go_enter Try.func12, Try.ntmps12
  go_upto_region 1 with fail
  generalize (((w.alloc (.cells (icells s n) 26)).alloc (.cells (zcells o d h x n0 c0 n1 c1 n2 c2 n3 c3) 34)).alloc (.cells (vcells8 0 0 0 0 0 0 0 0) 38)) = w1 at B K5 K6 R ⊢
  have CO := hid (fun d' os => Calls.regrown_of ((offset_any o d h x n0 c0 n1 c1 n2 c2 n3 c3 s (Go.Sort.grow (redrawn w1 d') os) O W I z2 z1 z3.out hz.cont ((hz.below B.out).below (below_regrown w1 d' os)).off ((hz.below B.out).below (below_regrown w1 d' os)).whn ((hz.below B.out).below (below_regrown w1 d' os)).idx)))
  rw [hoff] at CO
  have a0 : ∀ d os, (Go.Sort.grow (redrawn w1 d) os).cell? ⟨w.heap.size, 0, none⟩ = some (.int .i64 s) := fun d os => (blk_gr K5.out d os).cell 0
  have a1 : ∀ d os, (Go.Sort.grow (redrawn w1 d) os).cell? ⟨w.heap.size, 1, none⟩ = some (.int .i64 n) := fun d os => (blk_gr K5.out d os).cell 1
  have k0 : ∀ d' os, (Go.Sort.grow (redrawn w1 d') os).cell? ⟨w.heap.size + 1, 0, none⟩ = some (.slice o n0 c0) := fun d' os => (blk_gr K6.out d' os).cell 0
  have k1 : ∀ d' os, (Go.Sort.grow (redrawn w1 d') os).cell? ⟨w.heap.size + 1, 1, none⟩ = some (.slice d n1 c1) := fun d' os => (blk_gr K6.out d' os).cell 1
  have k2 : ∀ d' os, (Go.Sort.grow (redrawn w1 d') os).cell? ⟨w.heap.size + 1, 2, none⟩ = some (.slice h n2 c2) := fun d' os => (blk_gr K6.out d' os).cell 2
  have k3 : ∀ d' os, (Go.Sort.grow (redrawn w1 d') os).cell? ⟨w.heap.size + 1, 3, none⟩ = some (.slice x n3 c3) := fun d' os => (blk_gr K6.out d' os).cell 3
  clear B0 s1 s2 hz hoff g1 g2 g3 g4 b1 b2 z1 z2 z3
  refine wp_region_tail_below 9 (by kernel_rfl) (by kernel_rfl) ?_
  show wpQuiet _ _ _ _ [_, _, _, _, _, _, _, _, _] _
  repeat (go_big_quiet_step ((first | (go_at_call 30; exact CO.out _ _) | fail)))
  refine wpQuiet_nil ?_
  intro _ hw'
  obtain ⟨⟨dq, osq⟩, hw''⟩ := hw'
  subst hw''
  have R4 := hid (blk_gr R.out dq osq)
  have B4 := hid (bt B.out (below_regrown w1 dq osq))
  clear a0 a1 k0 k1 k2 k3 CO
  generalize Go.Sort.grow (redrawn w1 dq) osq = w4 at R4 B4 ⊢
  show wpList _ _ _ [_, _] _ _
  go_wp2_with (first
    | (go_at_call 29; refine (CC.out _).mono ?_; rintro e w5 ⟨⟨Y, M, D', h', m', s', d', rfl, hdt⟩, hb⟩; have HDT := hid hdt; have R5 := hid (R4.out.below hb); have B5 := hid (bt B4.out hb); have t0 := hid (there_b R5.out 8 (Nat.le_refl 8)); clear hb hdt)
    | (refine wpList_store_mid rfl 38 (.tmp 4) (.tmp 14) rfl (w.heap.size + 1 + 1) 0 (vcells8 Y M D' h' m' s' n d') (by rfl) (by rfl) t0.out (by kernel_rfl) (by simp [Value.oneCell']) ?_; have R6 := hid (set_b8 R5.out Y M D' h' m' s' n d'); have B6 := hid (below_b8 B5.out (Nat.le_add_right _ 2) Y M D' h' m' s' n d'); generalize w5.setCells (w.heap.size + 1 + 1) 0 (vcells8 Y M D' h' m' s' n d').toList = w6 at R6 B6 ⊢))
  exact bodyPost_ret (results_cell_row rfl _ _ (w.heap.size + 1 + 1) 38 _ (0, 0) _ rfl R6.out Try.underlying38 rfl (by kernel_rfl)) rfl ⟨⟨_, _, _, _, _, _, _, rfl, HDT.out⟩, B6.out⟩
end Go.Proofs.Ytfmagbkcfeckhaa
