/- The reference's CronNext at a zone that keeps one offset: FoundF or NothingF. Walked. -/
import Derived.Test.YtfmagbkcfeckhaaLocal
import Derived.Test.YtfmagbkcfeckhaaChange
import Derived.Test.YtfmagbkcfeckhaaNextJ
set_option linter.unusedVariables false
set_option linter.unusedSimpArgs false
namespace Go.Proofs.Ytfmagbkcfeckhaa
open Go.RowKit

theorem year_low {day : Int} (h1 : -720000 ≤ day) (h2 : day ≤ 10000000) : -10 ≤ yP day := by
  obtain ⟨p, q⟩ := abs_date day (Int.le_trans (by decide) h1) h2
  have h3 := (dayOf_year q).2
  have e : day = dayOf (yP day) (mP day) (dP day) := p
  rw [← e] at h3
  rcases Int.lt_or_le (yP day) (-10) with h | h
  · have := ys_mono (show yP day + 1 ≤ -9 by omega)
    have e2 : ys (-9) < -720000 := by decide
    omega
  · exact h
theorem field_year (Y M D : Int) (X : World) : (Instr.field 72 (.agg #[.int .i64 Y, .int .i64 M, .int .i64 D]) 0).run Try.prog X = .ok (.int .i64 Y) X := by kernel_rfl
def OutF (e : Ending) (F : Nat → Bool) (l1 off : Int) : Prop :=
  (∃ l, e = .returned (.tuple #[.agg (icells (l - off) 0), .bool true]) ∧ FoundF F (l1 + 1) (yP ((l1 + 1) / 86400) + 5) l) ∨
  (e = .returned (.tuple #[.agg (icells 0 0), .bool false]) ∧ NothingF F (l1 + 1) (yP ((l1 + 1) / 86400) + 5))

set_option maxHeartbeats 3200000 in
set_option maxRecDepth 100000 in
theorem specRef_any (F : Nat → Bool) (s n off l1 : Int) (o d h x : Option Addr) (n0 c0 n1 c1 n2 c2 n3 c3 : Nat) (w : World) (s1 : -62135596800 ≤ s) (s2 : s ≤ 253402300799) (o1 : -86400 ≤ off) (o2 : off ≤ 86400) (hl : s + off = l1)
    (hz : ZC (zcells o d h x n0 c0 n1 c1 n2 c2 n3 c3) off w) :
    Calls Try.prog 15 #[.agg (bcells 384 F), .agg (icells s n), .agg (zcells o d h x n0 c0 n1 c1 n2 c2 n3 c3)] w fun e w' => OutF e F l1 off ∧ Below w.heap.size w w' := by
  have z1 : (w.alloc (.cells (bcells 384 F) 47)).heap.size = w.heap.size + 1 := by simp
  have z2 : ((w.alloc (.cells (bcells 384 F) 47)).alloc (.cells (icells s n) 26)).heap.size = w.heap.size + 1 + 1 := by simp
  have z3 : (((w.alloc (.cells (bcells 384 F) 47)).alloc (.cells (icells s n) 26)).alloc (.cells (zcells o d h x n0 c0 n1 c1 n2 c2 n3 c3) 34)).heap.size = w.heap.size + 1 + 1 + 1 := by simp
  have B0 : Below w.heap.size w ((((w.alloc (.cells (bcells 384 F) 47)).alloc (.cells (icells s n) 26)).alloc (.cells (zcells o d h x n0 c0 n1 c1 n2 c2 n3 c3) 34)).alloc (.cells (icells 0 0) 26)) := by go_grown
  have B := hid B0
  have KF := hid ((((Blk.new w 47 (bcells 384 F)).alloc (.cells (icells s n) 26)).alloc (.cells (zcells o d h x n0 c0 n1 c1 n2 c2 n3 c3) 34)).alloc (.cells (icells 0 0) 26))
  have KT := hid (((Blk.new (w.alloc (.cells (bcells 384 F) 47)) 26 (icells s n)).alloc (.cells (zcells o d h x n0 c0 n1 c1 n2 c2 n3 c3) 34)).alloc (.cells (icells 0 0) 26))
  have KZ := hid ((Blk.new ((w.alloc (.cells (bcells 384 F) 47)).alloc (.cells (icells s n) 26)) 34 (zcells o d h x n0 c0 n1 c1 n2 c2 n3 c3)).alloc (.cells (icells 0 0) 26))
  have R := hid (Blk.new (((w.alloc (.cells (bcells 384 F) 47)).alloc (.cells (icells s n) 26)).alloc (.cells (zcells o d h x n0 c0 n1 c1 n2 c2 n3 c3) 34)) 26 (icells 0 0))
  rw [z1] at KT
  rw [z2] at KZ
  rw [z3] at R
  have U := hid (Try.underlying47)
  have N := hid (show (Try.prog.info? 47).map (·.size) = some (bcells 384 F).toList.length by rw [bcells_len]; kernel_rfl)
  have L0 := hid (fun (X : World) (g : Nat) (h : Blk X g 47 (bcells 384 F)) => show X.rangeAt g 0 (bcells 384 F).toList by
    have := h.range_b (o := 0) (m := 384) (by omega)
    rwa [show (fun i => F (0 + i)) = F from funext fun i => by rw [Nat.zero_add]] at this)
  obtain ⟨f, hf⟩ : ∃ f, s + 1 = f := ⟨_, rfl⟩
  have ZO := hid (fun X (hX : Below w.heap.size w X) => (hz X hX f (by omega) (by omega)).1)
  have ZH := hid (fun X (hX : Below w.heap.size w X) => (hz X hX f (by omega) (by omega)).2)
  obtain ⟨l, hl'⟩ : ∃ l, f + off = l := ⟨_, rfl⟩
  have el : l1 + 1 = l := by omega
  unfold OutF
  rw [el]
  obtain ⟨q, hq⟩ : ∃ q, l / 86400 = q := ⟨_, rfl⟩
  have CF := hid (fun X => fd_86400 l X (by omega) (by omega))
  rw [hq] at CF ⊢
  have CD := hid (fun X => dateP_any q X (by omega) (by omega))
  have y1 := year_10000 (day := q) (by omega) (by omega)
  have y2 := year_low (day := q) (by omega) (by omega)
  obtain ⟨Y, hY⟩ : ∃ Y, yP q = Y := ⟨_, rfl⟩
  rw [hY] at CD y1 y2 ⊢
  have CLO := hid (fun X => local_any F l (Y + 5) X (by omega) (by omega) (by omega))
  have v1 : IntKind.i64.wrap (s + 1) = f := by rw [hf]; exact IntWalk.i64_in _ (by omega)
  have v2 : IntKind.i64.wrap (f + off) = l := by rw [hl']; exact IntWalk.i64_in _ (by omega)
  have v3 : IntKind.i64.wrap (Y + 5) = Y + 5 := IntWalk.i64_in _ (by omega)
  have HW := hid (show ∀ x : Int, l ≤ x → x ≤ 330000000000 → wrap64 (x - off) = x - off from fun x h1 h2 => by clear v1 v2 v3; unfold wrap64; omega)
  clear z1 z2 z3 B0 hz hf hl' el hq hY y1 y2 s1 s2 o1 o2 hl
  have hfy := fun X => field_year Y (mP q) (dP q) X
  go_enter Try.func15, Try.ntmps15
  go_upto_region 1 with fail
  generalize ((((w.alloc (.cells (bcells 384 F) 47)).alloc (.cells (icells s n) 26)).alloc (.cells (zcells o d h x n0 c0 n1 c1 n2 c2 n3 c3) 34)).alloc (.cells (icells 0 0) 26)) = w1 at B KF KT KZ R ⊢
  have c0 := KT.out.cell 0
  have m0 := KZ.out.cell 0
  have m1 := KZ.out.cell 1
  have m2 := KZ.out.cell 2
  have m3 := KZ.out.cell 3
  go_wp2_with (first
    | (go_at_call 30; refine (ZO.out _ B.out).mono ?_; rintro e w2 ⟨rfl, hb⟩; have KF2 := hid (KF.out.below hb); have KZ2 := hid (KZ.out.below hb); have R2 := hid (R.out.below hb); have B2 := hid (bt B.out hb); clear hb)
    | (go_at_call 32; refine (CF.out _).mono ?_; rintro e w' ⟨rfl, rfl⟩)
    | (go_at_call 31; refine (CD.out _).mono ?_; rintro e w3 ⟨rfl, hb⟩; have KF3 := hid (KF2.out.below hb); have KZ3 := hid (KZ2.out.below hb); have R3 := hid (R2.out.below hb); have B3 := hid (bt B2.out hb); clear hb))
  clear c0 m0 m1 m2 m3 hfy B KF KT KZ R
  go_loopw [8] (fun v wr => v = .int .i64 f ∧ wr = w3) (fun _ _ => 0)
  case atStart => exact ⟨rfl, rfl⟩
  case round =>
    obtain ⟨rfl, rfl⟩ := hrel
    have m0 := KZ3.out.cell 0
    have m1 := KZ3.out.cell 1
    have m2 := KZ3.out.cell 2
    have m3 := KZ3.out.cell 3
    go_wp2_with (first
      | (go_at_call 30; refine (ZO.out _ B3.out).mono ?_; rintro e w4 ⟨rfl, hb⟩; have KF4 := hid (KF3.out.below hb); have KZ4 := hid (KZ3.out.below hb); have R4 := hid (R3.out.below hb); have B4 := hid (bt B3.out hb); clear hb m0 m1 m2 m3; have m0 := KZ4.out.cell 0; have m1 := KZ4.out.cell 1; have m2 := KZ4.out.cell 2; have m3 := KZ4.out.cell 3)
      | (go_at_call 33; refine (ZH.out _ B4.out).mono ?_; rintro e w5 ⟨rfl, hb⟩; have KF5 := hid (KF4.out.below hb); have R5 := hid (R4.out.below hb); have B5 := hid (bt B4.out hb); clear hb m0 m1 m2 m3)
      | (refine wpList_load_mid rfl 47 (.tmp 3) rfl w.heap.size 0 rfl (bcells 384 F).toList _ (L0.out _ _ KF5.out) U.out rfl N.out ?_)
      | (go_at_call 34; refine (CLO.out _).mono ?_; rintro e w6 ⟨hs, hb⟩; have R6 := hid (R5.out.below hb); have B6 := hid (bt B5.out hb); have f0 := R6.out.cell 0; have f1 := R6.out.cell 1; have z0 := R6.out.frozen 0; have z1 := R6.out.frozen 1; clear hb; rcases hs with ⟨l', rfl, hs⟩ | ⟨l', rfl, hs⟩; all_goals (have HS := hid hs; clear hs)))
    · rw [HW.out _ HS.out.1 HS.out.2.1]
      exact bodyPost_ret (results_row_tmp rfl _ _ (w.heap.size + 1 + 1 + 1) 26 _ (0, 0) _ rfl (show Blk _ _ _ (icells (l' - off) 0) from (R6.out.set 0 (.int .i64 (l' - off))).set 1 (.int .i64 0)) Try.underlying26 rfl (by kernel_rfl)) rfl ⟨.inl ⟨l', rfl, HS.out⟩, below_set2 B6.out (Nat.le_add_right _ 3) _ _⟩
    · exact bodyPost_ret (results_row_tmp rfl _ _ (w.heap.size + 1 + 1 + 1) 26 _ (0, 0) _ rfl (show Blk _ _ _ (icells 0 0) from (R6.out.set 0 (.int .i64 0)).set 1 (.int .i64 0)) Try.underlying26 rfl (by kernel_rfl)) rfl ⟨.inr ⟨rfl, HS.out⟩, below_set2 B6.out (Nat.le_add_right _ 3) _ _⟩
end Go.Proofs.Ytfmagbkcfeckhaa
