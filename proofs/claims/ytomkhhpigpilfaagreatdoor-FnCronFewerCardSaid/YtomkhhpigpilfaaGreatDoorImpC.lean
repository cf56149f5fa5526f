/- impl.ParseCron, of a text of words by a parser none of whose fields may be left away. Walked. -/
import Derived.Test.YtomkhhpigpilfaaGreatDoorParG
import Derived.Test.YtomkhhpigpilfaaGreatDoorRefS
import Derived.Recover
import Derived.Defers
import Derived.Laws.Pointers
set_option linter.unusedVariables false
set_option linter.unusedSimpArgs false
namespace Go.Proofs.YtomkhhpigpilfaaGreatDoor
open Go.RowKit

theorem newParserG (o x y : Int) (h128 : bits .and .i64 o 128 = x) (h2 : bits .and .i64 o 2 = y) (hxy : ¬ 0 < x ∨ ¬ 0 < y) (w : World) : Calls Tryz.prog 38 #[.int .i64 o] w fun e w' => e = .returned (.agg #[.int .i64 o]) ∧ Below w.heap.size w w' := by
  by_cases hx : 0 < x
  · have hy : ¬ 0 < y := hxy.resolve_left (fun h => h hx)
    clear hxy
    go_enter Tryz.func38, Tryz.ntmps38
    go_wp2_with fail
    go_returns
    exact ⟨rfl, by go_grown⟩
  · by_cases hy : 0 < y
    · clear hxy
      go_enter Tryz.func38, Tryz.ntmps38
      go_wp2_with fail
      go_returns
      exact ⟨rfl, by go_grown⟩
    · clear hxy
      go_enter Tryz.func38, Tryz.ntmps38
      go_wp2_with fail
      go_returns
      exact ⟨rfl, by go_grown⟩

theorem catch_idle (p : Addr) (w : World) :
    CallsD Tryz.prog 37 #[.pointer (some p)] .returning w fun e u' w' => e = .returned (.tuple #[]) ∧ u' = .returning ∧ w' = w := by
  refine callsD_of_wpS Tryz.func37 rfl fun c₀ cs hu => ?_
  apply wpS_seq
  apply wpS_region
  simp [wpOpsS, go_sem, recoverD, hu, Tryz.ntmps37, Exit.thenS]
  refine wpS_cond (t := false) (by simp [Act.eval, Array.replicate]) ?_
  simp only [Bool.false_eq_true, if_false]
  refine wpS_of_wp (wp_skip ?_)
  cases c₀
  simp_all [bodyPostS, results, Tryz.results37]

theorem parserG (o x y : Int) (h128 : bits .and .i64 o 128 = x) (h2 : bits .and .i64 o 2 = y) (hxy : ¬ 0 < x ∨ ¬ 0 < y) (w : World) : Calls Tryz.prog 23 #[.int .i64 o] w fun e w' => e = .returned (.tuple #[.agg #[.int .i64 o], .bool false]) ∧ Below w.heap.size w w' := by
  have hmf : ∀ (fn : Fn) (first cap : Array Value) (w : World), (Instr.makeFunc fn first cap).run Tryz.prog w = .ok (.func fn first cap) w := fun _ _ _ _ => rfl
  have HN := hid (newParserG o x y h128 h2 hxy)
  clear h128 h2 hxy
  have K0 := hid ((Blk.new w 56 #[.int .i64 0]).alloc (.cells #[.bool false] 4))
  have K1 := hid (Blk.new (w.alloc (.cells #[.int .i64 0] 56)) 4 #[.bool false])
  rw [World.size_alloc] at K1
  have B0 := hid (show Below w.heap.size w ((w.alloc (.cells #[.int .i64 0] 56)).alloc (.cells #[.bool false] 4)) by go_grown)
  go_enter_defers Tryz.func23, Tryz.ntmps23
  go_wp2_with (go_at_call 38; refine (HN.out _).mono ?_; rintro e w1 ⟨rfl, hb⟩; have K2 := hid (K0.out.below hb); have K3 := hid (K1.out.below hb); have B2 := hid (bt B0.out hb); have c0 : w1.cell? ⟨w.heap.size, 0, none⟩ = some (.int .i64 0) := K2.out.cell 0; have f0 : w1.frozen? ⟨w.heap.size, 0, none⟩ = false := K2.out.frozen 0; have c1 : w1.cell? ⟨w.heap.size + 1, 0, none⟩ = some (.bool false) := K3.out.cell 0; have f1 : w1.frozen? ⟨w.heap.size + 1, 0, none⟩ = false := K3.out.frozen 0; clear hb)
  have K4 := hid (Blk.oth (K2.out.set 0 (.int .i64 o)) (show w.heap.size ≠ w.heap.size + 1 by omega) 0 (.bool false))
  have K5 := hid ((Blk.oth K3.out (show w.heap.size + 1 ≠ w.heap.size by omega) 0 (.int .i64 o)).set 0 (.bool false))
  have B5 := hid (below_set (below_set B2.out (Nat.le_refl _) 0 (.int .i64 o)) (show w.heap.size ≤ w.heap.size + 1 by omega) 0 (.bool false))
  generalize ((w1.setCell ⟨w.heap.size, 0, none⟩ (.int .i64 o)).setCell ⟨w.heap.size + 1, 0, none⟩ (.bool false)) = w5 at K4 K5 B5 ⊢
  refine leaves_cons (f := 37) (args := #[.pointer (some ⟨w.heap.size + 1, 0, none⟩)]) (by simp) (by simp [go_sem]) ?_
  refine (catch_idle _ _).mono ?_
  rintro e u' w'' ⟨rfl, rfl, rfl⟩
  have l0 : (loadVar 56 ⟨w.heap.size, 0, none⟩).run Tryz.prog w'' = .ok (.agg #[.int .i64 o]) w'' := run_loadVar_row w'' w.heap.size 56 56 #[.int .i64 o] (0, 0) _ K4.out Tryz.underlying56 rfl (by kernel_rfl)
  have c2 : w''.cell? ⟨w.heap.size + 1, 0, none⟩ = some (.bool false) := K5.out.cell 0
  have c3 : w''.cell? ⟨w.heap.size, 0, none⟩ = some (.int .i64 o) := K4.out.cell 0
  simp [Leaves, settle, results, Tryz.results23, go_sem, c2, c3]
  exact B5.out

/-- A plain schedule's cells. -/
abbrev schN (n : Nat → Nat) : Array Value := #[.bool false, .int .i64 0, .int .u64 (n 0 : Int), .int .u64 (n 1 : Int), .int .u64 (n 2 : Int), .int .u64 (n 3 : Int), .int .u64 (n 4 : Int), .int .u64 (n 5 : Int)]
abbrev sch0 : Array Value := #[.bool false, .int .i64 0, .int .u64 0, .int .u64 0, .int .u64 0, .int .u64 0, .int .u64 0, .int .u64 0]
theorem set_v8 {w : World} {g : Nat} {t : TypeId} {x0 x1 x2 x3 x4 x5 x6 x7 : Value} (h : Blk w g t #[x0, x1, x2, x3, x4, x5, x6, x7]) (y0 y1 y2 y3 y4 y5 y6 y7 : Value) : Blk (w.setCells g 0 [y0, y1, y2, y3, y4, y5, y6, y7]) g t #[y0, y1, y2, y3, y4, y5, y6, y7] := by
  have hk := (((((((h.set 0 y0).set 1 y1).set 2 y2).set 3 y3).set 4 y4).set 5 y5).set 6 y6).set 7 y7
  simp only [List.setIfInBounds_toArray, List.set_cons_zero, List.set_cons_succ] at hk
  exact hk
theorem below_v8 {B : Nat} {w w1 : World} (h : Below B w w1) {g : Nat} (hg : B ≤ g) (y0 y1 y2 y3 y4 y5 y6 y7 : Value) : Below B w (w1.setCells g 0 [y0, y1, y2, y3, y4, y5, y6, y7]) :=
  below_set (below_set (below_set (below_set (below_set (below_set (below_set (below_set h hg 0 _) hg 1 _) hg 2 _) hg 3 _) hg 4 _) hg 5 _) hg 6 _) hg 7 _
theorem there_v8 {w : World} {g : Nat} {t : TypeId} {cs : Array Value} (h : Blk w g t cs) (n : Nat) (hn : n ≤ cs.size) : w.there g 0 n := fun j hj => by
  constructor
  · rw [Nat.zero_add, h.cell j, Array.getElem?_eq_getElem (by omega)]
    rfl
  · exact h.frozen _
theorem as_spec (v : Value) (xT : TypeId) (w : World) : (Instr.typeAssert (.iface 82 v) xT 82 true).run Tryz.prog w = .ok (.tuple #[v, .bool true]) w := by kernel_rfl

set_option maxHeartbeats 3200000 in
set_option maxRecDepth 100000 in
theorem plainS_yes (g : Nat) (n : Nat → Nat) (w : World) (hk : Blk w g 85 (scdN n)) :
    Calls Tryz.prog 24 #[.iface 82 (.pointer (some ⟨g, 0, none⟩)), .nilIface] w fun e w' => e = .returned (.tuple #[.agg (schN n), .bool true]) ∧ Below w.heap.size w w' := by
  have HK := hid (hk.alloc (.cells sch0 31))
  have R0 := hid (Blk.new w 31 sch0)
  have B0 := hid (show Below w.heap.size w (w.alloc (.cells sch0 31)) by go_grown)
  clear hk
  have hta := as_spec
  go_enter Tryz.func24, Tryz.ntmps24
  go_upto_region 6 with fail
  change Code.wp _ _ _ _ (w.alloc (.cells sch0 31))
  generalize (w.alloc (.cells sch0 31)) = w1 at HK R0 B0 ⊢
  have k0 : ∀ d os, (Go.Sort.grow (redrawn w1 d) os).cell? ⟨g, 0, none⟩ = some (.int .u64 (n 0 : Int)) := fun d os => (blk_gr HK.out d os).cell 0
  have k1 : ∀ d os, (Go.Sort.grow (redrawn w1 d) os).cell? ⟨g, 1, none⟩ = some (.int .u64 (n 1 : Int)) := fun d os => (blk_gr HK.out d os).cell 1
  have k2 : ∀ d os, (Go.Sort.grow (redrawn w1 d) os).cell? ⟨g, 2, none⟩ = some (.int .u64 (n 2 : Int)) := fun d os => (blk_gr HK.out d os).cell 2
  have k3 : ∀ d os, (Go.Sort.grow (redrawn w1 d) os).cell? ⟨g, 3, none⟩ = some (.int .u64 (n 3 : Int)) := fun d os => (blk_gr HK.out d os).cell 3
  have k4 : ∀ d os, (Go.Sort.grow (redrawn w1 d) os).cell? ⟨g, 4, none⟩ = some (.int .u64 (n 4 : Int)) := fun d os => (blk_gr HK.out d os).cell 4
  have k5 : ∀ d os, (Go.Sort.grow (redrawn w1 d) os).cell? ⟨g, 5, none⟩ = some (.int .u64 (n 5 : Int)) := fun d os => (blk_gr HK.out d os).cell 5
  refine wp_region_tail_below 25 (by kernel_rfl) (by kernel_rfl) ?_
  show wpQuiet _ _ _ _ [_, _, _, _, _, _, _, _, _, _, _, _, _, _, _, _, _, _, _, _, _, _, _, _, _] _
  repeat (go_big_quiet_step (fail))
  refine wpQuiet_nil ?_
  intro _ hw'
  obtain ⟨⟨dq, osq⟩, hw''⟩ := hw'
  subst hw''
  have R1 := hid (blk_gr R0.out dq osq)
  have B1 := hid (bt B0.out (below_regrown w1 dq osq))
  have T1 := hid (there_v8 R1.out 8 (Nat.le_refl 8))
  clear k0 k1 k2 k3 k4 k5 R0 B0 HK
  generalize Go.Sort.grow (redrawn w1 dq) osq = w2 at R1 B1 T1 ⊢
  show wpList _ _ _ [_, _] _ _
  refine wpList_store_mid rfl 31 (.tmp 4) (.tmp 39) rfl w.heap.size 0 (schN n) (by rfl) (by rfl) T1.out (by kernel_rfl) (by simp [Value.oneCell']) ?_
  have R2 := hid (show Blk (w2.setCells w.heap.size 0 (schN n).toList) w.heap.size 31 (schN n) from set_v8 R1.out _ _ _ _ _ _ _ _)
  have B2 := hid (show Below w.heap.size w (w2.setCells w.heap.size 0 (schN n).toList) from below_v8 B1.out (Nat.le_refl _) _ _ _ _ _ _ _ _)
  clear R1 B1 T1
  generalize w2.setCells w.heap.size 0 (schN n).toList = w3 at R2 B2 ⊢
  go_wp2_with fail
  exact bodyPost_ret (results_row_tmp rfl _ _ w.heap.size 31 _ (0, 0) _ rfl R2.out Tryz.underlying31 rfl (by kernel_rfl)) rfl ⟨rfl, B2.out⟩
set_option maxRecDepth 100000 in
theorem plainS_no (t : TypeId) (p : Value) (w : World) :
    Calls Tryz.prog 24 #[.nilIface, .iface t p] w fun e w' => e = .returned (.tuple #[.agg sch0, .bool false]) ∧ Below w.heap.size w w' := by
  have R0 := hid (Blk.new w 31 sch0)
  have B0 := hid (show Below w.heap.size w (w.alloc (.cells sch0 31)) by go_grown)
  go_enter Tryz.func24, Tryz.ntmps24
  go_upto_region 2 with fail
  change Code.wp _ _ _ _ (w.alloc (.cells sch0 31))
  generalize (w.alloc (.cells sch0 31)) = w1 at R0 B0 ⊢
  have T1 := hid (there_v8 R0.out 8 (Nat.le_refl 8))
  go_wp2_with (refine wpList_store_mid rfl 31 (.tmp 4) (.tmp 10) rfl w.heap.size 0 sch0 (by rfl) (by rfl) T1.out (by kernel_rfl) (by simp [Value.oneCell']) ?_; have R2 := hid (show Blk (w1.setCells w.heap.size 0 sch0.toList) w.heap.size 31 sch0 from set_v8 R0.out _ _ _ _ _ _ _ _); have B2 := hid (show Below w.heap.size w (w1.setCells w.heap.size 0 sch0.toList) from below_v8 B0.out (Nat.le_refl _) _ _ _ _ _ _ _ _); generalize w1.setCells w.heap.size 0 sch0.toList = w3 at R2 B2 ⊢)
  exact bodyPost_ret (results_row_tmp rfl _ _ w.heap.size 31 _ (0, 0) _ rfl R2.out Tryz.underlying31 rfl (by kernel_rfl)) rfl ⟨rfl, B2.out⟩

/-- What ParseCron answers where the fields mean r. -/
def ParsedAs (r : Nat → Option Nat) (e : Ending) : Prop :=
  (∃ n : Nat → Nat, (∀ i, i < 6 → r i = some (n i)) ∧ e = .returned (.tuple #[.agg (schN n), .bool true])) ∨ ((∃ i, i < 6 ∧ r i = none) ∧ e = .returned (.tuple #[.agg sch0, .bool false]))
theorem retS_yes {r : Nat → Option Nat} {e : Ending} {w : World} (h : RetS r e w) (hr : ∀ i, i < 6 → r i ≠ none) : ∃ n : Nat → Nat, (∀ i, i < 6 → r i = some (n i)) ∧ ∃ g, e = .returned (.tuple #[.iface 82 (.pointer (some ⟨g, 0, none⟩)), .nilIface]) ∧ Blk w g 85 (scdN n) :=
  h.elim (fun h => h) (fun ⟨⟨i, h1, h2⟩, _⟩ => absurd h2 (hr i h1))
theorem retS_no {r : Nat → Option Nat} {e : Ending} {w : World} (h : RetS r e w) (hr : ∃ i, i < 6 ∧ r i = none) : ∃ (t : TypeId) (p : Value), e = .returned (.tuple #[.nilIface, .iface t p]) :=
  h.elim (fun ⟨n, h, _⟩ => by obtain ⟨i, h1, h2⟩ := hr; rw [h i h1] at h2; cases h2) (fun ⟨_, h⟩ => h)
set_option maxHeartbeats 3200000 in
set_option maxRecDepth 100000 in
theorem implParseG (s : ByteArray) (o x y : Int) (h128 : bits .and .i64 o 128 = x) (h2 : bits .and .i64 o 2 = y) (hxy : ¬ 0 < x ∨ ¬ 0 < y) (r : Nat → Option Nat) (w : World)
    (HP : ∀ W, Below w.heap.size w W → Calls Tryz.prog 25 #[.agg #[.int .i64 o], .string s] W fun e w' => RetS r e w' ∧ Below W.heap.size W w') :
    Calls Tryz.prog 10 #[.int .i64 o, .string s] w fun e w' => ParsedAs r e ∧ Below w.heap.size w w' := by
  have HN := hid (parserG o x y h128 h2 hxy)
  clear h128 h2 hxy
  have R0 := hid (Blk.new w 31 sch0)
  have B0 := hid (show Below w.heap.size w (w.alloc (.cells sch0 31)) by go_grown)
  by_cases hr : ∃ i, i < 6 ∧ r i = none
  · have HQ := hid (fun W hW => (HP W hW).mono fun e w' h => And.intro (retS_no h.1 hr) h.2)
    replace hr := hid hr
    clear HP
    go_enter Tryz.func10, Tryz.ntmps10
    go_upto_region 1 with fail
    change Code.wp _ _ _ _ (w.alloc (.cells sch0 31))
    generalize (w.alloc (.cells sch0 31)) = w1 at R0 B0 ⊢
    go_upto_region 4 with (go_at_call 23; refine (HN.out _).mono ?_; rintro e w2 ⟨rfl, hb⟩; have R1 := hid (R0.out.below hb); have B1 := hid (bt B0.out hb); clear hb)
    have R2 := hid (R1.out.alloc (.cells #[.int .i64 o] 56))
    have P2 := hid (Blk.new w2 56 #[.int .i64 o])
    have B2 := hid (bt B1.out (show Below w2.heap.size w2 (w2.alloc (.cells #[.int .i64 o] 56)) by go_grown))
    obtain ⟨pb, hpb⟩ : ∃ pb, w2.heap.size = pb := ⟨_, rfl⟩
    rw [hpb] at P2 ⊢
    clear hpb R1 B1
    generalize (w2.alloc (.cells #[.int .i64 o] 56)) = w3 at R2 P2 B2 ⊢
    have p0 : w3.cell? ⟨pb, 0, none⟩ = some (.int .i64 o) := P2.out.cell 0
    have CP := hid (HQ.out w3 B2.out)
    go_wp2_with (first
      | (go_at_call 25; refine CP.out.mono ?_; rintro e w4 ⟨⟨tt, pp, rfl⟩, hb⟩; have R3 := hid (R2.out.below hb); have B3 := hid (bt B2.out hb); clear hb)
      | (go_at_call 24; refine (plainS_no tt pp _).mono ?_; rintro e w5 ⟨rfl, hb⟩; have R4 := hid (R3.out.below hb); have B4 := hid (bt B3.out hb); have T4 := hid (there_v8 R4.out 8 (Nat.le_refl 8)); clear hb)
      | (refine wpList_store_mid rfl 31 (.tmp 4) (.tmp 21) rfl w.heap.size 0 sch0 (by rfl) (by rfl) T4.out (by kernel_rfl) (by simp [Value.oneCell']) ?_; have R5 := hid (show Blk (w5.setCells w.heap.size 0 sch0.toList) w.heap.size 31 sch0 from set_v8 R4.out _ _ _ _ _ _ _ _); have B5 := hid (show Below w.heap.size w (w5.setCells w.heap.size 0 sch0.toList) from below_v8 B4.out (Nat.le_refl _) _ _ _ _ _ _ _ _); generalize w5.setCells w.heap.size 0 sch0.toList = w6 at R5 B5 ⊢))
    exact bodyPost_ret (results_row_tmp rfl _ _ w.heap.size 31 _ (0, 0) _ rfl R5.out Tryz.underlying31 rfl (by kernel_rfl)) rfl ⟨.inr ⟨hr.out, rfl⟩, B5.out⟩
  · have hr2 : ∀ i, i < 6 → r i ≠ none := fun i h1 h2 => hr ⟨i, h1, h2⟩
    have HQ := hid (fun W hW => (HP W hW).mono fun e w' h => And.intro (retS_yes h.1 hr2) h.2)
    clear HP hr hr2
    go_enter Tryz.func10, Tryz.ntmps10
    go_upto_region 1 with fail
    change Code.wp _ _ _ _ (w.alloc (.cells sch0 31))
    generalize (w.alloc (.cells sch0 31)) = w1 at R0 B0 ⊢
    go_upto_region 4 with (go_at_call 23; refine (HN.out _).mono ?_; rintro e w2 ⟨rfl, hb⟩; have R1 := hid (R0.out.below hb); have B1 := hid (bt B0.out hb); clear hb)
    have R2 := hid (R1.out.alloc (.cells #[.int .i64 o] 56))
    have P2 := hid (Blk.new w2 56 #[.int .i64 o])
    have B2 := hid (bt B1.out (show Below w2.heap.size w2 (w2.alloc (.cells #[.int .i64 o] 56)) by go_grown))
    obtain ⟨pb, hpb⟩ : ∃ pb, w2.heap.size = pb := ⟨_, rfl⟩
    rw [hpb] at P2 ⊢
    clear hpb R1 B1
    generalize (w2.alloc (.cells #[.int .i64 o] 56)) = w3 at R2 P2 B2 ⊢
    have p0 : w3.cell? ⟨pb, 0, none⟩ = some (.int .i64 o) := P2.out.cell 0
    have CP := hid (HQ.out w3 B2.out)
    go_wp2_with (first
      | (go_at_call 25; refine CP.out.mono ?_; rintro e w4 ⟨⟨n, hn, g, rfl, hg⟩, hb⟩; have HNN := hid hn; have HG := hid hg; have R3 := hid (R2.out.below hb); have B3 := hid (bt B2.out hb); clear hb hn hg)
      | (go_at_call 24; refine (plainS_yes g n _ HG.out).mono ?_; rintro e w5 ⟨rfl, hb⟩; have R4 := hid (R3.out.below hb); have B4 := hid (bt B3.out hb); have T4 := hid (there_v8 R4.out 8 (Nat.le_refl 8)); clear hb)
      | (refine wpList_store_mid rfl 31 (.tmp 4) (.tmp 21) rfl w.heap.size 0 (schN n) (by rfl) (by rfl) T4.out (by kernel_rfl) (by simp [Value.oneCell']) ?_; have R5 := hid (show Blk (w5.setCells w.heap.size 0 (schN n).toList) w.heap.size 31 (schN n) from set_v8 R4.out _ _ _ _ _ _ _ _); have B5 := hid (show Below w.heap.size w (w5.setCells w.heap.size 0 (schN n).toList) from below_v8 B4.out (Nat.le_refl _) _ _ _ _ _ _ _ _); generalize w5.setCells w.heap.size 0 (schN n).toList = w6 at R5 B5 ⊢))
    exact bodyPost_ret (results_row_tmp rfl _ _ w.heap.size 31 _ (0, 0) _ rfl R5.out Tryz.underlying31 rfl (by kernel_rfl)) rfl ⟨.inl ⟨n, HNN.out, rfl⟩, B5.out⟩
end Go.Proofs.YtomkhhpigpilfaaGreatDoor
