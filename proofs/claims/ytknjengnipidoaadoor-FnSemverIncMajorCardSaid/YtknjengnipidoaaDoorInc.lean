/- The next major version: the package's IncMajor, the thin package's copies, the reference's. Walked. -/
import Derived.Test.YtknjengnipidoaaDoorText
import Derived.Test.YtknjengnipidoaaDoorQTail
import Derived.Deep.MidRow
import Derived.Deep.DeepCutAuto
set_option linter.unusedVariables false
set_option linter.unusedSimpArgs false
namespace Go.Proofs.YtknjengnipidoaaDoor
open Go.RowKit

theorem there_blk {w : World} {g : Nat} {t : TypeId} {cs : Array Value} (h : Blk w g t cs) (n : Nat) (hn : n ≤ cs.size) : w.there g 0 n := fun j hj => by
  constructor
  · rw [Nat.zero_add, h.cell j, Array.getElem?_eq_getElem (by omega)]
    rfl
  · exact h.frozen _
theorem range_blk {w : World} {g : Nat} {t : TypeId} {cs : Array Value} (h : Blk w g t cs) : w.rangeAt g 0 cs.toList := fun j v hj => by
  rw [Nat.zero_add, h.cell j]
  simpa using hj
theorem Blk.other {w : World} {g h : Nat} {t : TypeId} {cs : Array Value} (hb : Blk w g t cs) (hne : g ≠ h) (i : Nat) (u : Value) : Blk (w.setCell ⟨h, i, none⟩ u) g t cs := by
  unfold Blk at hb ⊢
  simp [World.setCell, Array.getElem?_modify, hb, Ne.symm hne]
/-- A version of the package with whatever original text. -/
abbrev ocells (a b c : Int) (p m o : ByteArray) : Array Value := #[.int .u64 a, .int .u64 b, .int .u64 c, .string p, .string m, .string o]
theorem set5_blk {w : World} {g : Nat} {t : TypeId} {cs : Array Value} (h : Blk w g t cs) (hs : cs.size = 5) (a b c : Int) (p m : ByteArray) : Blk (w.setCells g 0 (scells a b c p m).toList) g t (scells a b c p m) := by
  match cs, hs with
  | ⟨[x0, x1, x2, x3, x4]⟩, _ => exact ((((h.set 0 _).set 1 _).set 2 _).set 3 _).set 4 _
theorem set6_blk {w : World} {g : Nat} {t : TypeId} {cs : Array Value} (h : Blk w g t cs) (hs : cs.size = 6) (a b c : Int) (p m o : ByteArray) : Blk (w.setCells g 0 (ocells a b c p m o).toList) g t (ocells a b c p m o) := by
  match cs, hs with
  | ⟨[x0, x1, x2, x3, x4, x5]⟩, _ => exact (((((h.set 0 _).set 1 _).set 2 _).set 3 _).set 4 _).set 5 _
theorem set5_below {B : Nat} {w w1 : World} (h : Below B w w1) {g : Nat} (hg : B ≤ g) (a b c : Int) (p m : ByteArray) : Below B w (w1.setCells g 0 (scells a b c p m).toList) :=
  below_set (below_set (below_set (below_set (below_set h hg 0 _) hg 1 _) hg 2 _) hg 3 _) hg 4 _
theorem set6_below {B : Nat} {w w1 : World} (h : Below B w w1) {g : Nat} (hg : B ≤ g) (a b c : Int) (p m o : ByteArray) : Below B w (w1.setCells g 0 (ocells a b c p m o).toList) :=
  below_set (below_set (below_set (below_set (below_set (below_set h hg 0 _) hg 1 _) hg 2 _) hg 3 _) hg 4 _) hg 5 _

theorem omajor_any (a b c : Int) (p m o : ByteArray) (w : World) : Calls Tryd.prog 37 #[.agg (ocells a b c p m o)] w fun e w' => e = .returned (.int .u64 a) ∧ Below w.heap.size w w' := by
  go_enter Tryd.func37, Tryd.ntmps37
  go_wp2_with fail
  go_ret
  exact ⟨rfl, by go_grown⟩

theorem ominor_any (a b c : Int) (p m o : ByteArray) (w : World) : Calls Tryd.prog 38 #[.agg (ocells a b c p m o)] w fun e w' => e = .returned (.int .u64 b) ∧ Below w.heap.size w w' := by
  go_enter Tryd.func38, Tryd.ntmps38
  go_wp2_with fail
  go_ret
  exact ⟨rfl, by go_grown⟩

theorem opatch_any (a b c : Int) (p m o : ByteArray) (w : World) : Calls Tryd.prog 39 #[.agg (ocells a b c p m o)] w fun e w' => e = .returned (.int .u64 c) ∧ Below w.heap.size w w' := by
  go_enter Tryd.func39, Tryd.ntmps39
  go_wp2_with fail
  go_ret
  exact ⟨rfl, by go_grown⟩

theorem opre_any (a b c : Int) (p m o : ByteArray) (w : World) : Calls Tryd.prog 40 #[.agg (ocells a b c p m o)] w fun e w' => e = .returned (.string p) ∧ Below w.heap.size w w' := by
  go_enter Tryd.func40, Tryd.ntmps40
  go_wp2_with fail
  go_ret
  exact ⟨rfl, by go_grown⟩

theorem ometa_any (a b c : Int) (p m o : ByteArray) (w : World) : Calls Tryd.prog 41 #[.agg (ocells a b c p m o)] w fun e w' => e = .returned (.string m) ∧ Below w.heap.size w w' := by
  go_enter Tryd.func41, Tryd.ntmps41
  go_wp2_with fail
  go_ret
  exact ⟨rfl, by go_grown⟩

theorem prefix_any (a b c : Int) (p m : ByteArray) (w : World) : Calls Tryd.prog 36 #[.agg (vcells a b c p m)] w fun e w' => e = .returned (.string ByteArray.empty) ∧ Below w.heap.size w w' := by
  go_enter Tryd.func36, Tryd.ntmps36
  go_wp2_with fail
  go_ret
  exact ⟨rfl, by go_grown⟩

set_option maxHeartbeats 1600000 in
set_option maxRecDepth 100000 in
theorem plain_any (g : Nat) (a b c : Int) (p m o : ByteArray) (w : World) (hg : Blk w g 43 (ocells a b c p m o)) : Calls Tryd.prog 27 #[.pointer (some ⟨g, 0, none⟩)] w fun e w' => e = .returned (.agg (scells a b c p m)) ∧ Below w.heap.size w w' := by
  have Q := hid (hg.alloc (.cells (scells 0 0 0 ⟨#[]⟩ ⟨#[]⟩) 27))
  have R := hid (Blk.new w 27 (scells 0 0 0 ⟨#[]⟩ ⟨#[]⟩))
  have B := hid (show Below w.heap.size w (w.alloc (.cells (scells 0 0 0 ⟨#[]⟩ ⟨#[]⟩) 27)) from (Below.refl _ _).alloc (Nat.le_refl _) _)
  clear hg
  go_enter Tryd.func27, Tryd.ntmps27
  go_wp2_with fail
  generalize (w.alloc (.cells (scells 0 0 0 ⟨#[]⟩ ⟨#[]⟩) 27)) = w1 at Q R B ⊢
  have k0 : ∀ d os, (Go.Sort.grow (redrawn w1 d) os).cell? ⟨g, 0, none⟩ = some (.int .u64 a) := fun d os => (blk_gr Q.out d os).cell 0
  have k1 : ∀ d os, (Go.Sort.grow (redrawn w1 d) os).cell? ⟨g, 1, none⟩ = some (.int .u64 b) := fun d os => (blk_gr Q.out d os).cell 1
  have k2 : ∀ d os, (Go.Sort.grow (redrawn w1 d) os).cell? ⟨g, 2, none⟩ = some (.int .u64 c) := fun d os => (blk_gr Q.out d os).cell 2
  have k3 : ∀ d os, (Go.Sort.grow (redrawn w1 d) os).cell? ⟨g, 3, none⟩ = some (.string p) := fun d os => (blk_gr Q.out d os).cell 3
  have k4 : ∀ d os, (Go.Sort.grow (redrawn w1 d) os).cell? ⟨g, 4, none⟩ = some (.string m) := fun d os => (blk_gr Q.out d os).cell 4
  have k5 : ∀ d os, (Go.Sort.grow (redrawn w1 d) os).cell? ⟨g, 5, none⟩ = some (.string o) := fun d os => (blk_gr Q.out d os).cell 5
  have CA := hid (fun d os => Calls.regrown_of (omajor_any a b c p m o (Go.Sort.grow (redrawn w1 d) os)))
  have CB := hid (fun d os => Calls.regrown_of (ominor_any a b c p m o (Go.Sort.grow (redrawn w1 d) os)))
  have CC := hid (fun d os => Calls.regrown_of (opatch_any a b c p m o (Go.Sort.grow (redrawn w1 d) os)))
  have CP := hid (fun d os => Calls.regrown_of (opre_any a b c p m o (Go.Sort.grow (redrawn w1 d) os)))
  have CM := hid (fun d os => Calls.regrown_of (ometa_any a b c p m o (Go.Sort.grow (redrawn w1 d) os)))
  refine wp_region_tail_below 21 (by kernel_rfl) (by kernel_rfl) ?_
  show wpQuiet _ _ _ _ [_, _, _, _, _, _, _, _, _, _, _, _, _, _, _, _, _, _, _, _, _] _
  repeat (go_big_quiet_step ((first | (go_at_call 37; exact CA.out _ _) | (go_at_call 38; exact CB.out _ _) | (go_at_call 39; exact CC.out _ _) | (go_at_call 40; exact CP.out _ _) | (go_at_call 41; exact CM.out _ _) | fail)))
  refine wpQuiet_nil ?_
  intro _ hw'
  obtain ⟨⟨dq, osq⟩, hw''⟩ := hw'
  subst hw''
  have R2 := hid (blk_gr R.out dq osq)
  have B2 := hid (btx B.out (below_regrown w1 dq osq))
  generalize Go.Sort.grow (redrawn w1 dq) osq = w2 at R2 B2 ⊢
  show wpList _ _ _ [_] _ _
  have t0 : w2.there w.heap.size 0 5 := there_blk R2.out 5 (Nat.le_refl 5)
  have R3 := hid (set5_blk R2.out rfl a b c p m)
  have B3 := hid (set5_below B2.out (Nat.le_refl _) a b c p m)
  refine wpList_store_mid rfl 27 (.tmp 2) (.tmp 23) rfl w.heap.size 0 (scells a b c p m) (by rfl) (by rfl) t0 (by kernel_rfl) (by simp [Value.oneCell']) ?_
  generalize w2.setCells w.heap.size 0 (scells a b c p m).toList = w3 at R3 B3 ⊢
  refine wpList_nil ?_
  go_wp2_with fail
  refine bodyPost_ret (results_cell_row rfl _ _ w.heap.size 27 _ (0, 0) _ rfl R3.out Tryd.underlying27 rfl (by kernel_rfl)) rfl ⟨rfl, B3.out⟩

theorem txt_bare (X Y Z : ByteArray) : txt X Y Z ByteArray.empty ByteArray.empty = X ++ ⟨#[46]⟩ ++ Y ++ ⟨#[46]⟩ ++ Z := by
  have e : ByteArray.empty.toList.isEmpty = true := by rw [ByteArray.toList_eq]; rfl
  simp only [txt, e, if_true]

set_option maxHeartbeats 3200000 in
set_option maxRecDepth 100000 in
theorem inc_any (a n : Nat) (b c : Int) (p m : ByteArray) (w : World) (hn : a + 1 = n) (hlt : n < 18446744073709551616) (ht : Tab w) : Calls Tryd.prog 26 #[.agg (vcells a b c p m)] w fun e w' =>
    (∃ o, e = .returned (.agg (ocells n 0 0 ByteArray.empty ByteArray.empty o))) ∧ Below w.heap.size w w' := by
  have hw : IntKind.u64.wrap ((a : Int) + 1) = (n : Int) := by rw [IntWalk.u64_in _ (by omega)]; omega
  have hne : ((a : Int) == 18446744073709551615) = false := by rw [beq_eq_false_iff_ne]; omega
  have hz := dec_size n hlt
  have hz0 := dec_size 0 (by omega)
  have HS := hid (fun w ht => string_any n 0 0 ByteArray.empty ByteArray.empty w hlt (by omega) (by omega) (by show 0 ≤ _; omega) (by show 0 ≤ _; omega) ht)
  obtain ⟨T, hT⟩ : ∃ T, txt (dec n) (dec 0) (dec 0) ByteArray.empty ByteArray.empty = T := ⟨_, rfl⟩
  have hTz : T.size ≤ 1000 := by
    rw [← hT, txt_bare]
    simp only [ByteArray.size_append]
    show (dec n).size + 1 + (dec 0).size + 1 + (dec 0).size ≤ 1000
    omega
  rw [hT] at HS
  have cT : ¬ 9223372036854775807 < T.size := by omega
  have HT := hid ht
  clear ht hz hz0 hlt hn hTz hT
  have QA := hid (show Blk (((w.alloc (.cells (vcells a b c p m) 43)).alloc (.cells (ocells 0 0 0 ⟨#[]⟩ ⟨#[]⟩ ⟨#[]⟩) 43)).alloc (.cells (ocells n 0 0 ⟨#[]⟩ ⟨#[]⟩ ByteArray.empty) 43)) w.heap.size 43 (vcells a b c p m) from ((Blk.new w _ _).alloc _).alloc _)
  have QB := hid (show Blk (((w.alloc (.cells (vcells a b c p m) 43)).alloc (.cells (ocells 0 0 0 ⟨#[]⟩ ⟨#[]⟩ ⟨#[]⟩) 43)).alloc (.cells (ocells n 0 0 ⟨#[]⟩ ⟨#[]⟩ ByteArray.empty) 43)) (w.heap.size + 1) 43 (ocells 0 0 0 ⟨#[]⟩ ⟨#[]⟩ ⟨#[]⟩) by
    have := Blk.new (w.alloc (.cells (vcells a b c p m) 43)) 43 (ocells 0 0 0 ⟨#[]⟩ ⟨#[]⟩ ⟨#[]⟩)
    rw [World.size_alloc] at this
    exact this.alloc _)
  have QC := hid (show Blk (((w.alloc (.cells (vcells a b c p m) 43)).alloc (.cells (ocells 0 0 0 ⟨#[]⟩ ⟨#[]⟩ ⟨#[]⟩) 43)).alloc (.cells (ocells n 0 0 ⟨#[]⟩ ⟨#[]⟩ ByteArray.empty) 43)) (w.heap.size + 1 + 1) 43 (ocells n 0 0 ⟨#[]⟩ ⟨#[]⟩ ByteArray.empty) by
    have := Blk.new ((w.alloc (.cells (vcells a b c p m) 43)).alloc (.cells (ocells 0 0 0 ⟨#[]⟩ ⟨#[]⟩ ⟨#[]⟩) 43)) 43 (ocells n 0 0 ⟨#[]⟩ ⟨#[]⟩ ByteArray.empty)
    rw [World.size_alloc, World.size_alloc] at this
    exact this)
  have B := hid (show Below w.heap.size w (((w.alloc (.cells (vcells a b c p m) 43)).alloc (.cells (ocells 0 0 0 ⟨#[]⟩ ⟨#[]⟩ ⟨#[]⟩) 43)).alloc (.cells (ocells n 0 0 ⟨#[]⟩ ⟨#[]⟩ ByteArray.empty) 43)) by go_grown)
  go_enter Tryd.func26, Tryd.ntmps26
  go_wp2_with fail
  generalize (((w.alloc (.cells (vcells a b c p m) 43)).alloc (.cells (ocells 0 0 0 ⟨#[]⟩ ⟨#[]⟩ ⟨#[]⟩) 43)).alloc (.cells (ocells n 0 0 ⟨#[]⟩ ⟨#[]⟩ ByteArray.empty) 43)) = w1 at QA QB QC B ⊢
  have HT1 := hid (tab_below HT.out B.out)
  have a0 : ∀ d os, (Go.Sort.grow (redrawn w1 d) os).cell? ⟨w.heap.size, 0, none⟩ = some (.int .u64 a) := fun d os => (blk_gr QA.out d os).cell 0
  have a1 : ∀ d os, (Go.Sort.grow (redrawn w1 d) os).cell? ⟨w.heap.size, 1, none⟩ = some (.int .u64 b) := fun d os => (blk_gr QA.out d os).cell 1
  have a2 : ∀ d os, (Go.Sort.grow (redrawn w1 d) os).cell? ⟨w.heap.size, 2, none⟩ = some (.int .u64 c) := fun d os => (blk_gr QA.out d os).cell 2
  have a3 : ∀ d os, (Go.Sort.grow (redrawn w1 d) os).cell? ⟨w.heap.size, 3, none⟩ = some (.string p) := fun d os => (blk_gr QA.out d os).cell 3
  have a4 : ∀ d os, (Go.Sort.grow (redrawn w1 d) os).cell? ⟨w.heap.size, 4, none⟩ = some (.string m) := fun d os => (blk_gr QA.out d os).cell 4
  have a5 : ∀ d os, (Go.Sort.grow (redrawn w1 d) os).cell? ⟨w.heap.size, 5, none⟩ = some (.string ByteArray.empty) := fun d os => (blk_gr QA.out d os).cell 5
  have c0 : ∀ d os, (Go.Sort.grow (redrawn w1 d) os).cell? ⟨w.heap.size + 1 + 1, 0, none⟩ = some (.int .u64 n) := fun d os => (blk_gr QC.out d os).cell 0
  have c1 : ∀ d os, (Go.Sort.grow (redrawn w1 d) os).cell? ⟨w.heap.size + 1 + 1, 1, none⟩ = some (.int .u64 0) := fun d os => (blk_gr QC.out d os).cell 1
  have c2 : ∀ d os, (Go.Sort.grow (redrawn w1 d) os).cell? ⟨w.heap.size + 1 + 1, 2, none⟩ = some (.int .u64 0) := fun d os => (blk_gr QC.out d os).cell 2
  have c3 : ∀ d os, (Go.Sort.grow (redrawn w1 d) os).cell? ⟨w.heap.size + 1 + 1, 3, none⟩ = some (.string ⟨#[]⟩) := fun d os => (blk_gr QC.out d os).cell 3
  have c4 : ∀ d os, (Go.Sort.grow (redrawn w1 d) os).cell? ⟨w.heap.size + 1 + 1, 4, none⟩ = some (.string ⟨#[]⟩) := fun d os => (blk_gr QC.out d os).cell 4
  have c5 : ∀ d os, (Go.Sort.grow (redrawn w1 d) os).cell? ⟨w.heap.size + 1 + 1, 5, none⟩ = some (.string ByteArray.empty) := fun d os => (blk_gr QC.out d os).cell 5
  have C1 := hid (fun d os => Calls.regrown_of (prefix_any a b c p m (Go.Sort.grow (redrawn w1 d) os)))
  have C2 := hid (fun d os => Calls.regrown_of (HS.out (Go.Sort.grow (redrawn w1 d) os) (tab_below HT1.out (below_regrown w1 d os))))
  refine wp_region_tail_below 7 (by kernel_rfl) (by kernel_rfl) ?_
  show wpQuiet _ _ _ _ [_, _, _, _, _, _, _] _
  repeat (go_big_quiet_step ((first | (go_at_call 36; exact C1.out _ _) | (go_at_call 23; exact C2.out _ _) | fail)))
  refine wpQuiet_nil ?_
  intro _ hw'
  obtain ⟨⟨dq, osq⟩, hw''⟩ := hw'
  subst hw''
  have QB2 := hid (blk_gr QB.out dq osq)
  have QC2 := hid (blk_gr QC.out dq osq)
  have B2 := hid (btx B.out (below_regrown w1 dq osq))
  generalize Go.Sort.grow (redrawn w1 dq) osq = w2 at QB2 QC2 B2 ⊢
  show wpList _ _ _ [_] _ _
  have d5 : w2.cell? ⟨w.heap.size + 1 + 1, 5, none⟩ = some (.string ByteArray.empty) := QC2.out.cell 5
  have f5 : w2.frozen? ⟨w.heap.size + 1 + 1, 5, none⟩ = false := QC2.out.frozen 5
  have QC3 := hid (QC2.out.set 5 (.string (⟨#[]⟩ ++ T)))
  have QB3 := hid (QB2.out.other (h := w.heap.size + 1 + 1) (by omega) 5 (.string (⟨#[]⟩ ++ T)))
  have B3 := hid (below_set (g := w.heap.size + 1 + 1) B2.out (by omega) 5 (.string (⟨#[]⟩ ++ T)))
  go_upto_region 10 with fail
  generalize (w2.setCell ⟨w.heap.size + 1 + 1, 5, none⟩ (.string (⟨#[]⟩ ++ T))) = w3 at QB3 QC3 B3 ⊢
  have r3 : w3.rangeAt (w.heap.size + 1 + 1) 0 (ocells n 0 0 ⟨#[]⟩ ⟨#[]⟩ (⟨#[]⟩ ++ T)).toList := range_blk QC3.out
  have t3 : w3.there (w.heap.size + 1) 0 6 := there_blk QB3.out 6 (Nat.le_refl 6)
  have R4 := hid (set6_blk QB3.out rfl n 0 0 ⟨#[]⟩ ⟨#[]⟩ (⟨#[]⟩ ++ T))
  have B4 := hid (set6_below (g := w.heap.size + 1) B3.out (by omega) n 0 0 ⟨#[]⟩ ⟨#[]⟩ (⟨#[]⟩ ++ T))
  refine wp_region_lit ?_
  refine wpList_load_mid rfl 43 (.tmp 3) rfl (w.heap.size + 1 + 1) 0 (by rfl) (ocells n 0 0 ⟨#[]⟩ ⟨#[]⟩ (⟨#[]⟩ ++ T)).toList _ r3 Tryd.underlying43 (by rfl) (by kernel_rfl) ?_
  refine wpList_store_mid rfl 43 (.tmp 2) (.tmp 24) rfl (w.heap.size + 1) 0 (ocells n 0 0 ⟨#[]⟩ ⟨#[]⟩ (⟨#[]⟩ ++ T)) (by rfl) (by rfl) t3 (by kernel_rfl) (by simp [Value.oneCell']) ?_
  refine wpList_nil ?_
  rename_i hK2
  refine hK2 _ _ ?_
  generalize w3.setCells (w.heap.size + 1) 0 (ocells n 0 0 ⟨#[]⟩ ⟨#[]⟩ (⟨#[]⟩ ++ T)).toList = w4 at R4 B4 ⊢
  go_wp2_with fail
  refine bodyPost_ret (results_cell_row rfl _ _ (w.heap.size + 1) 43 _ (0, 0) _ rfl R4.out Tryd.underlying43 rfl (by kernel_rfl)) rfl ⟨⟨_, rfl⟩, B4.out⟩

theorem specInc_any (a n : Nat) (b c : Int) (p m : ByteArray) (w : World) (hn : a + 1 = n) (hlt : n < 18446744073709551616) : Calls Tryd.prog 16 #[.agg (scells a b c p m)] w fun e w' =>
    e = .returned (.agg (scells n 0 0 ByteArray.empty ByteArray.empty)) ∧ Below w.heap.size w w' := by
  have hw : IntKind.u64.wrap ((a : Int) + 1) = (n : Int) := by rw [IntWalk.u64_in _ (by omega)]; omega
  go_enter Tryd.func16, Tryd.ntmps16
  go_wp2_with fail
  go_returns
  exact ⟨rfl, by go_grown⟩

set_option maxHeartbeats 3200000 in
set_option maxRecDepth 100000 in
theorem implInc_any (a n : Nat) (b c : Int) (p m : ByteArray) (w : World) (hn : a + 1 = n) (hlt : n < 18446744073709551616) (ht : Tab w) : Calls Tryd.prog 15 #[.agg (scells a b c p m)] w fun e w' =>
    e = .returned (.agg (scells n 0 0 ByteArray.empty ByteArray.empty)) ∧ Below w.heap.size w w' := by
  have HI := hid (fun w (ht : Tab w) => inc_any a n b c p m w hn hlt ht)
  have QB := hid (show Blk ((w.alloc (.cells (scells a b c p m) 27)).alloc (.cells (scells 0 0 0 ⟨#[]⟩ ⟨#[]⟩) 27)) (w.heap.size + 1) 27 (scells 0 0 0 ⟨#[]⟩ ⟨#[]⟩) by
    have := Blk.new (w.alloc (.cells (scells a b c p m) 27)) 27 (scells 0 0 0 ⟨#[]⟩ ⟨#[]⟩)
    rwa [World.size_alloc] at this)
  have B := hid (show Below w.heap.size w ((w.alloc (.cells (scells a b c p m) 27)).alloc (.cells (scells 0 0 0 ⟨#[]⟩ ⟨#[]⟩) 27)) by go_grown)
  have HT := hid ht
  clear ht hn hlt
  go_enter Tryd.func15, Tryd.ntmps15
  go_wp2_with fail
  go_at_call 22
  refine (version_any a b c p m _).mono ?_
  rintro e w1 ⟨rfl, rfl⟩
  generalize ((w.alloc (.cells (scells a b c p m) 27)).alloc (.cells (scells 0 0 0 ⟨#[]⟩ ⟨#[]⟩) 27)) = w1 at QB B ⊢
  have QB1 := hid (show Blk ((w1.alloc (.cells (scells a b c p m) 27)).alloc (.cells (vcells a b c p m) 43)) (w.heap.size + 1) 27 (scells 0 0 0 ⟨#[]⟩ ⟨#[]⟩) from (QB.out.alloc _).alloc _)
  have QV := hid (show Blk ((w1.alloc (.cells (scells a b c p m) 27)).alloc (.cells (vcells a b c p m) 43)) (w1.heap.size + 1) 43 (vcells a b c p m) by
    have := Blk.new (w1.alloc (.cells (scells a b c p m) 27)) 43 (vcells a b c p m)
    rwa [World.size_alloc] at this)
  have B1 := hid (btx B.out (show Below w1.heap.size w1 ((w1.alloc (.cells (scells a b c p m) 27)).alloc (.cells (vcells a b c p m) 43)) by go_grown))
  generalize ((w1.alloc (.cells (scells a b c p m) 27)).alloc (.cells (vcells a b c p m) 43)) = w2 at QB1 QV B1 ⊢
  have v0 : w2.cell? ⟨w1.heap.size + 1, 0, none⟩ = some (.int .u64 a) := QV.out.cell 0
  have v1 : w2.cell? ⟨w1.heap.size + 1, 1, none⟩ = some (.int .u64 b) := QV.out.cell 1
  have v2 : w2.cell? ⟨w1.heap.size + 1, 2, none⟩ = some (.int .u64 c) := QV.out.cell 2
  have v3 : w2.cell? ⟨w1.heap.size + 1, 3, none⟩ = some (.string p) := QV.out.cell 3
  have v4 : w2.cell? ⟨w1.heap.size + 1, 4, none⟩ = some (.string m) := QV.out.cell 4
  have v5 : w2.cell? ⟨w1.heap.size + 1, 5, none⟩ = some (.string ByteArray.empty) := QV.out.cell 5
  go_wp2_with fail
  go_at_call 26
  refine (HI.out _ (tab_below HT.out B1.out)).mono ?_
  rintro e w3 ⟨⟨o, rfl⟩, hb⟩
  have QB3 := hid (QB1.out.below hb)
  have B3 := hid (btx B1.out hb)
  clear hb v0 v1 v2 v3 v4 v5
  go_wp2_with fail
  go_at_call 27
  refine (plain_any w3.heap.size n 0 0 ByteArray.empty ByteArray.empty o _ (Blk.new w3 _ _)).mono ?_
  rintro e w4 ⟨rfl, hb⟩
  have QB5 := hid ((QB3.out.alloc _).below hb)
  have B5 := hid (btx (btx B3.out ((Below.refl _ _).alloc (Nat.le_refl _) _)) hb)
  clear hb
  have t5 : w4.there (w.heap.size + 1) 0 5 := there_blk QB5.out 5 (Nat.le_refl 5)
  have R5 := hid (set5_blk QB5.out rfl n 0 0 ByteArray.empty ByteArray.empty)
  have B6 := hid (set5_below (g := w.heap.size + 1) B5.out (by omega) n 0 0 ByteArray.empty ByteArray.empty)
  go_wp2_with (refine wpList_store_mid rfl 27 (.tmp 2) (.tmp 9) rfl (w.heap.size + 1) 0 (scells n 0 0 ByteArray.empty ByteArray.empty) (by rfl) (by rfl) t5 (by kernel_rfl) (by simp [Value.oneCell']) ?_; generalize w4.setCells (w.heap.size + 1) 0 (scells n 0 0 ByteArray.empty ByteArray.empty).toList = w5 at R5 B6 ⊢)
  refine bodyPost_ret (results_cell_row rfl _ _ (w.heap.size + 1) 27 _ (0, 0) _ rfl R5.out Tryd.underlying27 rfl (by kernel_rfl)) rfl ⟨rfl, B6.out⟩
end Go.Proofs.YtknjengnipidoaaDoor
