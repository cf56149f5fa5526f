/- The cron package's reading of an item "x" and of an item "x-y/k", whatever names the field has. Walked. -/
import Derived.Test.YtomkhhpigpilfaaGreatDoorItem
set_option linter.unusedVariables false
set_option linter.unusedSimpArgs false
namespace Go.Proofs.YtomkhhpigpilfaaGreatDoor
open Go.RowKit

/-- What is known of a field's names, kept by every call that makes memory alone. -/
def Kept (M : World → Prop) : Prop := ∀ w w', M w → Below w.heap.size w w' → M w'
/-- In a field of these names the text X means x. -/
def Means (mv : Value) (M : World → Prop) (X : ByteArray) (x : Nat) : Prop := ∀ w, M w → Calls Tryz.prog 89 #[.string X, mv] w fun e w' => e = .returned (.tuple #[.int .u64 x, .nilIface]) ∧ Below w.heap.size w w'
theorem gb_or_zero (a b c : Nat) (h : b ≤ 62) : bits .or .u64 ((gb a b c : Nat) : Int) 0 = ((gb a b c : Nat) : Int) := gb_or_none a b c h

set_option maxHeartbeats 1600000 in
set_option maxRecDepth 100000 in
theorem rangeN_one (s X : ByteArray) (lo hi x : Nat) (w : World) (mv : Value) (M : World → Prop) (hM : Kept M) (hw : M w) (hs : s.size ≤ 2147483647) (hX : Means mv M X x) (n1 : (X.toList == [42]) = false) (n2 : (X.toList == [63]) = false) (hh : hi ≤ 62) (hx : lo ≤ x) (hxh : x ≤ hi) (c47 : (47 : UInt8) ∉ s.toList) (c45 : (45 : UInt8) ∉ s.toList) (hXs : X = s) :
    Calls Tryz.prog 77 #[.string s, .agg #[.int .u64 lo, .int .u64 hi, mv]] w fun e w' => ∃ v : Int, e = .returned (.tuple #[.int .u64 v, .nilIface]) ∧ v = ((gb x x 1 : Nat) : Int) ∧ Below w.heap.size w w' := by
  have b1 : ¬ (x : Int) < (lo : Int) := by omega
  have b2 : ¬ (hi : Int) < (x : Int) := by omega
  have b3 : ¬ (x : Int) < (x : Int) := by omega
  have HQ := hid (fun w => getBits_any x x 1 w (by omega) (by omega) (by omega) (by omega))
  have HS := hid hs
  have HX := hid hX
  have HM := hid hM
  have HW := hid hw
  have HH := hid hh
  have C7 := hid c47
  have C5 := hid c45
  clear hs hX hM hw hh hx hxh c47 c45
  subst hXs
  go_enter Tryz.func77, Tryz.ntmps77
  go_wp2_with fail
  have R0 := hid (Blk.new w 100 #[.int .u64 lo, .int .u64 hi, mv])
  have B0 := hid (show Below w.heap.size w (w.alloc (.cells #[.int .u64 lo, .int .u64 hi, mv] 100)) from (Below.refl _ _).alloc (Nat.le_refl _) _)
  generalize (w.alloc (.cells #[.int .u64 lo, .int .u64 hi, mv] 100)) = w0 at R0 B0 ⊢
  go_at_call 88
  refine (slash_one _ _ HS.out C7.out).mono ?_
  rintro e w1 ⟨g, c, rfl, p0, hb⟩
  have R1 := hid (R0.out.below hb)
  have B1 := hid (bt B0.out hb)
  clear hb
  go_wp2_with fail
  go_at_call 88
  refine (hyphen_one _ _ HS.out C5.out).mono ?_
  rintro e w2 ⟨h, c2, rfl, q0, hb⟩
  have R2 := hid (R1.out.below hb)
  have B2 := hid (bt B1.out hb)
  clear hb p0
  have HM2 := hid (HM.out _ _ HW.out B2.out)
  go_wp2_with fail
  have C := hid (fun d os => Calls.regrown_of (HX.out (Go.Sort.grow (redrawn w2 d) os) (HM.out _ _ HM2.out (below_regrown w2 d os))))
  have k0 : ∀ d os, (Go.Sort.grow (redrawn w2 d) os).cell? ⟨h, 0, none⟩ = some (.string X) := fun d os => cell_gr q0 d os
  have k2 : ∀ d os, (Go.Sort.grow (redrawn w2 d) os).cell? ⟨w.heap.size, 2, none⟩ = some mv := fun d os => (blk_gr R2.out d os).cell 2
  refine wp_region_quiet_below (by kernel_rfl) (by kernel_rfl) ?_
  repeat (go_big_quiet_step ((first | (go_at_call 89; exact C.out _ _) | fail)))
  refine wpQuiet_nil ?_
  intro _ hw'
  obtain ⟨⟨dq, osq⟩, hw''⟩ := hw'
  subst hw''
  have R3 := hid (blk_gr R2.out dq osq)
  have B3 := hid (bt B2.out (below_regrown w2 dq osq))
  have HM3 := hid (HM.out _ _ HM2.out (below_regrown w2 dq osq))
  clear k0 k2 C q0
  generalize Go.Sort.grow (redrawn w2 dq) osq = w3 at R3 B3 HM3 ⊢
  have u0 : w3.cell? ⟨w.heap.size, 0, none⟩ = some (.int .u64 lo) := R3.out.cell 0
  have u1 : w3.cell? ⟨w.heap.size, 1, none⟩ = some (.int .u64 hi) := R3.out.cell 1
  go_wp2_with (go_at_call 83; refine (HQ.out _).mono ?_; rintro e w' ⟨rfl, rfl⟩)
  go_returns
  exact ⟨_, rfl, gb_or_zero _ _ _ (by have := HH.out; omega), B3.out⟩

set_option maxHeartbeats 1600000 in
set_option maxRecDepth 100000 in
theorem rangeN_full (s X Y A K : ByteArray) (lo hi x y k : Nat) (w : World) (mv : Value) (M : World → Prop) (hM : Kept M) (hw : M w) (hs : s.size ≤ 2147483647) (hX : Means mv M X x) (n1 : (X.toList == [42]) = false) (n2 : (X.toList == [63]) = false) (hh : hi ≤ 62) (hx : lo ≤ x) (hxy : x ≤ y) (hy : y ≤ hi) (hcut : cut 47 s.toList = [A.toList, K.toList]) (zA : A.size ≤ 2147483647) (hA : cut 45 A.toList = [X.toList, Y.toList]) (hY : Means mv M Y y) (zK : K.size ≤ 2147483647) (aK : Lib.atoiAll K.toList = .ok (k : Int)) (hk1 : 1 ≤ k) (hk2 : k ≤ 4294967296) :
    Calls Tryz.prog 77 #[.string s, .agg #[.int .u64 lo, .int .u64 hi, mv]] w fun e w' => ∃ v : Int, e = .returned (.tuple #[.int .u64 v, .nilIface]) ∧ v = ((gb x y k : Nat) : Int) ∧ Below w.heap.size w w' := by
  have b1 : ¬ (x : Int) < (lo : Int) := by omega
  have b2 : ¬ (hi : Int) < (y : Int) := by omega
  have b3 : ¬ (y : Int) < (x : Int) := by omega
  have zk2 : ((k : Int) == 0) = false := by rw [beq_eq_false_iff_ne]; omega
  have HQ := hid (fun w => getBits_any x y k w (by omega) (by omega) (by omega) (by omega))
  have HS := hid hs
  have HX := hid hX
  have HM := hid hM
  have HW := hid hw
  have HH := hid hh
  have HC := hid hcut
  have ZA := hid zA
  have HA := hid hA
  have HY := hid hY
  have ZK := hid zK
  have HK := hid aK
  have HV := hid (show k ≤ 9223372036854775807 by omega)
  clear hs hX hM hw hh hx hcut zA hA hY zK aK hk1 hk2 hxy hy
  go_enter Tryz.func77, Tryz.ntmps77
  go_wp2_with fail
  have R0 := hid (Blk.new w 100 #[.int .u64 lo, .int .u64 hi, mv])
  have B0 := hid (show Below w.heap.size w (w.alloc (.cells #[.int .u64 lo, .int .u64 hi, mv] 100)) from (Below.refl _ _).alloc (Nat.le_refl _) _)
  generalize (w.alloc (.cells #[.int .u64 lo, .int .u64 hi, mv] 100)) = w0 at R0 B0 ⊢
  go_at_call 88
  refine (slash_two s A K _ HS.out HC.out).mono ?_
  rintro e w1 ⟨g, c, rfl, p0, p1, hb⟩
  have R1 := hid (R0.out.below hb)
  have B1 := hid (bt B0.out hb)
  clear hb
  go_wp2_with fail
  go_at_call 88
  refine (hyphen_two A X Y _ ZA.out HA.out).mono ?_
  rintro e w2 ⟨h, c2, rfl, q0, q1, hb⟩
  have P1 := hid ((hb.cell (World.block_lt_of_cell? w1 _ p1)).trans p1)
  have Q1 := hid q1
  have R2 := hid (R1.out.below hb)
  have B2 := hid (bt B1.out hb)
  clear hb p0 p1 q1
  have HM2 := hid (HM.out _ _ HW.out B2.out)
  go_wp2_with fail
  have C := hid (fun d os => Calls.regrown_of (HX.out (Go.Sort.grow (redrawn w2 d) os) (HM.out _ _ HM2.out (below_regrown w2 d os))))
  have k0 : ∀ d os, (Go.Sort.grow (redrawn w2 d) os).cell? ⟨h, 0, none⟩ = some (.string X) := fun d os => cell_gr q0 d os
  have k2 : ∀ d os, (Go.Sort.grow (redrawn w2 d) os).cell? ⟨w.heap.size, 2, none⟩ = some mv := fun d os => (blk_gr R2.out d os).cell 2
  refine wp_region_quiet_below (by kernel_rfl) (by kernel_rfl) ?_
  repeat (go_big_quiet_step ((first | (go_at_call 89; exact C.out _ _) | fail)))
  refine wpQuiet_nil ?_
  intro _ hw'
  obtain ⟨⟨dq, osq⟩, hw''⟩ := hw'
  subst hw''
  have R3 := hid (blk_gr R2.out dq osq)
  have B3 := hid (bt B2.out (below_regrown w2 dq osq))
  have HM3 := hid (HM.out _ _ HM2.out (below_regrown w2 dq osq))
  replace P1 := hid (cell_gr P1.out dq osq)
  replace Q1 := hid (cell_gr Q1.out dq osq)
  clear k0 k2 C q0
  generalize Go.Sort.grow (redrawn w2 dq) osq = w3 at R3 B3 HM3 P1 Q1 ⊢
  go_wp2_with fail
  have C := hid (fun d os => Calls.regrown_of (HY.out (Go.Sort.grow (redrawn w3 d) os) (HM.out _ _ HM3.out (below_regrown w3 d os))))
  have k0 : ∀ d os, (Go.Sort.grow (redrawn w3 d) os).cell? ⟨h, 1, none⟩ = some (.string Y) := fun d os => cell_gr Q1.out d os
  have k2 : ∀ d os, (Go.Sort.grow (redrawn w3 d) os).cell? ⟨w.heap.size, 2, none⟩ = some mv := fun d os => (blk_gr R3.out d os).cell 2
  refine wp_region_quiet_below (by kernel_rfl) (by kernel_rfl) ?_
  repeat (go_big_quiet_step ((first | (go_at_call 89; exact C.out _ _) | fail)))
  refine wpQuiet_nil ?_
  intro _ hw'
  obtain ⟨⟨dq, osq⟩, hw''⟩ := hw'
  subst hw''
  have R4 := hid (blk_gr R3.out dq osq)
  have B4 := hid (bt B3.out (below_regrown w3 dq osq))
  have HM4 := hid (HM.out _ _ HM3.out (below_regrown w3 dq osq))
  replace P1 := hid (cell_gr P1.out dq osq)
  clear k0 k2 C
  generalize Go.Sort.grow (redrawn w3 dq) osq = w4 at R4 B4 HM4 P1 ⊢
  have P1c := P1.out
  go_wp2_with fail
  go_at_call 90
  refine (must_any K k (by have := ZK.out; omega) HK.out HV.out _).mono ?_
  rintro e w5 ⟨rfl, hb⟩
  have R5 := hid (R4.out.below hb)
  have B5 := hid (bt B4.out hb)
  clear hb
  have u0 : w5.cell? ⟨w.heap.size, 0, none⟩ = some (.int .u64 lo) := R5.out.cell 0
  have u1 : w5.cell? ⟨w.heap.size, 1, none⟩ = some (.int .u64 hi) := R5.out.cell 1
  have hsp : (1 : Int) < (k : Int) ∨ ¬ (1 : Int) < (k : Int) := Decidable.em _
  rcases hsp with b4 | b4
  all_goals
    go_wp2_with (go_at_call 83; refine (HQ.out _).mono ?_; rintro e w' ⟨rfl, rfl⟩)
    go_returns
    exact ⟨_, rfl, gb_or_zero _ _ _ (by have := HH.out; omega), B5.out⟩
end Go.Proofs.YtomkhhpigpilfaaGreatDoor
