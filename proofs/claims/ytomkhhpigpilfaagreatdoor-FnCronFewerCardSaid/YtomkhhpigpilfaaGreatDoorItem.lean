/- The cron package's reading of one item "a/k" or "*/k" within bounds, without names. Walked. -/
import Derived.Test.YtomkhhpigpilfaaGreatDoorNum
import Derived.Test.YtomkhhpigpilfaaGreatDoorCSplit
import Derived.Test.YtomkhhpigpilfaaGreatDoorBitsW
import Derived.Test.YtomkhhpigpilfaaGreatDoorGrow
import Derived.WalkSpells
set_option linter.unusedVariables false
set_option linter.unusedSimpArgs false
namespace Go.Proofs.YtomkhhpigpilfaaGreatDoor
open Go.RowKit

theorem blk_gr {w : World} {g : Nat} {t : TypeId} {cs : Array Value} (h : Blk w g t cs) (d : Nat) (os : Array Obj) : Blk (Go.Sort.grow (redrawn w d) os) g t cs := h.below (below_regrown w d os)
theorem cell_gr {w : World} {a : Addr} {v : Value} (h : w.cell? a = some v) (d : Nat) (os : Array Obj) : (Go.Sort.grow (redrawn w d) os).cell? a = some v := (below_regrown w d os).cell (World.block_lt_of_cell? w _ h) |>.trans h

/-- A split that yields one part, the text itself; one that yields two. -/
theorem parts_one {xs : List ByteArray} {s : ByteArray} (h : xs.map (·.toList) = [s.toList]) : xs = [s] := by
  cases xs with
  | nil => cases h
  | cons x t =>
    cases t with
    | nil => simp only [List.map_cons, List.map_nil, List.cons.injEq, and_true] at h; rw [bytes_inj h]
    | cons y t => simp at h
theorem parts_two {xs : List ByteArray} {a b : ByteArray} (h : xs.map (·.toList) = [a.toList, b.toList]) : xs = [a, b] := by
  cases xs with
  | nil => cases h
  | cons x t =>
    cases t with
    | nil => simp at h
    | cons y t =>
      cases t with
      | nil => simp only [List.map_cons, List.map_nil, List.cons.injEq, and_true] at h; rw [bytes_inj h.1, bytes_inj h.2]
      | cons z t => simp at h

theorem star_list : (⟨#[42]⟩ : ByteArray).toList = [42] := by rw [ByteArray.toList_eq]
theorem gb_or_none (a b c : Nat) (h : b ≤ 62) : bits .or .u64 ((gb a b c : Nat) : Int) 0 = ((gb a b c : Nat) : Int) := by
  have := u64_or_nat (gb a b c) 0 (gbn_lt a c (b + 1) (by omega)) (by omega)
  simpa using this
theorem gb_or_star (a b c : Nat) (h : b ≤ 62) : bits .or .u64 ((gb a b c : Nat) : Int) 9223372036854775808 = ((gb a b c ||| 9223372036854775808 : Nat) : Int) :=
  u64_or_nat (gb a b c) 9223372036854775808 (gbn_lt a c (b + 1) (by omega)) (by omega)

theorem slash_one (s : ByteArray) (w : World) (hs : s.size ≤ 2147483647) (h : (47 : UInt8) ∉ s.toList) : Calls Tryz.prog 88 #[.string s, .string ⟨#[47]⟩] w fun e w' =>
    ∃ g k : Nat, e = .returned (.slice (some ⟨g, 0, none⟩) 1 k) ∧ w'.cell? ⟨g, 0, none⟩ = some (.string s) ∧ Below w.heap.size w w' := by
  refine (split_anyS s w hs).mono ?_
  rintro e w' ⟨xs, g, c, rfl, hx, hst, hb⟩
  rw [cut_none 47 _ h] at hx
  obtain rfl := parts_one hx
  exact ⟨g, c, rfl, hst 0 s rfl, hb⟩
theorem slash_two (s a b : ByteArray) (w : World) (hs : s.size ≤ 2147483647) (h : cut 47 s.toList = [a.toList, b.toList]) : Calls Tryz.prog 88 #[.string s, .string ⟨#[47]⟩] w fun e w' =>
    ∃ g k : Nat, e = .returned (.slice (some ⟨g, 0, none⟩) 2 k) ∧ w'.cell? ⟨g, 0, none⟩ = some (.string a) ∧ w'.cell? ⟨g, 1, none⟩ = some (.string b) ∧ Below w.heap.size w w' := by
  refine (split_anyS s w hs).mono ?_
  rintro e w' ⟨xs, g, c, rfl, hx, hst, hb⟩
  rw [h] at hx
  obtain rfl := parts_two hx
  exact ⟨g, c, rfl, hst 0 a rfl, hst 1 b rfl, hb⟩

theorem hyphen_one (s : ByteArray) (w : World) (hs : s.size ≤ 2147483647) (h : (45 : UInt8) ∉ s.toList) : Calls Tryz.prog 88 #[.string s, .string ⟨#[45]⟩] w fun e w' =>
    ∃ g k : Nat, e = .returned (.slice (some ⟨g, 0, none⟩) 1 k) ∧ w'.cell? ⟨g, 0, none⟩ = some (.string s) ∧ Below w.heap.size w w' := by
  refine (split_anyH s w hs).mono ?_
  rintro e w' ⟨xs, g, c, rfl, hx, hst, hb⟩
  rw [cut_none 45 _ h] at hx
  obtain rfl := parts_one hx
  exact ⟨g, c, rfl, hst 0 s rfl, hb⟩
theorem hyphen_two (s a b : ByteArray) (w : World) (hs : s.size ≤ 2147483647) (h : cut 45 s.toList = [a.toList, b.toList]) : Calls Tryz.prog 88 #[.string s, .string ⟨#[45]⟩] w fun e w' =>
    ∃ g k : Nat, e = .returned (.slice (some ⟨g, 0, none⟩) 2 k) ∧ w'.cell? ⟨g, 0, none⟩ = some (.string a) ∧ w'.cell? ⟨g, 1, none⟩ = some (.string b) ∧ Below w.heap.size w w' := by
  refine (split_anyH s w hs).mono ?_
  rintro e w' ⟨xs, g, c, rfl, hx, hst, hb⟩
  rw [h] at hx
  obtain rfl := parts_two hx
  exact ⟨g, c, rfl, hst 0 a rfl, hst 1 b rfl, hb⟩

theorem plain_name (s : ByteArray) (v : Nat) (hz : s.size ≤ 9223372036854775806) (h : Lib.atoiAll s.toList = .ok (v : Int)) (hv : v ≤ 9223372036854775807) (w : World) : Calls Tryz.prog 89 #[.string s, .map none] w fun e w' => e = .returned (.tuple #[.int .u64 v, .nilIface]) ∧ Below w.heap.size w w' := by
  have qT : ∀ (w : World) (r : Option Nat), (binOp .neq 98 (.map r) (.map none)).run Tryz.prog w = .ok (.bool (!r.isNone)) w := fun w r => run_neq_map_nil w _ _ _ r Tryz.underlying98
  have H := hid h
  have HZ := hid hz
  have HV := hid hv
  clear h hz hv
  go_enter Tryz.func89, Tryz.ntmps89
  go_wp2_with (go_at_call 90; refine (must_any s v HZ.out H.out HV.out _).mono ?_; rintro e w' ⟨rfl, hb⟩; replace hb := hid hb)
  go_returns
  exact ⟨rfl, hb.out⟩

set_option maxHeartbeats 1600000 in
set_option maxRecDepth 100000 in
theorem range_num (s K A : ByteArray) (lo hi k x : Nat) (w : World) (hs : s.size ≤ 2147483647) (zK : K.size ≤ 2147483647) (aK : Lib.atoiAll K.toList = .ok (k : Int)) (hk1 : 1 ≤ k) (hk2 : k ≤ 4294967296) (hh : hi ≤ 62) (hcut : cut 47 s.toList = [A.toList, K.toList]) (hA : (45 : UInt8) ∉ A.toList) (n1 : (A.toList == [42]) = false) (n2 : (A.toList == [63]) = false) (zA : A.size ≤ 2147483647) (aA : Lib.atoiAll A.toList = .ok (x : Int)) (hx : lo ≤ x) (hxh : x ≤ hi) :
    Calls Tryz.prog 77 #[.string s, .agg #[.int .u64 lo, .int .u64 hi, .map none]] w fun e w' => ∃ v : Int, e = .returned (.tuple #[.int .u64 v, .nilIface]) ∧ v = ((gb x hi k : Nat) : Int) ∧ Below w.heap.size w w' := by
  have zk : ¬ (k : Int) = 0 := by omega
  have zk2 : ((k : Int) == 0) = false := by rw [beq_eq_false_iff_ne]; omega
  have b1 : ¬ (x : Int) < (lo : Int) := by omega
  have b2 : ¬ (hi : Int) < (hi : Int) := by omega
  have b3 : ¬ (hi : Int) < (x : Int) := by omega
  have HQ := hid (fun w => getBits_any x hi k w (by omega) (by omega) (by omega) (by omega))
  have HS := hid hs
  have ZK := hid zK
  have HK := hid aK
  have HC := hid hcut
  have HV := hid (show k ≤ 9223372036854775807 by omega)
  have HA := hid hA
  have ZA := hid zA
  have HX := hid aA
  have HXV := hid (show x ≤ 9223372036854775807 by omega)
  have HH := hid hh
  clear hs zK aK hcut hk1 hk2 hh hA zA aA hx hxh
  go_enter Tryz.func77, Tryz.ntmps77
  go_wp2_with fail
  have R0 := hid (Blk.new w 100 #[.int .u64 lo, .int .u64 hi, .map none])
  have B0 := hid (show Below w.heap.size w (w.alloc (.cells #[.int .u64 lo, .int .u64 hi, .map none] 100)) from (Below.refl _ _).alloc (Nat.le_refl _) _)
  generalize (w.alloc (.cells #[.int .u64 lo, .int .u64 hi, .map none] 100)) = w0 at R0 B0 ⊢
  go_at_call 88
  refine (slash_two s A K _ HS.out HC.out).mono ?_
  rintro e w1 ⟨g, c, rfl, p0, p1, hb⟩
  have R1 := hid (R0.out.below hb)
  have B1 := hid (bt B0.out hb)
  clear hb
  go_wp2_with fail
  go_at_call 88
  refine (hyphen_one A _ ZA.out HA.out).mono ?_
  rintro e w2 ⟨h, c2, rfl, q0, hb⟩
  have P1 := hid ((hb.cell (World.block_lt_of_cell? w1 _ p1)).trans p1)
  have R2 := hid (R1.out.below hb)
  have B2 := hid (bt B1.out hb)
  clear hb p0 p1
  have r0 : w2.cell? ⟨w.heap.size, 0, none⟩ = some (.int .u64 lo) := R2.out.cell 0
  have r1 : w2.cell? ⟨w.heap.size, 1, none⟩ = some (.int .u64 hi) := R2.out.cell 1
  have P1c := P1.out
  go_wp2_with fail
  have C := hid (fun d os => Calls.regrown_of (plain_name A x (by have := ZA.out; omega) HX.out HXV.out (Go.Sort.grow (redrawn w2 d) os)))
  have k0 : ∀ d os, (Go.Sort.grow (redrawn w2 d) os).cell? ⟨h, 0, none⟩ = some (.string A) := fun d os => cell_gr q0 d os
  have k2 : ∀ d os, (Go.Sort.grow (redrawn w2 d) os).cell? ⟨w.heap.size, 2, none⟩ = some (.map none) := fun d os => (blk_gr R2.out d os).cell 2
  refine wp_region_quiet_below (by kernel_rfl) (by kernel_rfl) ?_
  repeat (go_big_quiet_step ((first | (go_at_call 89; exact C.out _ _) | fail)))
  refine wpQuiet_nil ?_
  intro _ hw'
  obtain ⟨⟨dq, osq⟩, hw''⟩ := hw'
  subst hw''
  have R3 := hid (blk_gr R2.out dq osq)
  have B3 := hid (bt B2.out (below_regrown w2 dq osq))
  have P3 := cell_gr P1.out dq osq
  clear k0 k2 C r0 r1 P1c q0
  generalize Go.Sort.grow (redrawn w2 dq) osq = w3 at R3 B3 P3 ⊢
  have s0 : w3.cell? ⟨w.heap.size, 0, none⟩ = some (.int .u64 lo) := R3.out.cell 0
  have s1 : w3.cell? ⟨w.heap.size, 1, none⟩ = some (.int .u64 hi) := R3.out.cell 1
  go_wp2_with fail
  go_at_call 90
  refine (must_any K k (by have := ZK.out; omega) HK.out HV.out _).mono ?_
  rintro e w5 ⟨rfl, hb⟩
  have R5 := hid (R3.out.below hb)
  have B5 := hid (bt B3.out hb)
  clear hb
  have u0 : w5.cell? ⟨w.heap.size, 0, none⟩ = some (.int .u64 lo) := R5.out.cell 0
  have u1 : w5.cell? ⟨w.heap.size, 1, none⟩ = some (.int .u64 hi) := R5.out.cell 1
  have hsp : (1 : Int) < (k : Int) ∨ ¬ (1 : Int) < (k : Int) := Decidable.em _
  rcases hsp with b4 | b4
  all_goals
    go_wp2_with (go_at_call 83; refine (HQ.out _).mono ?_; rintro e w' ⟨rfl, rfl⟩)
    go_returns
    exact ⟨_, rfl, gb_or_none _ _ _ (by have := HH.out; omega), B5.out⟩

set_option maxHeartbeats 1600000 in
set_option maxRecDepth 100000 in
theorem range_star_one (s K : ByteArray) (lo hi k : Nat) (w : World) (hs : s.size ≤ 2147483647) (zK : K.size ≤ 2147483647) (aK : Lib.atoiAll K.toList = .ok (k : Int)) (hk1 : k = 1) (hk2 : k ≤ 4294967296) (hh : hi ≤ 62) (hcut : cut 47 s.toList = [(⟨#[42]⟩ : ByteArray).toList, K.toList]) (hlh : lo ≤ hi) :
    Calls Tryz.prog 77 #[.string s, .agg #[.int .u64 lo, .int .u64 hi, .map none]] w fun e w' => ∃ v : Int, e = .returned (.tuple #[.int .u64 v, .nilIface]) ∧ v = ((gb lo hi k ||| 9223372036854775808 : Nat) : Int) ∧ Below w.heap.size w w' := by
  have zk : ¬ (k : Int) = 0 := by omega
  have zk2 : ((k : Int) == 0) = false := by rw [beq_eq_false_iff_ne]; omega
  have b1 : ¬ (lo : Int) < (lo : Int) := by omega
  have b2 : ¬ (hi : Int) < (hi : Int) := by omega
  have b3 : ¬ (hi : Int) < (lo : Int) := by omega
  have b4 : ¬ (1 : Int) < (k : Int) := by omega
  have HQ := hid (fun w => getBits_any lo hi k w (by omega) (by omega) (by omega) (by omega))
  have HS := hid hs
  have ZK := hid zK
  have HK := hid aK
  have HC := hid hcut
  have HV := hid (show k ≤ 9223372036854775807 by omega)
  have HH := hid hh
  clear hs zK aK hcut hk1 hk2 hh hlh
  go_enter Tryz.func77, Tryz.ntmps77
  go_wp2_with fail
  have R0 := hid (Blk.new w 100 #[.int .u64 lo, .int .u64 hi, .map none])
  have B0 := hid (show Below w.heap.size w (w.alloc (.cells #[.int .u64 lo, .int .u64 hi, .map none] 100)) from (Below.refl _ _).alloc (Nat.le_refl _) _)
  generalize (w.alloc (.cells #[.int .u64 lo, .int .u64 hi, .map none] 100)) = w0 at R0 B0 ⊢
  go_at_call 88
  refine (slash_two s (⟨#[42]⟩ : ByteArray) K _ HS.out HC.out).mono ?_
  rintro e w1 ⟨g, c, rfl, p0, p1, hb⟩
  have R1 := hid (R0.out.below hb)
  have B1 := hid (bt B0.out hb)
  clear hb
  go_wp2_with fail
  go_at_call 88
  refine (hyphen_one (⟨#[42]⟩ : ByteArray) _ (by show 1 ≤ _; omega) (by rw [star_list]; decide)).mono ?_
  rintro e w2 ⟨h, c2, rfl, q0, hb⟩
  have P1 := hid ((hb.cell (World.block_lt_of_cell? w1 _ p1)).trans p1)
  have R2 := hid (R1.out.below hb)
  have B2 := hid (bt B1.out hb)
  clear hb p0 p1
  have r0 : w2.cell? ⟨w.heap.size, 0, none⟩ = some (.int .u64 lo) := R2.out.cell 0
  have r1 : w2.cell? ⟨w.heap.size, 1, none⟩ = some (.int .u64 hi) := R2.out.cell 1
  have P1c := P1.out
  go_wp2_with fail
  go_at_call 90
  refine (must_any K k (by have := ZK.out; omega) HK.out HV.out _).mono ?_
  rintro e w5 ⟨rfl, hb⟩
  have R5 := hid (R2.out.below hb)
  have B5 := hid (bt B2.out hb)
  clear hb
  have u0 : w5.cell? ⟨w.heap.size, 0, none⟩ = some (.int .u64 lo) := R5.out.cell 0
  have u1 : w5.cell? ⟨w.heap.size, 1, none⟩ = some (.int .u64 hi) := R5.out.cell 1
  go_wp2_with (go_at_call 83; refine (HQ.out _).mono ?_; rintro e w' ⟨rfl, rfl⟩)
  go_returns
  exact ⟨_, rfl, gb_or_star _ _ _ (by have := HH.out; omega), B5.out⟩

set_option maxHeartbeats 1600000 in
set_option maxRecDepth 100000 in
theorem range_star_more (s K : ByteArray) (lo hi k : Nat) (w : World) (hs : s.size ≤ 2147483647) (zK : K.size ≤ 2147483647) (aK : Lib.atoiAll K.toList = .ok (k : Int)) (hk1 : 1 < k) (hk2 : k ≤ 4294967296) (hh : hi ≤ 62) (hcut : cut 47 s.toList = [(⟨#[42]⟩ : ByteArray).toList, K.toList]) (hlh : lo ≤ hi) :
    Calls Tryz.prog 77 #[.string s, .agg #[.int .u64 lo, .int .u64 hi, .map none]] w fun e w' => ∃ v : Int, e = .returned (.tuple #[.int .u64 v, .nilIface]) ∧ v = ((gb lo hi k : Nat) : Int) ∧ Below w.heap.size w w' := by
  have zk : ¬ (k : Int) = 0 := by omega
  have zk2 : ((k : Int) == 0) = false := by rw [beq_eq_false_iff_ne]; omega
  have b1 : ¬ (lo : Int) < (lo : Int) := by omega
  have b2 : ¬ (hi : Int) < (hi : Int) := by omega
  have b3 : ¬ (hi : Int) < (lo : Int) := by omega
  have b4 : (1 : Int) < (k : Int) := by omega
  have HQ := hid (fun w => getBits_any lo hi k w (by omega) (by omega) (by omega) (by omega))
  have HS := hid hs
  have ZK := hid zK
  have HK := hid aK
  have HC := hid hcut
  have HV := hid (show k ≤ 9223372036854775807 by omega)
  have HH := hid hh
  clear hs zK aK hcut hk1 hk2 hh hlh
  go_enter Tryz.func77, Tryz.ntmps77
  go_wp2_with fail
  have R0 := hid (Blk.new w 100 #[.int .u64 lo, .int .u64 hi, .map none])
  have B0 := hid (show Below w.heap.size w (w.alloc (.cells #[.int .u64 lo, .int .u64 hi, .map none] 100)) from (Below.refl _ _).alloc (Nat.le_refl _) _)
  generalize (w.alloc (.cells #[.int .u64 lo, .int .u64 hi, .map none] 100)) = w0 at R0 B0 ⊢
  go_at_call 88
  refine (slash_two s (⟨#[42]⟩ : ByteArray) K _ HS.out HC.out).mono ?_
  rintro e w1 ⟨g, c, rfl, p0, p1, hb⟩
  have R1 := hid (R0.out.below hb)
  have B1 := hid (bt B0.out hb)
  clear hb
  go_wp2_with fail
  go_at_call 88
  refine (hyphen_one (⟨#[42]⟩ : ByteArray) _ (by show 1 ≤ _; omega) (by rw [star_list]; decide)).mono ?_
  rintro e w2 ⟨h, c2, rfl, q0, hb⟩
  have P1 := hid ((hb.cell (World.block_lt_of_cell? w1 _ p1)).trans p1)
  have R2 := hid (R1.out.below hb)
  have B2 := hid (bt B1.out hb)
  clear hb p0 p1
  have r0 : w2.cell? ⟨w.heap.size, 0, none⟩ = some (.int .u64 lo) := R2.out.cell 0
  have r1 : w2.cell? ⟨w.heap.size, 1, none⟩ = some (.int .u64 hi) := R2.out.cell 1
  have P1c := P1.out
  go_wp2_with fail
  go_at_call 90
  refine (must_any K k (by have := ZK.out; omega) HK.out HV.out _).mono ?_
  rintro e w5 ⟨rfl, hb⟩
  have R5 := hid (R2.out.below hb)
  have B5 := hid (bt B2.out hb)
  clear hb
  have u0 : w5.cell? ⟨w.heap.size, 0, none⟩ = some (.int .u64 lo) := R5.out.cell 0
  have u1 : w5.cell? ⟨w.heap.size, 1, none⟩ = some (.int .u64 hi) := R5.out.cell 1
  go_wp2_with (go_at_call 83; refine (HQ.out _).mono ?_; rintro e w' ⟨rfl, rfl⟩)
  go_returns
  exact ⟨_, rfl, gb_or_none _ _ _ (by have := HH.out; omega), B5.out⟩
end Go.Proofs.YtomkhhpigpilfaaGreatDoor
