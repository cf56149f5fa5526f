/- FnCronItem: for each of the six fields and every text, CronItem gives the set that a value, a range or a star means, with a step or without, and refuses a text that means nothing. Walked. -/
import Derived.Test.YtomkhhpigpilfaaDoorRefS
set_option linter.unusedVariables false
set_option linter.unusedSimpArgs false
namespace Go.Proofs.YtomkhhpigpilfaaDoor
open Go.RowKit

theorem isKind_any (k : Int) (w : World) : Calls Tryd.prog 4 #[.int .i64 k] w fun e w' => e = .returned (.bool (decide (0 ≤ k ∧ k < 6))) ∧ w = w' := by
  by_cases h1 : 0 ≤ k
  · by_cases h2 : k < 6
    · rw [decide_eq_true ⟨h1, h2⟩]
      go_enter Tryd.func4, Tryd.ntmps4
      go_wp2
      go_ret
      exact ⟨rfl, rfl⟩
    · rw [decide_eq_false (fun h => h2 h.2)]
      go_enter Tryd.func4, Tryd.ntmps4
      go_wp2
      go_ret
      exact ⟨rfl, rfl⟩
  · rw [decide_eq_false (fun h => h1 h.1)]
    go_enter Tryd.func4, Tryd.ntmps4
    go_wp2
    go_ret
    exact ⟨rfl, rfl⟩
theorem boundsOf_any (k : Nat) (hk : k ≤ 5) (w : World) : Calls Tryd.prog 6 #[.int .i64 k] w fun e w' => e = .returned (.agg #[.int .i64 (kLo k : Nat), .int .i64 (kHi k : Nat), .int .i64 k]) ∧ Below w.heap.size w w' := by
  have CL := hid (fun w => low_any k hk w)
  have CH := hid (fun w => high_any k hk w)
  generalize kLo k = lo at CL ⊢
  generalize kHi k = hi at CH ⊢
  clear hk
  go_enter Tryd.func6, Tryd.ntmps6
  go_wp2_with (first
    | (go_at_call 13; refine (CL.out _).mono ?_; rintro e w' ⟨rfl, rfl⟩)
    | (go_at_call 14; refine (CH.out _).mono ?_; rintro e w' ⟨rfl, rfl⟩))
  go_returns
  exact ⟨rfl, by go_grown⟩

theorem bitF_no (F : Nat → Bool) (n : Nat) (h : F (n + 1) = false) : bitF F (n + 1) = bitF F n := by
  show (bitF F n ||| if F (n + 1) = true then 2 ^ n else 0) = _
  rw [h]
  exact Nat.or_zero _
theorem bitF_yes (F : Nat → Bool) (n : Nat) (h : F (n + 1) = true) : bitF F (n + 1) = (bitF F n ||| 2 ^ n) := by
  show (bitF F n ||| if F (n + 1) = true then 2 ^ n else 0) = _
  rw [h]
  rfl
set_option maxRecDepth 100000 in
theorem run_idx (F : Nat → Bool) (n : Nat) (h : n < 63) (w : World) : (Instr.index 23 (.agg (bcells 63 F)) (.int .i64 n)).run Tryd.prog w = .ok (.bool (F n)) w := by
  have hu := Tryd.underlying23
  have hs : ∀ w, (sizeOf 4).run Tryd.prog w = .ok 1 w := fun w => by kernel_rfl
  have hub := Tryd.underlying4
  have h1 : (0 : Int) ≤ (n : Int) := by omega
  have h2 : (n : Int) < 63 := by omega
  have hg : (bcells 63 F)[n]? = some (.bool (F n)) := bcells_get h
  have hz : (bcells 63 F).size = 63 := bcells_size
  generalize bcells 63 F = cs at hg hz ⊢
  simp [Instr.index, run_underlying hu, asIntOf, h1, h2, hs, go_sem]
  rw [if_pos h, hg]
  rfl
set_option maxHeartbeats 1600000 in
set_option maxRecDepth 100000 in
theorem bitsOf_any (F : Nat → Bool) (w : World) : Calls Tryd.prog 17 #[.agg (bcells 64 F)] w fun e w' => e = .returned (.int .u64 (sumF F : Nat)) ∧ Below w.heap.size w w' := by
  have B := hid (show Below w.heap.size w (w.alloc (.cells (bcells 64 F) 25)) by go_grown)
  have R := hid (Blk.new w 25 (bcells 64 F))
  go_enter Tryd.func17, Tryd.ntmps17
  go_upto_region 2 with fail
  generalize (w.alloc (.cells (bcells 64 F) 25)) = w1 at B R ⊢
  go_wp2_with (refine wpList_load_mid rfl 23 (.tmp 6) rfl w.heap.size 1 rfl (bcells 63 fun i => F (1 + i)).toList _ (R.out.range_b (by omega)) Tryd.underlying23 rfl (by rw [bcells_len]; kernel_rfl) ?_)
  go_loopw [3, 8] (fun b i wr => ∃ n : Nat, n ≤ 63 ∧ i = .int .i64 n ∧ b = .int .u64 (bitF F n : Nat) ∧ wr = w1) (fun _ i _ => 63 - (intOf i).toNat)
  case atStart => exact ⟨0, by omega, rfl, rfl, rfl⟩
  case round =>
    obtain ⟨n, hn, rfl, rfl, rfl⟩ := hrel
    by_cases hlt : n < 63
    · obtain ⟨b, hb⟩ : ∃ b, F (1 + n) = b := ⟨_, rfl⟩
      have hidx := run_idx (fun i => F (1 + i)) n hlt
      rw [hb] at hidx
      have HB := hid (show F (n + 1) = b by rw [Nat.add_comm]; exact hb)
      have HLT := hid (Nat.lt_of_lt_of_le (bitF_lt F n hn) (by decide) : bitF F n < 18446744073709551616)
      cases b with
      | true =>
        go_wp2_with fail
        go_roundw
        case rel => exact ⟨n + 1, by omega, by go_num, by show Value.int .u64 (bits .or .u64 (bitF F n : Nat) (IntKind.u64.wrap (2 ^ n))) = _; rw [or_bit _ _ HLT.out (by omega), bitF_yes F n HB.out], trivial⟩
        case measure => simp [intOf]; omega
      | false =>
        go_wp2_with fail
        go_roundw
        case rel => exact ⟨n + 1, by omega, by go_num, by rw [bitF_no F n HB.out], trivial⟩
        case measure => simp [intOf]; omega
    · obtain rfl : n = 63 := by omega
      have r0 : wr.cell? ⟨w.heap.size, 0, none⟩ = some (.bool (F 0)) := by rw [R.out.cell 0]; exact bcells_get (by omega)
      obtain ⟨b, hb⟩ : ∃ b, F 0 = b := ⟨_, rfl⟩
      rw [hb] at r0
      have HB := hid hb
      have HLT := hid (Nat.lt_of_lt_of_le (bitF_lt F 63 hn) (by decide) : bitF F 63 < 18446744073709551616)
      cases b with
      | true =>
        have hor := u64_or_nat (bitF F 63) 9223372036854775808 HLT.out (by omega)
        have HS := hid (show sumF F = (bitF F 63 ||| 9223372036854775808) by unfold sumF; rw [HB.out]; rfl)
        have hor2 : bits .or .u64 ((bitF F 63 : Nat) : Int) 9223372036854775808 = ((bitF F 63 ||| 9223372036854775808 : Nat) : Int) := hor
        clear hor
        go_wp2_with fail
        go_ret
        exact ⟨by rw [HS.out]; rfl, B.out⟩
      | false =>
        have HS := hid (show sumF F = bitF F 63 by unfold sumF; rw [HB.out]; exact Nat.or_zero _)
        go_wp2_with fail
        go_ret
        exact ⟨by rw [HS.out]; rfl, B.out⟩
set_option maxHeartbeats 1600000 in
set_option maxRecDepth 100000 in
theorem cbits_fine (n : Nat) (F : Nat → Bool) (h : sumF F = n) (w : World) : Calls Tryd.prog 8 #[.int .u64 n, .bool true, .agg (bcells 64 F), .int .i64 1] w fun e w' => e = .returned (.bool true) ∧ Below w.heap.size w w' := by
  have B := hid (show Below w.heap.size w (w.alloc (.cells (bcells 64 F) 25)) by go_grown)
  have R := hid (Blk.new w 25 (bcells 64 F))
  have CB := hid (fun w => bitsOf_any F w)
  rw [h] at CB
  clear h
  have RL := hid (fun X (hb : Blk X w.heap.size 25 (bcells 64 F)) => show X.rangeAt w.heap.size 0 (bcells 64 F).toList by
    have hl := hb.range_b (o := 0) (m := 64) (by omega)
    rwa [show (fun i => F (0 + i)) = F from funext fun i => by rw [Nat.zero_add]] at hl)
  go_enter Tryd.func8, Tryd.ntmps8
  go_upto_region 1 with fail
  generalize (w.alloc (.cells (bcells 64 F) 25)) = w1 at B R ⊢
  go_wp2_with (first
    | (refine wpList_load_g rfl 25 (.tmp 6) rfl w.heap.size 0 rfl (bcells 64 F).toList _ (RL.out _ R.out) Tryd.underlying25 rfl (by rw [bcells_len]; kernel_rfl) ?_)
    | (go_at_call 17; refine (CB.out _).mono ?_; rintro e w2 ⟨rfl, hb⟩; have B2 := hid (bq B.out hb); clear hb))
  go_ret
  exact ⟨rfl, B2.out⟩
theorem cbits_bad (F : Nat → Bool) (w : World) : Calls Tryd.prog 8 #[.int .u64 0, .bool false, .agg (bcells 64 F), .int .i64 0] w fun e w' => e = .returned (.bool true) ∧ Below w.heap.size w w' := by
  have B := hid (show Below w.heap.size w (w.alloc (.cells (bcells 64 F) 25)) by go_grown)
  go_enter Tryd.func8, Tryd.ntmps8
  go_upto_region 1 with fail
  generalize (w.alloc (.cells (bcells 64 F) 25)) = w1 at B ⊢
  go_wp2_with fail
  go_ret
  exact ⟨rfl, B.out⟩
theorem cbits_open (n : Int) (b : Bool) (v : Nat) (F : Nat → Bool) (h0 : v ≠ 0) (h1 : v ≠ 1) (w : World) : Calls Tryd.prog 8 #[.int .u64 n, .bool b, .agg (bcells 64 F), .int .i64 v] w fun e w' => e = .returned (.bool true) ∧ Below w.heap.size w w' := by
  have B := hid (show Below w.heap.size w (w.alloc (.cells (bcells 64 F) 25)) by go_grown)
  have e0 : ((v : Int) == 0) = false := by rw [beq_eq_false_iff_ne]; omega
  have e1 : ((v : Int) == 1) = false := by rw [beq_eq_false_iff_ne]; omega
  clear h0 h1
  go_enter Tryd.func8, Tryd.ntmps8
  go_upto_region 1 with fail
  generalize (w.alloc (.cells (bcells 64 F) 25)) = w1 at B ⊢
  go_wp2_with fail
  go_ret
  exact ⟨rfl, B.out⟩

theorem item_out1 (k s_ : Int) (s : ByteArray) (w : World) (h : 2147483647 < s.size) : Calls Tryd.prog 3 #[.int .i64 k, .string s] w fun e w' => e = .returned (.bool true) ∧ Below w.heap.size w w' := by
  have g : (2147483647 : Int) < (s.size : Int) := by omega
  clear h
  go_enter Tryd.func3, Tryd.ntmps3
  go_wp2_with fail
  go_ret
  exact ⟨rfl, Below.refl _ _⟩
theorem item_out2 (k : Int) (s : ByteArray) (w : World) (h : ¬ 2147483647 < s.size) (hk : ¬ (0 ≤ k ∧ k < 6)) : Calls Tryd.prog 3 #[.int .i64 k, .string s] w fun e w' => e = .returned (.bool true) ∧ Below w.heap.size w w' := by
  have g : ¬ (2147483647 : Int) < (s.size : Int) := by omega
  have CK := hid (fun w => isKind_any k w)
  rw [decide_eq_false hk] at CK
  clear h hk
  go_enter Tryd.func3, Tryd.ntmps3
  go_wp2_with (go_at_call 4; refine (CK.out _).mono ?_; rintro e w' ⟨rfl, rfl⟩)
  go_ret
  exact ⟨rfl, Below.refl _ _⟩
theorem item_out3 (k : Int) (s : ByteArray) (w : World) (h : ¬ 2147483647 < s.size) (hk : 0 ≤ k ∧ k < 6) (hz : 65536 < s.size) : Calls Tryd.prog 3 #[.int .i64 k, .string s] w fun e w' => e = .returned (.bool true) ∧ Below w.heap.size w w' := by
  have g : ¬ (2147483647 : Int) < (s.size : Int) := by omega
  have g2 : (65536 : Int) < (s.size : Int) := by omega
  have CK := hid (fun w => isKind_any k w)
  rw [decide_eq_true hk] at CK
  clear h hk hz
  go_enter Tryd.func3, Tryd.ntmps3
  go_wp2_with (go_at_call 4; refine (CK.out _).mono ?_; rintro e w' ⟨rfl, rfl⟩)
  go_ret
  exact ⟨rfl, Below.refl _ _⟩
theorem item_meets (k : Nat) (l : List UInt8) : ((itemRK k l).2 = 0 → itemK k l = none) ∧ ((itemRK k l).2 = 1 → itemK k l = some (itemRK k l).1) :=
  item_law (kLo k) (kHi k) (dayB k) (valR k) (ival k lwL) (fun x h => val_bad (lwL_ascii x) h) (fun x n h => val_fine (lwL_ascii x) h) (k_bounds k).1 (k_bounds k).2 l

set_option maxHeartbeats 3200000 in
set_option maxRecDepth 100000 in
theorem item_core (k : Nat) (hk : k ≤ 5) (s : ByteArray) (hs : s.size ≤ 65536) (w : World) (hv : Vars w) (n : Nat) (b : Bool) (p : Nat × Nat) (hp : itemRK k s.toList = p)
    (CI : ∀ w, Vars w → Calls Tryd.prog 7 #[.int .i64 k, .string s] w fun e w' => e = .returned (.tuple #[.int .u64 (n : Nat), .bool b]) ∧ Below w.heap.size w w')
    (CB : ∀ (F : Nat → Bool), (p.2 = 1 → sumF F = p.1) → ∀ w, Calls Tryd.prog 8 #[.int .u64 (n : Nat), .bool b, .agg (bcells 64 F), .int .i64 (p.2 : Nat)] w fun e w' => e = .returned (.bool true) ∧ Below w.heap.size w w') :
    Calls Tryd.prog 3 #[.int .i64 k, .string s] w fun e w' => e = .returned (.bool true) ∧ Below w.heap.size w w' := by
  have g : ¬ (2147483647 : Int) < (s.size : Int) := by omega
  have g2 : ¬ (65536 : Int) < (s.size : Int) := by omega
  have CK := hid (fun w => isKind_any k w)
  rw [decide_eq_true (by omega)] at CK
  have CO := hid (fun w => boundsOf_any k hk w)
  have CR := hid (fun w => item_any k hk s hs w)
  rw [hp] at CR
  have HV := hid hv
  have CI := hid CI
  have CB := hid CB
  clear hk hs hv hp
  obtain ⟨p1, p2⟩ := p
  generalize kLo k = lo at CO CR
  generalize kHi k = hi at CO CR
  go_enter Tryd.func3, Tryd.ntmps3
  go_wp2_with (first
    | (go_at_call 4; refine (CK.out _).mono ?_; rintro e w' ⟨rfl, rfl⟩)
    | (go_at_call 6; refine (CO.out _).mono ?_; rintro e w2 ⟨rfl, hb⟩; have B2 := hid hb; clear hb)
    | (go_at_call 5; refine (CR.out _).mono ?_; rintro e w3 ⟨⟨F, rfl, hF⟩, hb⟩; have B3 := hid (bq B2.out hb); have HF := hid hF; clear hb hF)
    | (refine wpList_store_mid rfl 25 (.tmp 5) (.tmp 25) rfl w3.heap.size 0 (bcells 64 F) rfl rfl (by rw [bcells_size]; exact (z64 ▸ Blk.new w3 25 (List.toArray (.bool false :: .bool false :: .bool false :: .bool false :: .bool false :: .bool false :: .bool false :: .bool false :: .bool false :: .bool false :: .bool false :: .bool false :: .bool false :: .bool false :: .bool false :: .bool false :: .bool false :: .bool false :: .bool false :: .bool false :: .bool false :: .bool false :: .bool false :: .bool false :: .bool false :: .bool false :: .bool false :: .bool false :: .bool false :: .bool false :: .bool false :: .bool false :: .bool false :: .bool false :: .bool false :: .bool false :: .bool false :: .bool false :: .bool false :: .bool false :: .bool false :: .bool false :: .bool false :: .bool false :: .bool false :: .bool false :: .bool false :: .bool false :: .bool false :: .bool false :: .bool false :: .bool false :: .bool false :: .bool false :: .bool false :: .bool false :: .bool false :: .bool false :: .bool false :: .bool false :: .bool false :: .bool false :: .bool false :: .bool false :: []) : Array Value) : Blk (w3.alloc (.cells (List.toArray (.bool false :: .bool false :: .bool false :: .bool false :: .bool false :: .bool false :: .bool false :: .bool false :: .bool false :: .bool false :: .bool false :: .bool false :: .bool false :: .bool false :: .bool false :: .bool false :: .bool false :: .bool false :: .bool false :: .bool false :: .bool false :: .bool false :: .bool false :: .bool false :: .bool false :: .bool false :: .bool false :: .bool false :: .bool false :: .bool false :: .bool false :: .bool false :: .bool false :: .bool false :: .bool false :: .bool false :: .bool false :: .bool false :: .bool false :: .bool false :: .bool false :: .bool false :: .bool false :: .bool false :: .bool false :: .bool false :: .bool false :: .bool false :: .bool false :: .bool false :: .bool false :: .bool false :: .bool false :: .bool false :: .bool false :: .bool false :: .bool false :: .bool false :: .bool false :: .bool false :: .bool false :: .bool false :: .bool false :: .bool false :: []) : Array Value) 25)) w3.heap.size 25 (bcells 64 noF)).there_b (by omega)) (by rw [bcells_size]; kernel_rfl) bcells_one ?_
       have K4 := hid (full_store (G := F) (z64 ▸ Blk.new w3 25 (List.toArray (.bool false :: .bool false :: .bool false :: .bool false :: .bool false :: .bool false :: .bool false :: .bool false :: .bool false :: .bool false :: .bool false :: .bool false :: .bool false :: .bool false :: .bool false :: .bool false :: .bool false :: .bool false :: .bool false :: .bool false :: .bool false :: .bool false :: .bool false :: .bool false :: .bool false :: .bool false :: .bool false :: .bool false :: .bool false :: .bool false :: .bool false :: .bool false :: .bool false :: .bool false :: .bool false :: .bool false :: .bool false :: .bool false :: .bool false :: .bool false :: .bool false :: .bool false :: .bool false :: .bool false :: .bool false :: .bool false :: .bool false :: .bool false :: .bool false :: .bool false :: .bool false :: .bool false :: .bool false :: .bool false :: .bool false :: .bool false :: .bool false :: .bool false :: .bool false :: .bool false :: .bool false :: .bool false :: .bool false :: .bool false :: []) : Array Value) : Blk (w3.alloc (.cells (List.toArray (.bool false :: .bool false :: .bool false :: .bool false :: .bool false :: .bool false :: .bool false :: .bool false :: .bool false :: .bool false :: .bool false :: .bool false :: .bool false :: .bool false :: .bool false :: .bool false :: .bool false :: .bool false :: .bool false :: .bool false :: .bool false :: .bool false :: .bool false :: .bool false :: .bool false :: .bool false :: .bool false :: .bool false :: .bool false :: .bool false :: .bool false :: .bool false :: .bool false :: .bool false :: .bool false :: .bool false :: .bool false :: .bool false :: .bool false :: .bool false :: .bool false :: .bool false :: .bool false :: .bool false :: .bool false :: .bool false :: .bool false :: .bool false :: .bool false :: .bool false :: .bool false :: .bool false :: .bool false :: .bool false :: .bool false :: .bool false :: .bool false :: .bool false :: .bool false :: .bool false :: .bool false :: .bool false :: .bool false :: .bool false :: []) : Array Value) 25)) w3.heap.size 25 (bcells 64 noF)))
       have B4 := hid (below_setCells (g := w3.heap.size) B3.out.size (bcells 64 F).toList 0 (w3.alloc (.cells (List.toArray (.bool false :: .bool false :: .bool false :: .bool false :: .bool false :: .bool false :: .bool false :: .bool false :: .bool false :: .bool false :: .bool false :: .bool false :: .bool false :: .bool false :: .bool false :: .bool false :: .bool false :: .bool false :: .bool false :: .bool false :: .bool false :: .bool false :: .bool false :: .bool false :: .bool false :: .bool false :: .bool false :: .bool false :: .bool false :: .bool false :: .bool false :: .bool false :: .bool false :: .bool false :: .bool false :: .bool false :: .bool false :: .bool false :: .bool false :: .bool false :: .bool false :: .bool false :: .bool false :: .bool false :: .bool false :: .bool false :: .bool false :: .bool false :: .bool false :: .bool false :: .bool false :: .bool false :: .bool false :: .bool false :: .bool false :: .bool false :: .bool false :: .bool false :: .bool false :: .bool false :: .bool false :: .bool false :: .bool false :: .bool false :: []) : Array Value) 25)) (bq B3.out (show Below w3.heap.size w3 (w3.alloc (.cells (List.toArray (.bool false :: .bool false :: .bool false :: .bool false :: .bool false :: .bool false :: .bool false :: .bool false :: .bool false :: .bool false :: .bool false :: .bool false :: .bool false :: .bool false :: .bool false :: .bool false :: .bool false :: .bool false :: .bool false :: .bool false :: .bool false :: .bool false :: .bool false :: .bool false :: .bool false :: .bool false :: .bool false :: .bool false :: .bool false :: .bool false :: .bool false :: .bool false :: .bool false :: .bool false :: .bool false :: .bool false :: .bool false :: .bool false :: .bool false :: .bool false :: .bool false :: .bool false :: .bool false :: .bool false :: .bool false :: .bool false :: .bool false :: .bool false :: .bool false :: .bool false :: .bool false :: .bool false :: .bool false :: .bool false :: .bool false :: .bool false :: .bool false :: .bool false :: .bool false :: .bool false :: .bool false :: .bool false :: .bool false :: .bool false :: []) : Array Value) 25)) by go_grown)))
       obtain ⟨g5, hg5⟩ : ∃ g5, w3.heap.size = g5 := ⟨_, rfl⟩
       rw [hg5] at K4 B4 ⊢
       clear hg5
       generalize (w3.alloc (.cells (List.toArray (.bool false :: .bool false :: .bool false :: .bool false :: .bool false :: .bool false :: .bool false :: .bool false :: .bool false :: .bool false :: .bool false :: .bool false :: .bool false :: .bool false :: .bool false :: .bool false :: .bool false :: .bool false :: .bool false :: .bool false :: .bool false :: .bool false :: .bool false :: .bool false :: .bool false :: .bool false :: .bool false :: .bool false :: .bool false :: .bool false :: .bool false :: .bool false :: .bool false :: .bool false :: .bool false :: .bool false :: .bool false :: .bool false :: .bool false :: .bool false :: .bool false :: .bool false :: .bool false :: .bool false :: .bool false :: .bool false :: .bool false :: .bool false :: .bool false :: .bool false :: .bool false :: .bool false :: .bool false :: .bool false :: .bool false :: .bool false :: .bool false :: .bool false :: .bool false :: .bool false :: .bool false :: .bool false :: .bool false :: .bool false :: []) : Array Value) 25)).setCells g5 0 (bcells 64 F).toList = w4 at K4 B4 ⊢)
    | (go_at_call 7; refine (CI.out _ (vars_kept _ _ HV.out B4.out)).mono ?_; rintro e w5 ⟨rfl, hb⟩; have B5 := hid (bq B4.out hb); have K5 := hid (K4.out.below hb); clear hb)
    | (refine wpList_load_mid rfl 25 (.tmp 5) rfl g5 0 rfl (bcells 64 F).toList _ (by have hl := K5.out.range_b (o := 0) (m := 64) (by omega); rwa [show (fun i => F (0 + i)) = F from funext fun i => by rw [Nat.zero_add]] at hl) Tryd.underlying25 rfl (by rw [bcells_len]; kernel_rfl) ?_)
    | (go_at_call 8; refine (CB.out F HF.out _).mono ?_; rintro e w6 ⟨rfl, hb⟩; have B6 := hid (bq B5.out hb); clear hb))
  go_ret
  exact ⟨rfl, B6.out⟩
theorem fnCronItem_walk (k : Int) (s : ByteArray) (w : World) (_ : (Lit.int .i64 k).wf = true) (_ : s.size ≤ maxLen) (hv : Vars w) :
    Calls Tryd.prog 3 #[.int .i64 k, .string s] w fun e w' => e = .returned (.bool true) ∧ Below w.heap.size w w' := by
  by_cases h1 : 2147483647 < s.size
  · exact item_out1 k 0 s w h1
  by_cases h2 : 0 ≤ k ∧ k < 6
  case neg => exact item_out2 k s w h1 h2
  by_cases h3 : 65536 < s.size
  · exact item_out3 k s w h1 h2 h3
  obtain ⟨j, rfl⟩ := Int.eq_ofNat_of_zero_le h2.1
  have hj : j ≤ 5 := by omega
  have hs : s.size ≤ 65536 := by omega
  obtain ⟨m0, m1⟩ := item_meets j s.toList
  obtain ⟨p, hp⟩ : ∃ p, itemRK j s.toList = p := ⟨_, rfl⟩
  rw [hp] at m0 m1
  by_cases p1 : p.2 = 1
  · refine item_core j hj s hs w hv p.1 true p hp (fun w hv => implItem_some j hj s hs p.1 (m1 p1) w hv) (fun F hF w => ?_)
    rw [p1]
    exact cbits_fine p.1 F (hF p1) w
  by_cases p0 : p.2 = 0
  · refine item_core j hj s hs w hv 0 false p hp (fun w hv => implItem_none j hj s hs (m0 p0) w hv) (fun F hF w => ?_)
    rw [p0]
    exact cbits_bad F w
  rcases hi : itemK j s.toList with _ | n
  · exact item_core j hj s hs w hv 0 false p hp (fun w hv => implItem_none j hj s hs hi w hv) (fun F hF w => cbits_open 0 false p.2 F p0 p1 w)
  · exact item_core j hj s hs w hv n true p hp (fun w hv => implItem_some j hj s hs n hi w hv) (fun F hF w => cbits_open n true p.2 F p0 p1 w)
end Go.Proofs.YtomkhhpigpilfaaDoor
