/- The reference's CronFieldsOf: six sets as one array. Walked. -/
import Derived.Test.YtfmagbkcfeckhaaFields
import Derived.Test.YtfmagbkcfeckhaaSched
set_option linter.unusedVariables false
set_option linter.unusedSimpArgs false
namespace Go.Proofs.Ytfmagbkcfeckhaa
open Go.RowKit

/-- The bits of field k of a schedule. -/
def bitsOf (S : Sets) : Nat → Int
  | 0 => S.sec
  | 1 => S.min
  | 2 => S.hour
  | 3 => S.dom
  | 4 => S.month
  | _ => S.dow
def fldB (S : Sets) (i : Nat) : Bool := setB (i / 64) (bitsOf S (i / 64)) (i % 64)
def partF (S : Sets) (k : Nat) (i : Nat) : Bool := if i < 64 * k then fldB S i else false
def setsAll (S : Sets) : Prop := ∀ k, k ≤ 5 → 0 ≤ bitsOf S k ∧ bitsOf S k < 18446744073709551616
theorem zero47 (X : World) : (zeroValue 47).run Try.prog X = .ok (.agg (bcells 384 fun _ => false)) X := by kernel_rfl
theorem step_f (S : Sets) (k : Nat) (hk : k ≤ 5) : putm (partF S k) (k * 64) 64 (setB k (bitsOf S k)) = partF S (k + 1) := by
  funext i
  unfold putm partF
  by_cases h : k * 64 ≤ i ∧ i < k * 64 + 64
  · rw [if_pos h, if_pos (by omega)]
    unfold fldB
    rw [show i / 64 = k by omega, show i % 64 = i - k * 64 by omega]
  · rw [if_neg h]
    by_cases h2 : i < 64 * k
    · rw [if_pos h2, if_pos (by omega)]
    · rw [if_neg h2, if_neg (by omega)]
theorem idx79 (a b c d e f : Int) (k : Nat) (S : Sets) (hS : S = ⟨a, b, c, d, e, f⟩) (hk : k ≤ 5) (X : World) : (Instr.index 79 (.agg #[.int .u64 a, .int .u64 b, .int .u64 c, .int .u64 d, .int .u64 e, .int .u64 f]) (.int .i64 k)).run Try.prog X = .ok (.int .u64 (bitsOf S k)) X := by
  subst hS
  rcases (by omega : k = 0 ∨ k = 1 ∨ k = 2 ∨ k = 3 ∨ k = 4 ∨ k = 5) with rfl | rfl | rfl | rfl | rfl | rfl <;> kernel_rfl

set_option maxHeartbeats 3200000 in
set_option maxRecDepth 100000 in
theorem fieldsOf_any (dl : Int) (S : Sets) (hS : setsAll S) (w : World) : Calls Try.prog 16 #[.agg (schCells dl S)] w fun e w' => e = .returned (.agg (bcells 384 (fldB S))) ∧ Below w.heap.size w w' := by
  have HS := hid hS
  clear hS
  have hz := zero47
  have N := hid (show ∀ f : Nat → Bool, (Try.prog.info? 45).map (·.size) = some (bcells 64 f).size from fun f => by rw [bcells_size]; kernel_rfl)
  have A1 := hid (fun k (hk : k ≤ 5) X => setOf_any k hk (bitsOf S k) (HS.out k hk).1 (HS.out k hk).2 X)
  have IX := hid (fun k (hk : k ≤ 5) X => idx79 S.sec S.min S.hour S.dom S.month S.dow k S rfl hk X)
  have B := hid (show Below w.heap.size w (((w.alloc (.cells (schCells dl S) 24)).alloc (.cells (bcells 384 fun _ => false) 47)).alloc (.cells (bcells 384 fun _ => false) 47)) by go_grown)
  have R0 := hid (((Blk.new w 24 (schCells dl S)).alloc (.cells (bcells 384 fun _ => false) 47)).alloc (.cells (bcells 384 fun _ => false) 47))
  have R1 := hid ((Blk.new (w.alloc (.cells (schCells dl S) 24)) 47 (bcells 384 fun _ => false)).alloc (.cells (bcells 384 fun _ => false) 47))
  have R2 := hid (Blk.new ((w.alloc (.cells (schCells dl S) 24)).alloc (.cells (bcells 384 fun _ => false) 47)) 47 (bcells 384 fun _ => false))
  simp only [World.size_alloc] at R1 R2
  go_enter Try.func16, Try.ntmps16
  go_upto_region 2 with fail
  generalize (((w.alloc (.cells (schCells dl S) 24)).alloc (.cells (bcells 384 fun _ => false) 47)).alloc (.cells (bcells 384 fun _ => false) 47)) = w1 at B R0 R1 R2 ⊢
  have c2 := R0.out.cell 2
  have c3 := R0.out.cell 3
  have c4 := R0.out.cell 4
  have c5 := R0.out.cell 5
  have c6 := R0.out.cell 6
  have c7 := R0.out.cell 7
  clear hz
  go_wp2_with fail
  clear c2 c3 c4 c5 c6 c7
  go_loopw [19] (fun u wr => ∃ k : Nat, u = .int .i64 k ∧ k ≤ 6 ∧ Blk wr (w.heap.size + 1 + 1) 47 (bcells 384 (partF S k)) ∧ Blk wr (w.heap.size + 1) 47 (bcells 384 (fun _ => false)) ∧ Below w.heap.size w wr) (fun u _ => 6 - (intOf u).toNat)
  case atStart => exact ⟨0, rfl, by omega, by rw [show partF S 0 = fun _ => false from funext fun i => by simp [partF]]; exact R2.out, R1.out, B.out⟩
  case round =>
    obtain ⟨k, rfl, hk, hs, hr, hb⟩ := hrel
    have KS := hid hs
    have KR := hid hr
    have KB := hid hb
    clear hs hr hb
    by_cases hc : k < 6
    · have c1 : (k : Int) < 6 := by omega
      have k0 : (0 : Int) ≤ k := by omega
      have hix := IX.out k (by omega)
      obtain ⟨m, hm⟩ : ∃ m, bitsOf S k = m := ⟨_, rfl⟩
      have C := hid (A1.out k (by omega))
      rw [hm] at hix C
      have HM := hid hm
      clear hm
      go_wp2_with (first
        | (go_at_call 35; refine (C.out _).mono ?_; rintro e w2 ⟨rfl, hb⟩; have KS2 := hid (KS.out.below hb); have KR2 := hid (KR.out.below hb); have KB2 := hid (bt KB.out hb); clear hb)
        | (refine wpList_store_mid (op := ⟨none, .store 45 (.tmp 27) (.tmp 26), _, _, _, _⟩) rfl 45 (.tmp 27) (.tmp 26) rfl (w.heap.size + 1 + 1) (k * 64) (bcells 64 (setB k m)) rfl rfl (by rw [bcells_size]; exact KS2.out.there_b (by omega)) (N.out _) bcells_one ?_; have KS3 := hid (KS2.out.putm_b (o := k * 64) (m := 64) (h := setB k m) (by omega)); have KR3 := hid (Blk.setCells_other (h := w.heap.size + 1 + 1) (by omega) (bcells 64 (setB k m)).toList (k * 64) w2 KR2.out); have KB3 := hid (below_setCells (g := w.heap.size + 1 + 1) (by omega) (bcells 64 (setB k m)).toList (k * 64) w2 KB2.out); generalize (w2.setCells (w.heap.size + 1 + 1) (k * 64) (bcells 64 (setB k m)).toList) = w3 at KS3 KR3 KB3 ⊢))
      have h3 := KS3.out
      rw [← HM.out, step_f S k (by omega)] at h3
      refine ⟨⟨k + 1, by rw [Int.natCast_add]; rfl, by omega, h3, KR3.out, KB3.out⟩, ?_⟩
      clear h3 KS KR KB KS2 KR2 KB2 KS3 KR3 KB3 hix C HM A1 IX N HS
      show 6 - (intOf (Value.int IntKind.i64 (k + 1))).toNat < 6 - (intOf (Value.int IntKind.i64 k)).toNat
      simp only [intOf]
      omega
    · obtain rfl : k = 6 := by omega
      have c1 : ¬ (((6 : Nat) : Int) < 6) := by omega
      go_upto_region 7 with fail
      refine wp_region_lit ?_
      have hl := KS.out.range_b (o := 0) (m := 384) (by omega)
      rw [show (fun i => partF S 6 (0 + i)) = partF S 6 from funext fun i => by rw [Nat.zero_add]] at hl
      refine wpList_load_mid rfl 47 (.tmp 3) rfl (w.heap.size + 1 + 1) 0 rfl (bcells 384 (partF S 6)).toList _ hl Try.underlying47 rfl (by rw [bcells_len]; kernel_rfl) ?_
      refine wpList_store_mid rfl 47 (.tmp 2) (.tmp 29) rfl (w.heap.size + 1) 0 (bcells 384 (partF S 6)) rfl rfl (by rw [bcells_size]; exact KR.out.there_b (by omega)) (by rw [bcells_size]; kernel_rfl) bcells_one ?_
      have hz6 := KR.out.putm_b (o := 0) (m := 384) (h := partF S 6) (by omega)
      rw [bcells_ext (f := putm (fun _ => false) 0 384 (partF S 6)) (h := fldB S) (fun i hi => by simp only [putm, partF]; rw [if_pos (by omega), if_pos (by omega), Nat.sub_zero])] at hz6
      have hb6 := below_setCells (g := w.heap.size + 1) (by omega) (bcells 384 (partF S 6)).toList 0 wr KB.out
      generalize (wr.setCells (w.heap.size + 1) 0 (bcells 384 (partF S 6)).toList) = w6 at hz6 hb6 ⊢
      go_wp2_with fail
      exact bodyPost_ret (results_cell_row rfl _ _ (w.heap.size + 1) 47 _ (0, 0) _ rfl hz6 Try.underlying47 rfl (by rw [bcells_size]; kernel_rfl)) rfl ⟨rfl, hb6⟩
end Go.Proofs.Ytfmagbkcfeckhaa
