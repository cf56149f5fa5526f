/- The reference's names and values of a field: CronName, CronValue; CronStep, worse. Walked. -/
import Derived.Test.YtomkhhpigpilfaaGreatDoorRefL
import Derived.Test.YtomkhhpigpilfaaGreatDoorItP
import Derived.Test.YtomkhhpigpilfaaGreatDoorItI
set_option linter.unusedVariables false
set_option linter.unusedSimpArgs false
namespace Go.Proofs.YtomkhhpigpilfaaGreatDoor
open Go.RowKit

theorem low_any (k : Nat) (hk : k ≤ 5) (w : World) : Calls Tryz.prog 29 #[.int .i64 k] w fun e w' => e = .returned (.int .i64 (kLo k : Nat)) ∧ w = w' := by
  match k, hk with
  | 0, _ | 1, _ | 2, _ | 3, _ | 4, _ | 5, _ =>
    go_enter Tryz.func29, Tryz.ntmps29
    go_wp2
    go_ret
    exact ⟨rfl, rfl⟩
  | k + 6, h => omega
theorem high_any (k : Nat) (hk : k ≤ 5) (w : World) : Calls Tryz.prog 62 #[.int .i64 k] w fun e w' => e = .returned (.int .i64 (kHi k : Nat)) ∧ w = w' := by
  match k, hk with
  | 0, _ | 1, _ | 2, _ | 3, _ | 4, _ | 5, _ =>
    go_enter Tryz.func62, Tryz.ntmps62
    go_wp2
    go_ret
    exact ⟨rfl, rfl⟩
  | k + 6, h => omega
/-- The names in one text. -/
def NM4 : ByteArray := ⟨#[46, 46, 46, 74, 65, 78, 70, 69, 66, 77, 65, 82, 65, 80, 82, 77, 65, 89, 74, 85, 78, 74, 85, 76, 65, 85, 71, 83, 69, 80, 79, 67, 84, 78, 79, 86, 68, 69, 67]⟩
def NM5 : ByteArray := ⟨#[83, 85, 78, 77, 79, 78, 84, 85, 69, 87, 69, 68, 84, 72, 85, 70, 82, 73, 83, 65, 84]⟩
def nmU (k v : Nat) : ByteArray := if k = 4 then NM4.extract (3 * v) (3 * v + 3) else NM5.extract (3 * v) (3 * v + 3)
theorem slice3 (s : ByteArray) (v : Nat) (h : 3 * v + 3 ≤ s.size) (w : World) : (Instr.slice 9 (.string s) (some (.int .i64 (3 * (v : Int)))) (some (.int .i64 (3 * (v : Int) + 3))) none).run Tryz.prog w = .ok (.string (s.extract (3 * v) (3 * v + 3))) w := by
  have := run_slice_string (P := Tryz.prog) w 9 s .i64 .i64 (3 * (v : Int)) (3 * (v : Int) + 3) Tryz.underlying9 (by omega) (by omega) (by omega)
  rw [this]
  congr 2
set_option maxRecDepth 100000 in
theorem name4_any (v : Nat) (h1 : 1 ≤ v) (h2 : v ≤ 12) (w : World) : Calls Tryz.prog 106 #[.int .i64 4, .int .i64 v] w fun e w' => e = .returned (.string (nmU 4 v)) ∧ w = w' := by
  have g1 : ¬ (v : Int) < 1 := by omega
  have g2 : ¬ (12 : Int) < (v : Int) := by omega
  have hsl := slice3 NM4 v (by show _ ≤ 39; omega)
  have HN := hid (show nmU 4 v = NM4.extract (3 * v) (3 * v + 3) from if_pos rfl)
  have hq : (NM4.toList == []) = false := by decide +kernel
  have CL : ∀ w, Calls Tryz.prog 29 #[.int .i64 4] w fun e w' => e = .returned (.int .i64 1) ∧ w = w' := fun w => low_any 4 (by decide) w
  have CH : ∀ w, Calls Tryz.prog 62 #[.int .i64 4] w fun e w' => e = .returned (.int .i64 12) ∧ w = w' := fun w => high_any 4 (by decide) w
  replace CL := hid CL
  replace CH := hid CH
  unfold NM4 at hsl HN hq
  go_enter Tryz.func106, Tryz.ntmps106
  go_wp2_with (first
    | (go_at_call 29; refine (CL.out _).mono ?_; rintro e w' ⟨rfl, rfl⟩)
    | (go_at_call 62; refine (CH.out _).mono ?_; rintro e w' ⟨rfl, rfl⟩))
  go_ret
  exact ⟨by rw [HN.out]; rfl, rfl⟩
set_option maxRecDepth 100000 in
theorem name5_any (v : Nat) (h2 : v ≤ 6) (w : World) : Calls Tryz.prog 106 #[.int .i64 5, .int .i64 v] w fun e w' => e = .returned (.string (nmU 5 v)) ∧ w = w' := by
  have g1 : ¬ (v : Int) < 0 := by omega
  have g2 : ¬ (6 : Int) < (v : Int) := by omega
  have hsl := slice3 NM5 v (by show _ ≤ 21; omega)
  have HN := hid (show nmU 5 v = NM5.extract (3 * v) (3 * v + 3) from if_neg (by decide))
  have hq : (NM5.toList == []) = false := by decide +kernel
  have CL : ∀ w, Calls Tryz.prog 29 #[.int .i64 5] w fun e w' => e = .returned (.int .i64 0) ∧ w = w' := fun w => low_any 5 (by decide) w
  have CH : ∀ w, Calls Tryz.prog 62 #[.int .i64 5] w fun e w' => e = .returned (.int .i64 6) ∧ w = w' := fun w => high_any 5 (by decide) w
  replace CL := hid CL
  replace CH := hid CH
  unfold NM5 at hsl HN hq
  go_enter Tryz.func106, Tryz.ntmps106
  go_wp2_with (first
    | (go_at_call 29; refine (CL.out _).mono ?_; rintro e w' ⟨rfl, rfl⟩)
    | (go_at_call 62; refine (CH.out _).mono ?_; rintro e w' ⟨rfl, rfl⟩))
  go_ret
  exact ⟨by rw [HN.out]; rfl, rfl⟩
theorem name_any (k v : Nat) (hk : k = 4 ∨ k = 5) (h1 : kLo k ≤ v) (h2 : v ≤ kHi k) (w : World) : Calls Tryz.prog 106 #[.int .i64 k, .int .i64 v] w fun e w' => e = .returned (.string (nmU k v)) ∧ w = w' := by
  rcases hk with rfl | rfl
  · exact name4_any v h1 h2 w
  · exact name5_any v h2 w

theorem upB_nat (x : UInt8) : (upB x).toNat = if 97 ≤ x.toNat ∧ x.toNat ≤ 122 then x.toNat - 32 else x.toNat := by
  have := x.toNat_lt
  unfold upB
  split
  · rw [UInt8.toNat_ofNat']; omega
  · rfl
theorem lowB_nat (x : UInt8) : (lowB x).toNat = if 65 ≤ x.toNat ∧ x.toNat ≤ 90 then x.toNat + 32 else x.toNat := by
  have := x.toNat_lt
  unfold lowB
  split
  · rw [UInt8.toNat_ofNat']; omega
  · rfl
theorem up_low (x c : UInt8) (hc : 65 ≤ c.toNat ∧ c.toNat ≤ 90) : upB c = upB x ↔ lowB x = lowB c := by
  rw [← UInt8.toNat_inj, ← UInt8.toNat_inj, upB_nat, upB_nat, lowB_nat, lowB_nat]
  have := x.toNat_lt
  generalize x.toNat = n at *
  generalize c.toNat = m at *
  rw [if_neg (show ¬ (97 ≤ m ∧ m ≤ 122) by omega), if_pos hc]
  split <;> split <;> omega
theorem same_low : ∀ (U l : List UInt8), U.all (fun c => decide (65 ≤ c.toNat ∧ c.toNat ≤ 90)) = true → (U.map upB = l.map upB ↔ l.map lowB = U.map lowB)
  | [], [], _ => Iff.intro (fun _ => rfl) (fun _ => rfl)
  | [], x :: l, _ => Iff.intro (fun h => absurd h (by simp)) (fun h => absurd h (by simp))
  | c :: U, [], _ => Iff.intro (fun h => absurd h (by simp)) (fun h => absurd h (by simp))
  | c :: U, x :: l, h => by
    rw [List.all_cons, Bool.and_eq_true] at h
    have h1 := up_low x c (of_decide_eq_true h.1)
    have h2 := same_low U l h.2
    simp only [List.map_cons, List.cons.injEq]
    rw [h1, h2]
theorem nm_upper (k v : Nat) (hk : k = 4 ∨ k = 5) (h1 : kLo k ≤ v) (h2 : v ≤ kHi k) : (nmU k v).toList.all (fun c => decide (65 ≤ c.toNat ∧ c.toNat ≤ 90)) = true ∧ nameIn (nm k) ((nmU k v).toList.map lowB) = some v ∧ (nmU k v).size ≤ 65536 := by
  have h4 : ∀ v, v < 13 → 1 ≤ v → (nmU 4 v).toList.all (fun c => decide (65 ≤ c.toNat ∧ c.toNat ≤ 90)) = true ∧ nameIn (nm 4) ((nmU 4 v).toList.map lowB) = some v ∧ (nmU 4 v).size ≤ 65536 := by decide +kernel
  have h5 : ∀ v, v < 7 → (nmU 5 v).toList.all (fun c => decide (65 ≤ c.toNat ∧ c.toNat ≤ 90)) = true ∧ nameIn (nm 5) ((nmU 5 v).toList.map lowB) = some v ∧ (nmU 5 v).size ≤ 65536 := by decide +kernel
  rcases hk with rfl | rfl
  · exact h4 v (Nat.lt_succ_of_le h2) h1
  · exact h5 v (Nat.lt_succ_of_le h2)
theorem nm_keys (k : Nat) (hk : k = 4 ∨ k = 5) : ∀ p ∈ nm k, kLo k ≤ p.2 ∧ p.2 ≤ kHi k ∧ p.1 = (nmU k p.2).toList.map lowB := by
  have h4 : ∀ p ∈ nm 4, kLo 4 ≤ p.2 ∧ p.2 ≤ kHi 4 ∧ p.1 = (nmU 4 p.2).toList.map lowB := by decide +kernel
  have h5 : ∀ p ∈ nm 5, kLo 5 ≤ p.2 ∧ p.2 ≤ kHi 5 ∧ p.1 = (nmU 5 p.2).toList.map lowB := by decide +kernel
  rcases hk with rfl | rfl
  · exact h4
  · exact h5
theorem name_hit {k v : Nat} {l : List UInt8} (hk : k = 4 ∨ k = 5) (h1 : kLo k ≤ v) (h2 : v ≤ kHi k) (h : sameB (nmU k v).toList l = true) : nameIn (nm k) (l.map lowB) = some v := by
  obtain ⟨a, b, _⟩ := nm_upper k v hk h1 h2
  rw [(same_low _ l a).1 (by unfold sameB at h; simpa using h)]
  exact b
theorem name_miss {k : Nat} {l : List UInt8} (hk : k = 4 ∨ k = 5) (h : ∀ v, kLo k ≤ v → v ≤ kHi k → sameB (nmU k v).toList l = false) : nameIn (nm k) (l.map lowB) = none := by
  rcases hv : nameIn (nm k) (l.map lowB) with _ | v
  · rfl
  · exfalso
    obtain ⟨h1, h2, h3⟩ := nm_keys k hk _ (name_mem hv)
    obtain ⟨a, _, _⟩ := nm_upper k v hk h1 h2
    have := (same_low _ l a).2 h3
    have h4 := h v h1 h2
    unfold sameB at h4
    rw [this] at h4
    simp at h4

theorem valR_number {k : Nat} (h : ¬ (k = 4 ∨ k = 5)) (l : List UInt8) : valR k l = numR l := by
  unfold valR
  rw [nm_other h]
  show (if (k = 4 ∨ k = 5) ∧ foreign l = true then (0, 2) else numR l) = _
  rw [if_neg (fun q => h q.1)]
theorem valR_hit {k v : Nat} {l : List UInt8} (h : nameIn (nm k) (l.map lowB) = some v) : valR k l = (v, 1) := by unfold valR; rw [h]
theorem valR_foreign {k : Nat} {l : List UInt8} (hk : k = 4 ∨ k = 5) (h : nameIn (nm k) (l.map lowB) = none) (hf : foreign l = true) : valR k l = (0, 2) := by unfold valR; rw [h]; exact if_pos ⟨hk, hf⟩
theorem valR_num {k : Nat} {l : List UInt8} (h : nameIn (nm k) (l.map lowB) = none) (hf : foreign l = false) : valR k l = numR l := by unfold valR; rw [h]; exact if_neg (fun q => by rw [hf] at q; exact absurd q.2 (by decide))
def RetV (p : Nat × Nat) : Value := .tuple #[.int .i64 (p.1 : Nat), .int .i64 (p.2 : Nat)]

set_option maxHeartbeats 1600000 in
set_option maxRecDepth 100000 in
theorem value_any (k : Nat) (hk : k ≤ 5) (s : ByteArray) (hs : s.size ≤ 65536) (w : World) : Calls Tryz.prog 119 #[.int .i64 k, .string s] w fun e w' => e = .returned (RetV (valR k s.toList)) ∧ Below w.heap.size w w' := by
  have CN := hid (fun w => number_any s hs w)
  by_cases hn : k = 4 ∨ k = 5
  case neg =>
    rw [valR_number hn]
    have e4 : ((k : Int) == 4) = false := by rw [beq_eq_false_iff_ne]; omega
    have e5 : ((k : Int) == 5) = false := by rw [beq_eq_false_iff_ne]; omega
    clear hn hk hs
    go_enter Tryz.func119, Tryz.ntmps119
    go_wp2_with (go_at_call 120; refine (CN.out _).mono ?_; rintro e w' ⟨rfl, rfl⟩)
    go_returns
    exact ⟨rfl, Below.refl _ _⟩
  have hg : (((k : Int) == 4) = true) ∨ (((k : Int) == 4) = false ∧ ((k : Int) == 5) = true) := by
    rcases hn with rfl | rfl
    · exact .inl rfl
    · exact .inr ⟨rfl, rfl⟩
  have HK := hid hn
  have CL := hid (fun w => low_any k hk w)
  have CH := hid (fun w => high_any k hk w)
  have CF := hid (fun w => foreign_any s w hs)
  have CM := hid (fun v h1 h2 w => name_any k v hn h1 h2 w)
  have CS := hid (fun v h1 h2 w => same_any (nmU k v) s w (nm_upper k v hn h1 h2).2.2 hs)
  obtain ⟨lo, hlo⟩ : ∃ lo, kLo k = lo := ⟨_, rfl⟩
  obtain ⟨hi, hhi⟩ : ∃ hi, kHi k = hi := ⟨_, rfl⟩
  have HLH := hid (show lo ≤ hi + 1 ∧ hi ≤ 62 by have := k_bounds k; omega)
  rw [hlo] at CL CM CS
  rw [hhi] at CH CM CS
  have HMI := hid (fun (h : ∀ v, lo ≤ v → v ≤ hi → sameB (nmU k v).toList s.toList = false) => name_miss hn (by rw [hlo, hhi]; exact h))
  have HHI := hid (fun v h1 h2 (h : sameB (nmU k v).toList s.toList = true) => valR_hit (name_hit hn (by rw [hlo]; exact h1) (by rw [hhi]; exact h2) h))
  clear hn hk hs hlo hhi
  go_enter Tryz.func119, Tryz.ntmps119
  go_upto_region 1 with fail
  go_cut [6] (fun tv wx => tv = .bool true ∧ wx = w)
  case first =>
    rcases hg with e4 | ⟨e4, e5⟩
    all_goals
      go_wp2_with fail
      go_meet
      exact ⟨rfl, rfl⟩
  case rest =>
    obtain ⟨rfl, hwc⟩ := hcut
    replace hwc := hwc.symm
    subst hwc
    clear hg
    have hlh1 := HLH.out.1
    have hlh2 := HLH.out.2
    go_wp2_with (go_at_call 29; refine (CL.out _).mono ?_; rintro e w' ⟨rfl, rfl⟩)
    go_loopw [7] (fun v wr => ∃ j : Nat, lo ≤ j ∧ j ≤ hi + 1 ∧ v = .int .i64 j ∧ Hid (∀ v, lo ≤ v → v < j → sameB (nmU k v).toList s.toList = false) ∧ Hid (Below w.heap.size w wr)) (fun v _ => hi + 1 - (intOf v).toNat)
    case atStart => exact ⟨lo, Nat.le_refl _, hlh1, rfl, hid (fun v h1 h2 => by omega), hid (Below.refl _ _)⟩
    case round =>
      obtain ⟨j, hj1, hj2, rfl, HN, HB⟩ := hrel
      have gk : wrap64 ((j : Int) + 1) = (j : Int) + 1 := by unfold wrap64; omega
      by_cases hlt : j ≤ hi
      · have C1 := hid (fun w => CM.out j hj1 hlt w)
        have C2 := hid (fun w => CS.out j hj1 hlt w)
        obtain ⟨q, hq⟩ : ∃ q, sameB (nmU k j).toList s.toList = q := ⟨_, rfl⟩
        rw [hq] at C2
        have HQ := hid hq
        clear hq
        have glt : (j : Int) ≤ (hi : Int) := by omega
        cases q with
        | true =>
          have HV := hid (HHI.out j hj1 hlt HQ.out)
          go_wp2_with (first
            | (go_at_call 62; refine (CH.out _).mono ?_; rintro e w' ⟨rfl, rfl⟩)
            | (go_at_call 106; refine (C1.out _).mono ?_; rintro e w' ⟨rfl, rfl⟩)
            | (go_at_call 124; refine (C2.out _).mono ?_; rintro e w' ⟨rfl, hb⟩; have B2 := hid (bq HB.out hb); clear hb))
          go_returns
          exact ⟨by rw [HV.out]; rfl, B2.out⟩
        | false =>
          go_wp2_with (first
            | (go_at_call 62; refine (CH.out _).mono ?_; rintro e w' ⟨rfl, rfl⟩)
            | (go_at_call 106; refine (C1.out _).mono ?_; rintro e w' ⟨rfl, rfl⟩)
            | (go_at_call 124; refine (C2.out _).mono ?_; rintro e w' ⟨rfl, hb⟩; have B2 := hid (bq HB.out hb); clear hb))
          go_roundw
          case rel =>
            refine ⟨j + 1, by omega, by omega, by go_num, hid (fun v h1 h2 => ?_), B2⟩
            by_cases e : v = j
            · rw [e]; exact HQ.out
            · exact HN.out v h1 (by omega)
          case measure => simp [intOf]; omega
      · have gge : ¬ (j : Int) ≤ (hi : Int) := by omega
        have HNO := hid (HMI.out (fun v h1 h2 => HN.out v h1 (by omega)))
        obtain ⟨q, hq⟩ : ∃ q, foreign s.toList = q := ⟨_, rfl⟩
        rw [hq] at CF
        have HQ := hid hq
        clear hq
        cases q with
        | true =>
          go_wp2_with (first
            | (go_at_call 62; refine (CH.out _).mono ?_; rintro e w' ⟨rfl, rfl⟩)
            | (go_at_call 59; refine (CF.out _).mono ?_; rintro e w' ⟨rfl, rfl⟩))
          go_returns
          exact ⟨by rw [valR_foreign HK.out HNO.out HQ.out]; rfl, HB.out⟩
        | false =>
          go_wp2_with (first
            | (go_at_call 62; refine (CH.out _).mono ?_; rintro e w' ⟨rfl, rfl⟩)
            | (go_at_call 59; refine (CF.out _).mono ?_; rintro e w' ⟨rfl, rfl⟩)
            | (go_at_call 120; refine (CN.out _).mono ?_; rintro e w' ⟨rfl, rfl⟩))
          go_returns
          exact ⟨by rw [valR_num HNO.out HQ.out]; rfl, HB.out⟩
end Go.Proofs.YtomkhhpigpilfaaGreatDoor
