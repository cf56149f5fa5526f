/- The reference's CronItem. Walked. (wip/gen/gen_refs.py) -/
import Derived.Test.YtomkhhpigpilfaaGreatDoorRefE
import Derived.Test.YtomkhhpigpilfaaGreatDoorSet
import Derived.Great.BuildSlice
set_option linter.unusedVariables false
set_option linter.unusedSimpArgs false
namespace Go.Proofs.YtomkhhpigpilfaaGreatDoor
open Go.RowKit

theorem z64 : (List.toArray (.bool false :: .bool false :: .bool false :: .bool false :: .bool false :: .bool false :: .bool false :: .bool false :: .bool false :: .bool false :: .bool false :: .bool false :: .bool false :: .bool false :: .bool false :: .bool false :: .bool false :: .bool false :: .bool false :: .bool false :: .bool false :: .bool false :: .bool false :: .bool false :: .bool false :: .bool false :: .bool false :: .bool false :: .bool false :: .bool false :: .bool false :: .bool false :: .bool false :: .bool false :: .bool false :: .bool false :: .bool false :: .bool false :: .bool false :: .bool false :: .bool false :: .bool false :: .bool false :: .bool false :: .bool false :: .bool false :: .bool false :: .bool false :: .bool false :: .bool false :: .bool false :: .bool false :: .bool false :: .bool false :: .bool false :: .bool false :: .bool false :: .bool false :: .bool false :: .bool false :: .bool false :: .bool false :: .bool false :: .bool false :: []) : Array Value) = bcells 64 (fun _ => false) := rfl

theorem Blk.other {w : World} {g h : Nat} {t : TypeId} {cs : Array Value} (hb : Blk w g t cs) (hne : g ≠ h) (i : Nat) (u : Value) : Blk (w.setCell ⟨h, i, none⟩ u) g t cs := by
  unfold Blk at hb ⊢
  simp [World.setCell, Array.getElem?_modify, hb, Ne.symm hne]
theorem results_row_tmp {P : Program} {fn : Func} {p u : Tmp} {ty : TypeId} (h : fn.results = #[.cell p ty, .tmp u]) (tmps : Array Value) (w : World) (g : Nat) (t : TypeId) (cs : Array Value) (fr : Nat × Nat) (d : TypeDesc)
    (hp : tmps.getD p undef = .pointer (some ⟨g, 0, none⟩)) (hg : w.heap[g]? = some (.cells cs t fr))
    (hu : P.underlying ty = some d) (hd : (match d with | .struct _ | .array _ _ => true | _ => false) = true) (hi : (P.info? ty).map (·.size) = some cs.size) :
    (results fn tmps).run P w = .ok (.tuple #[.agg cs, tmps.getD u undef]) w := by
  have hp' : tmps[p]?.getD undef = .pointer (some ⟨g, 0, none⟩) := by simpa using hp
  simp [results, h, hp', asAddr, run_loadVar_row w g t ty cs fr d hg hu hd hi]
/-- A set: a star, then the values 0 to 62. -/
def setF (low high step : Nat) (star : Bool) : Nat → Bool
  | 0 => star
  | v + 1 => decide (low ≤ v ∧ v ≤ high ∧ (v - low) % step = 0)
def partF (low step n : Nat) : Nat → Bool
  | 0 => false
  | v + 1 => decide (low ≤ v ∧ v < n ∧ (v - low) % step = 0)
def noF : Nat → Bool := fun _ => false
theorem part_none (low step n : Nat) (h : n ≤ low) : bcells 64 noF = bcells 64 (partF low step n) := by
  apply bcells_ext
  rintro (_ | i) hi
  · rfl
  · show false = decide _
    rw [decide_eq_false (by omega)]
theorem part_step (low step v : Nat) (h1 : low ≤ v) (h2 : v < 63) (b : Bool) (hb : b = decide ((v - low) % step = 0)) : (bcells 64 (partF low step v)).setIfInBounds (1 + v) (.bool b) = bcells 64 (partF low step (v + 1)) := by
  rw [bcells_set (by omega)]
  apply bcells_ext
  rintro (_ | i) hi
  · simp only [put1, partF, if_neg (show ¬ 0 = 1 + v by omega)]
  · by_cases e : i = v
    · subst e
      simp [put1, partF, show i + 1 = 1 + i by omega, h1, hb]
    · simp only [put1, partF, if_neg (show ¬ i + 1 = 1 + v by omega), show (i < v + 1) = (i < v) from propext (by omega)]
theorem part_full (low high step : Nat) (star : Bool) : bcells 64 (put1 (partF low step (high + 1)) 0 star) = bcells 64 (setF low high step star) := by
  apply bcells_ext
  rintro (_ | i) hh
  · simp [put1, setF]
  · simp only [put1, setF, partF, if_neg (show ¬ i + 1 = 0 by omega), show (i < high + 1) = (i ≤ high) from propext (by omega)]
/-- The bits of a set. -/
def bitF (F : Nat → Bool) : Nat → Nat
  | 0 => 0
  | n + 1 => bitF F n ||| (if F (n + 1) = true then 2 ^ n else 0)
theorem bitF_bit (F : Nat → Bool) : ∀ n i : Nat, (bitF F n).testBit i = (decide (i < n) && F (i + 1))
  | 0, i => by simp [bitF]
  | n + 1, i => by
    unfold bitF
    rw [Nat.testBit_or, bitF_bit F n i]
    by_cases e : i = n
    · subst e
      cases h : F (i + 1) <;> simp
    · cases h : F (n + 1)
      · simp [show (i < n + 1) = (i < n) from propext (by omega)]
      · simp [Nat.testBit_two_pow, Ne.symm e, show (i < n + 1) = (i < n) from propext (by omega)]
theorem bitF_lt (F : Nat → Bool) : ∀ n : Nat, n ≤ 63 → bitF F n < 2 ^ 63
  | 0, _ => by show 0 < 2 ^ 63; decide
  | n + 1, h => by
    unfold bitF
    refine Nat.or_lt_two_pow (bitF_lt F n (by omega)) ?_
    split
    · exact Nat.pow_lt_pow_right (by decide) (by omega)
    · decide
theorem bitF_set (low high step : Nat) (star : Bool) (h : high ≤ 62) : bitF (setF low high step star) 63 = gb low high step := by
  apply Nat.eq_of_testBit_eq
  intro i
  rw [bitF_bit, testBit_gb]
  show (decide (i < 63) && decide (low ≤ i ∧ i ≤ high ∧ (i - low) % step = 0)) = _
  by_cases hi : i < 63
  · rw [decide_eq_true hi, Bool.true_and]
  · rw [decide_eq_false hi, Bool.false_and, decide_eq_false (by omega)]
def sumF (F : Nat → Bool) : Nat := bitF F 63 ||| if F 0 = true then sB else 0

theorem ends_vd (lo hi : Nat) (day : Bool) (f : List UInt8 → Nat × Nat) (hf : ∀ x, (f x).2 ≤ 2) (es : List (List UInt8)) : (endsR lo hi day f es).vd ≤ 2 := by
  unfold endsR
  split
  · exact Nat.zero_le 2
  · split
    · show (if _ then 2 else 1) ≤ 2
      split
      · exact Nat.le_refl 2
      · exact Nat.le_succ 1
    · split
      · exact hf _
      · show worse _ _ ≤ 2
        unfold worse
        split
        · exact Nat.zero_le 2
        · exact Nat.max_le.2 ⟨hf _, hf _⟩
      · exact Nat.zero_le 2
theorem stepR_vd (l : List UInt8) : (stepR l).2 ≤ 2 := by
  unfold stepR
  split
  · exact Nat.zero_le 2
  · split
    · exact Nat.le_refl 2
    · exact numR_vd l
theorem built0 : Tryz.prog.built 40 [] = some (bcells 64 noF) := by kernel_rfl
/-- The reference's item of a field. -/
def itemRK (k : Nat) (l : List UInt8) : Nat × Nat := itemR (kLo k) (kHi k) (dayB k) (valR k) l
/-- What CronItem tells: a set and a verdict. -/
def ItemOut (e : Ending) (p : Nat × Nat) : Prop := ∃ F : Nat → Bool, e = .returned (.tuple #[.agg (bcells 64 F), .int .i64 (p.2 : Nat)]) ∧ (p.2 = 1 → sumF F = p.1)
theorem rem_is (v low k : Nat) (h : low ≤ v) (hk : 1 ≤ k) : Int.tmod ((v : Int) - (low : Int)) (k : Int) = (((v - low) % k : Nat) : Int) := by
  rw [show (v : Int) - (low : Int) = ((v - low : Nat) : Int) by omega]
  rfl
theorem zero_store {w : World} {g : Nat} {t : TypeId} (h : Blk w g t (bcells 64 noF)) : Blk (w.setCells g 0 (bcells 64 noF).toList) g t (bcells 64 noF) := by
  have := h.putm_b (o := 0) (m := 64) (h := noF) (by omega)
  rwa [bcells_ext (f := putm noF 0 64 noF) (h := noF) (fun i hi => by simp [putm, hi])] at this
theorem full_store {w : World} {g : Nat} {t : TypeId} {F G : Nat → Bool} (h : Blk w g t (bcells 64 F)) : Blk (w.setCells g 0 (bcells 64 G).toList) g t (bcells 64 G) := by
  have := h.putm_b (o := 0) (m := 64) (h := G) (by omega)
  rwa [bcells_ext (f := putm F 0 64 G) (h := G) (fun i hi => by simp [putm, hi])] at this

set_option maxHeartbeats 6400000 in
set_option maxRecDepth 100000 in
theorem item_any (k : Nat) (hk : k ≤ 5) (s : ByteArray) (hs : s.size ≤ 65536) (w : World) : Calls Tryz.prog 103 #[.agg #[.int .i64 (kLo k : Nat), .int .i64 (kHi k : Nat), .int .i64 k], .string s] w fun e w' => ItemOut e (itemRK k s.toList) ∧ Below w.heap.size w w' := by
  have CE := hid (fun (x : ByteArray) (hx : x.size ≤ 65536) w => ends_any k hk x hx w)
  have CP := hid (fun w => piecesS s hs w)
  have HR := hid (show itemRK k s.toList = itemR (kLo k) (kHi k) (dayB k) (valR k) s.toList from rfl)
  have HB := hid (k_bounds k)
  have HS := hid hs
  have hBox := hid (Blk.new w 164 #[.int .i64 (kLo k : Nat), .int .i64 (kHi k : Nat), .int .i64 k])
  obtain ⟨lo, hlo⟩ : ∃ lo, kLo k = lo := ⟨_, rfl⟩
  obtain ⟨hi, hhi⟩ : ∃ hi, kHi k = hi := ⟨_, rfl⟩
  have HEK := hid (fun x => show endK k x = endsR lo hi (dayB k) (valR k) (cut 45 x) by rw [← hlo, ← hhi]; rfl)
  rw [hlo, hhi] at CE HR HB hBox ⊢
  generalize itemRK k s.toList = PP at HR ⊢
  clear hs hk hlo hhi
  have R0 := hid (hBox.out.alloc (.cells (List.toArray (.bool false :: .bool false :: .bool false :: .bool false :: .bool false :: .bool false :: .bool false :: .bool false :: .bool false :: .bool false :: .bool false :: .bool false :: .bool false :: .bool false :: .bool false :: .bool false :: .bool false :: .bool false :: .bool false :: .bool false :: .bool false :: .bool false :: .bool false :: .bool false :: .bool false :: .bool false :: .bool false :: .bool false :: .bool false :: .bool false :: .bool false :: .bool false :: .bool false :: .bool false :: .bool false :: .bool false :: .bool false :: .bool false :: .bool false :: .bool false :: .bool false :: .bool false :: .bool false :: .bool false :: .bool false :: .bool false :: .bool false :: .bool false :: .bool false :: .bool false :: .bool false :: .bool false :: .bool false :: .bool false :: .bool false :: .bool false :: .bool false :: .bool false :: .bool false :: .bool false :: .bool false :: .bool false :: .bool false :: .bool false :: []) : Array Value) 40))
  have Z0 := hid (Blk.new (w.alloc (.cells #[.int .i64 (lo : Nat), .int .i64 (hi : Nat), .int .i64 k] 164)) 40 (List.toArray (.bool false :: .bool false :: .bool false :: .bool false :: .bool false :: .bool false :: .bool false :: .bool false :: .bool false :: .bool false :: .bool false :: .bool false :: .bool false :: .bool false :: .bool false :: .bool false :: .bool false :: .bool false :: .bool false :: .bool false :: .bool false :: .bool false :: .bool false :: .bool false :: .bool false :: .bool false :: .bool false :: .bool false :: .bool false :: .bool false :: .bool false :: .bool false :: .bool false :: .bool false :: .bool false :: .bool false :: .bool false :: .bool false :: .bool false :: .bool false :: .bool false :: .bool false :: .bool false :: .bool false :: .bool false :: .bool false :: .bool false :: .bool false :: .bool false :: .bool false :: .bool false :: .bool false :: .bool false :: .bool false :: .bool false :: .bool false :: .bool false :: .bool false :: .bool false :: .bool false :: .bool false :: .bool false :: .bool false :: .bool false :: []) : Array Value))
  have B0 := hid (show Below w.heap.size w ((w.alloc (.cells #[.int .i64 (lo : Nat), .int .i64 (hi : Nat), .int .i64 k] 164)).alloc (.cells (List.toArray (.bool false :: .bool false :: .bool false :: .bool false :: .bool false :: .bool false :: .bool false :: .bool false :: .bool false :: .bool false :: .bool false :: .bool false :: .bool false :: .bool false :: .bool false :: .bool false :: .bool false :: .bool false :: .bool false :: .bool false :: .bool false :: .bool false :: .bool false :: .bool false :: .bool false :: .bool false :: .bool false :: .bool false :: .bool false :: .bool false :: .bool false :: .bool false :: .bool false :: .bool false :: .bool false :: .bool false :: .bool false :: .bool false :: .bool false :: .bool false :: .bool false :: .bool false :: .bool false :: .bool false :: .bool false :: .bool false :: .bool false :: .bool false :: .bool false :: .bool false :: .bool false :: .bool false :: .bool false :: .bool false :: .bool false :: .bool false :: .bool false :: .bool false :: .bool false :: .bool false :: .bool false :: .bool false :: .bool false :: .bool false :: []) : Array Value) 40)) by go_grown)
  rw [World.size_alloc] at Z0
  clear hBox
  go_enter Tryz.func103, Tryz.ntmps103
  go_wp2_with fail
  generalize ((w.alloc (.cells #[.int .i64 (lo : Nat), .int .i64 (hi : Nat), .int .i64 k] 164)).alloc (.cells (List.toArray (.bool false :: .bool false :: .bool false :: .bool false :: .bool false :: .bool false :: .bool false :: .bool false :: .bool false :: .bool false :: .bool false :: .bool false :: .bool false :: .bool false :: .bool false :: .bool false :: .bool false :: .bool false :: .bool false :: .bool false :: .bool false :: .bool false :: .bool false :: .bool false :: .bool false :: .bool false :: .bool false :: .bool false :: .bool false :: .bool false :: .bool false :: .bool false :: .bool false :: .bool false :: .bool false :: .bool false :: .bool false :: .bool false :: .bool false :: .bool false :: .bool false :: .bool false :: .bool false :: .bool false :: .bool false :: .bool false :: .bool false :: .bool false :: .bool false :: .bool false :: .bool false :: .bool false :: .bool false :: .bool false :: .bool false :: .bool false :: .bool false :: .bool false :: .bool false :: .bool false :: .bool false :: .bool false :: .bool false :: .bool false :: []) : Array Value) 40)) = w0 at R0 Z0 B0 ⊢
  replace Z0 := hid (z64 ▸ Z0.out : Blk w0 (w.heap.size + 1) 40 (bcells 64 noF))
  go_at_call 102
  refine (CP.out _).mono ?_
  rintro e w2 ⟨xs, g, c, rfl, hx, hst, hb⟩
  obtain ⟨x0, xr, rfl⟩ := parts_cons hx
  have HX := hid hx
  have S2 := hid hst
  have hx0 := hst 0 x0 rfl
  have R2 := hid (R0.out.below hb)
  have Z2 := hid (Z0.out.below hb)
  have B2 := hid (bq B0.out hb)
  clear hb hst hx R0 Z0 B0
  obtain ⟨n, hn⟩ : ∃ n : Nat, (x0 :: xr).length = n := ⟨_, rfl⟩
  have n1 : 1 ≤ n := by rw [← hn]; simp
  have N := hid hn
  rw [hn]
  clear hn
  have HC := hid (show cut 47 s.toList = x0.toList :: xr.map (·.toList) from HX.out.symm)
  by_cases hn2 : 2 < n
  · have g2 : (2 : Int) < (n : Int) := by omega
    have HP := hid (show PP = (0, 0) by
      rw [HR.out]
      obtain ⟨x1, x2, xq, rfl⟩ : ∃ x1 x2 xq, xr = x1 :: x2 :: xq := by
        have := N.out
        match xr, this with
        | [], h => simp at h; omega
        | [_], h => simp at h; omega
        | x1 :: x2 :: xq, _ => exact ⟨x1, x2, xq, rfl⟩
      exact itemR_more _ _ _ _ _ _ _ _ _ HC.out)
    have TT := hid (Z2.out.there_b (o := 0) (m := 64) (by omega))
    go_wp2_with (first
      | (refine wpList_buildTo rfl 40 #[] rfl (some 22) rfl (bcells 64 noF) built0 ?_) | (refine wpList_store_mid rfl 40 (.tmp 4) (.tmp 22) rfl (w.heap.size + 1) 0 (bcells 64 noF) rfl rfl (by rw [bcells_size]; exact TT.out) (by rw [bcells_size]; kernel_rfl) bcells_one ?_; have Z3 := hid (zero_store Z2.out); have B3 := hid (below_setCells (g := w.heap.size + 1) (by omega) (bcells 64 noF).toList 0 w2 B2.out); generalize w2.setCells (w.heap.size + 1) 0 (bcells 64 noF).toList = w3 at Z3 B3 ⊢))
    exact bodyPost_ret (results_row_tmp rfl _ _ (w.heap.size + 1) 40 _ (0, 0) _ rfl Z3.out Tryz.underlying40 rfl (by rw [bcells_size]; kernel_rfl)) rfl ⟨⟨noF, by rw [HP.out]; rfl, fun h => by rw [HP.out] at h; cases h⟩, B3.out⟩
  have g2 : ¬ (2 : Int) < (n : Int) := by omega
  obtain ⟨E, hE⟩ : ∃ E, endK k x0.toList = E := ⟨_, rfl⟩
  have z0 : x0.size ≤ 65536 := by have := part_size HX.out (List.mem_cons_self); have := HS.out; omega
  have HEE := hid (show endsR lo hi (dayB k) (valR k) (cut 45 x0.toList) = E by rw [← HEK.out]; exact hE)
  have C0 := hid (fun w => CE.out x0 z0 w)
  rw [hE] at C0
  obtain ⟨low, high, st, sg, vd⟩ := E
  have hvd : vd ≤ 2 := by
    have h := ends_vd lo hi (dayB k) (valR k) (valR_vd k) (cut 45 x0.toList)
    rw [HEE.out] at h
    exact h
  have C := hid (fun d os => Calls.regrown_of (show Calls Tryz.prog 111 #[.agg #[.int .i64 lo, .int .i64 hi, .int .i64 k], .string x0] (Go.Sort.grow (redrawn w2 d) os) fun e w' => e = .returned (.tuple #[.int .i64 low, .int .i64 high, .bool st, .bool sg, .int .i64 vd]) ∧ Below (Go.Sort.grow (redrawn w2 d) os).heap.size (Go.Sort.grow (redrawn w2 d) os) w' from C0.out _))
  have l0 := fun d os => (kcells_gr R2.out d os).1
  have l1 := fun d os => (kcells_gr R2.out d os).2.1
  have l2 := fun d os => (kcells_gr R2.out d os).2.2
  have k0 : ∀ d os, (Go.Sort.grow (redrawn w2 d) os).cell? ⟨g, 0, none⟩ = some (.string x0) := fun d os => cell_gr hx0 d os
  clear C0 hE z0
  go_upto_region 4 with fail
  refine wp_region_quiet_below (by kernel_rfl) (by kernel_rfl) ?_
  repeat (go_big_quiet_step ((first | (go_at_call 111; exact C.out _ _) | fail)))
  refine wpQuiet_nil ?_
  intro _ hw'
  obtain ⟨⟨dq, osq⟩, hw''⟩ := hw'
  subst hw''
  have R3 := hid (blk_gr R2.out dq osq)
  have Z3 := hid (blk_gr Z2.out dq osq)
  have B3 := hid (bq B2.out (below_regrown w2 dq osq))
  have X3 := hid (S2.out.below (below_regrown w2 dq osq))
  clear l0 l1 l2 k0 C R2 Z2 B2 S2 hx0
  generalize Go.Sort.grow (redrawn w2 dq) osq = w3 at R3 Z3 B3 X3 ⊢
  go_upto_if 36 with fail
  go_cut [8, 11, 12] (fun hv vv sv wx => ∃ high' vd' stp : Nat, hv = .int .i64 (high' : Nat) ∧ vv = .int .i64 (vd' : Nat) ∧ sv = .int .i64 (stp : Nat) ∧ Hid (PP = finR lo hi low high' stp st vd') ∧ Hid (vd' = 1 → 1 ≤ stp) ∧ Below w3.heap.size w3 wx)
  case first =>
    rcases xr with _ | ⟨x1, _ | ⟨x2, xr⟩⟩
    · obtain rfl : n = 1 := N.out.symm
      have HP := hid (show PP = finR lo hi low high 1 st vd by rw [HR.out, itemR_one _ _ _ _ _ _ HC.out, HEE.out])
      go_wp2_with fail
      go_meet
      exact ⟨high, vd, 1, rfl, rfl, rfl, HP, hid (fun _ => Nat.le_refl 1), Below.refl _ _⟩
    · obtain rfl : n = 2 := N.out.symm
      have hx1 : w3.cell? ⟨g, 1, none⟩ = some (.string x1) := X3.out 1 x1 rfl
      have r1 : w3.cell? ⟨w.heap.size, 1, none⟩ = some (.int .i64 hi) := R3.out.cell 1
      have z1 : x1.size ≤ 65536 := by have := part_size HX.out (List.mem_cons_of_mem _ (List.mem_cons_self)); have := HS.out; omega
      obtain ⟨p1, hp1⟩ : ∃ p, (stepR x1.toList).1 = p := ⟨_, rfl⟩
      obtain ⟨p2, hp2⟩ : ∃ p, (stepR x1.toList).2 = p := ⟨_, rfl⟩
      have CS := hid (fun w => step_any x1 z1 w)
      have HST := hid (Prod.ext hp1 hp2 : stepR x1.toList = (p1, p2))
      have hv2 : p2 ≤ 2 := by rw [← hp2]; exact stepR_vd _
      have HW := hid (fun w => worse_any vd p2 hvd hv2 w)
      have H1 := hid (show worse vd p2 = 1 → 1 ≤ p1 from fun h => by rw [← hp1]; exact (step_one (by rw [hp2]; exact (worse_one h).2)).2)
      rw [HST.out] at CS
      have HPP := hid (show PP = finR lo hi low (if (sg && !st) = true then hi else high) p1 st (worse vd p2) by rw [HR.out, itemR_two _ _ _ _ _ _ _ HC.out, HEE.out, HST.out])
      clear hp1 hp2 z1
      cases sg <;> cases st
      all_goals
        go_wp2_with (first
          | (go_at_call 112; refine (CS.out _).mono ?_; rintro e w' ⟨rfl, rfl⟩; unfold RetV)
          | (go_at_call 60; refine (HW.out _).mono ?_; rintro e w' ⟨rfl, rfl⟩))
        go_meet
        exact ⟨_, _, _, rfl, rfl, rfl, HPP, H1, Below.refl _ _⟩
    · exact absurd N.out (by simp; omega)
  case rest =>
    obtain ⟨high', vd', stp, rfl, rfl, rfl, HP, H1, hbv⟩ := hcut
    have R4 := hid (R3.out.below hbv)
    have Z4 := hid (Z3.out.below hbv)
    have B4 := hid (bq B3.out hbv)
    clear hbv R3 Z3 B3 X3 HEE HC HX N hvd
    have TT := hid (Z4.out.there_b (o := 0) (m := 64) (by omega))
    by_cases hv1 : vd' = 1
    case neg =>
      have e1 : ((vd' : Int) != 1) = true := by rw [bne_iff_ne]; omega
      have HV := hid hv1
      replace HP := hid (show PP = (0, vd') by rw [HP.out]; exact if_pos HV.out)
      clear hv1
      go_wp2_with (first
        | (refine wpList_buildTo rfl 40 #[] rfl (some 57) rfl (bcells 64 noF) built0 ?_) | (refine wpList_store_mid rfl 40 (.tmp 4) (.tmp 57) rfl (w.heap.size + 1) 0 (bcells 64 noF) rfl rfl (by rw [bcells_size]; exact TT.out) (by rw [bcells_size]; kernel_rfl) bcells_one ?_; have Z6 := hid (zero_store Z4.out); have B6 := hid (below_setCells (g := w.heap.size + 1) (by omega) (bcells 64 noF).toList 0 wc B4.out); generalize wc.setCells (w.heap.size + 1) 0 (bcells 64 noF).toList = w6 at Z6 B6 ⊢))
      exact bodyPost_ret (results_row_tmp rfl _ _ (w.heap.size + 1) 40 _ (0, 0) _ rfl Z6.out Tryz.underlying40 rfl (by rw [bcells_size]; kernel_rfl)) rfl ⟨⟨noF, by rw [HP.out]; rfl, fun h => by rw [HP.out] at h; exact absurd h HV.out⟩, B6.out⟩
    subst hv1
    have h1 := H1.out rfl
    have r0 : wc.cell? ⟨w.heap.size, 0, none⟩ = some (.int .i64 lo) := R4.out.cell 0
    have r1 : wc.cell? ⟨w.heap.size, 1, none⟩ = some (.int .i64 hi) := R4.out.cell 1
    by_cases hin : low < lo ∨ hi < high' ∨ high' < low
    · replace HP := hid (show PP = (0, 0) by rw [HP.out]; exact (if_neg (by decide)).trans (if_pos hin))
      have HIN := hid hin
      by_cases hA : low < lo
      · have g3 : (low : Int) < (lo : Int) := by omega
        clear hin hA
        go_wp2_with (first
          | (refine wpList_buildTo rfl 40 #[] rfl (some 74) rfl (bcells 64 noF) built0 ?_) | (refine wpList_store_mid rfl 40 (.tmp 4) (.tmp 74) rfl (w.heap.size + 1) 0 (bcells 64 noF) rfl rfl (by rw [bcells_size]; exact TT.out) (by rw [bcells_size]; kernel_rfl) bcells_one ?_; have Z6 := hid (zero_store Z4.out); have B6 := hid (below_setCells (g := w.heap.size + 1) (by omega) (bcells 64 noF).toList 0 wc B4.out); generalize wc.setCells (w.heap.size + 1) 0 (bcells 64 noF).toList = w6 at Z6 B6 ⊢))
        exact bodyPost_ret (results_row_tmp rfl _ _ (w.heap.size + 1) 40 _ (0, 0) _ rfl Z6.out Tryz.underlying40 rfl (by rw [bcells_size]; kernel_rfl)) rfl ⟨⟨noF, by rw [HP.out]; rfl, fun h => by rw [HP.out] at h; cases h⟩, B6.out⟩
      by_cases hB : hi < high'
      · have g3 : ¬ (low : Int) < (lo : Int) := by omega
        have g4 : (hi : Int) < (high' : Int) := by omega
        clear hin hA hB
        go_wp2_with (first
          | (refine wpList_buildTo rfl 40 #[] rfl (some 74) rfl (bcells 64 noF) built0 ?_) | (refine wpList_store_mid rfl 40 (.tmp 4) (.tmp 74) rfl (w.heap.size + 1) 0 (bcells 64 noF) rfl rfl (by rw [bcells_size]; exact TT.out) (by rw [bcells_size]; kernel_rfl) bcells_one ?_; have Z6 := hid (zero_store Z4.out); have B6 := hid (below_setCells (g := w.heap.size + 1) (by omega) (bcells 64 noF).toList 0 wc B4.out); generalize wc.setCells (w.heap.size + 1) 0 (bcells 64 noF).toList = w6 at Z6 B6 ⊢))
        exact bodyPost_ret (results_row_tmp rfl _ _ (w.heap.size + 1) 40 _ (0, 0) _ rfl Z6.out Tryz.underlying40 rfl (by rw [bcells_size]; kernel_rfl)) rfl ⟨⟨noF, by rw [HP.out]; rfl, fun h => by rw [HP.out] at h; cases h⟩, B6.out⟩
      · have g3 : ¬ (low : Int) < (lo : Int) := by omega
        have g4 : ¬ (hi : Int) < (high' : Int) := by omega
        have g5 : (high' : Int) < (low : Int) := by omega
        clear hin hA hB
        go_wp2_with (first
          | (refine wpList_buildTo rfl 40 #[] rfl (some 74) rfl (bcells 64 noF) built0 ?_) | (refine wpList_store_mid rfl 40 (.tmp 4) (.tmp 74) rfl (w.heap.size + 1) 0 (bcells 64 noF) rfl rfl (by rw [bcells_size]; exact TT.out) (by rw [bcells_size]; kernel_rfl) bcells_one ?_; have Z6 := hid (zero_store Z4.out); have B6 := hid (below_setCells (g := w.heap.size + 1) (by omega) (bcells 64 noF).toList 0 wc B4.out); generalize wc.setCells (w.heap.size + 1) 0 (bcells 64 noF).toList = w6 at Z6 B6 ⊢))
        exact bodyPost_ret (results_row_tmp rfl _ _ (w.heap.size + 1) 40 _ (0, 0) _ rfl Z6.out Tryz.underlying40 rfl (by rw [bcells_size]; kernel_rfl)) rfl ⟨⟨noF, by rw [HP.out]; rfl, fun h => by rw [HP.out] at h; cases h⟩, B6.out⟩
    · replace HP := hid (show PP = (gb low high' stp ||| (if (st && stp == 1) = true then sB else 0), 1) by rw [HP.out]; exact (if_neg (by decide)).trans (if_neg hin))
      have g3 : ¬ (low : Int) < (lo : Int) := by omega
      have g4 : ¬ (hi : Int) < (high' : Int) := by omega
      have g5 : ¬ (high' : Int) < (low : Int) := by omega
      have hb62 := HB.out.2
      have h62 : high' ≤ 62 := by omega
      have hlh : low ≤ high' := by omega
      clear hin
      go_wp2_with fail
      have A5 := hid (z64 ▸ Blk.new wc 40 (List.toArray (.bool false :: .bool false :: .bool false :: .bool false :: .bool false :: .bool false :: .bool false :: .bool false :: .bool false :: .bool false :: .bool false :: .bool false :: .bool false :: .bool false :: .bool false :: .bool false :: .bool false :: .bool false :: .bool false :: .bool false :: .bool false :: .bool false :: .bool false :: .bool false :: .bool false :: .bool false :: .bool false :: .bool false :: .bool false :: .bool false :: .bool false :: .bool false :: .bool false :: .bool false :: .bool false :: .bool false :: .bool false :: .bool false :: .bool false :: .bool false :: .bool false :: .bool false :: .bool false :: .bool false :: .bool false :: .bool false :: .bool false :: .bool false :: .bool false :: .bool false :: .bool false :: .bool false :: .bool false :: .bool false :: .bool false :: .bool false :: .bool false :: .bool false :: .bool false :: .bool false :: .bool false :: .bool false :: .bool false :: .bool false :: []) : Array Value) : Blk (wc.alloc (.cells (List.toArray (.bool false :: .bool false :: .bool false :: .bool false :: .bool false :: .bool false :: .bool false :: .bool false :: .bool false :: .bool false :: .bool false :: .bool false :: .bool false :: .bool false :: .bool false :: .bool false :: .bool false :: .bool false :: .bool false :: .bool false :: .bool false :: .bool false :: .bool false :: .bool false :: .bool false :: .bool false :: .bool false :: .bool false :: .bool false :: .bool false :: .bool false :: .bool false :: .bool false :: .bool false :: .bool false :: .bool false :: .bool false :: .bool false :: .bool false :: .bool false :: .bool false :: .bool false :: .bool false :: .bool false :: .bool false :: .bool false :: .bool false :: .bool false :: .bool false :: .bool false :: .bool false :: .bool false :: .bool false :: .bool false :: .bool false :: .bool false :: .bool false :: .bool false :: .bool false :: .bool false :: .bool false :: .bool false :: .bool false :: .bool false :: []) : Array Value) 40)) wc.heap.size 40 (bcells 64 noF))
      have Z5 := hid (Z4.out.alloc (.cells (List.toArray (.bool false :: .bool false :: .bool false :: .bool false :: .bool false :: .bool false :: .bool false :: .bool false :: .bool false :: .bool false :: .bool false :: .bool false :: .bool false :: .bool false :: .bool false :: .bool false :: .bool false :: .bool false :: .bool false :: .bool false :: .bool false :: .bool false :: .bool false :: .bool false :: .bool false :: .bool false :: .bool false :: .bool false :: .bool false :: .bool false :: .bool false :: .bool false :: .bool false :: .bool false :: .bool false :: .bool false :: .bool false :: .bool false :: .bool false :: .bool false :: .bool false :: .bool false :: .bool false :: .bool false :: .bool false :: .bool false :: .bool false :: .bool false :: .bool false :: .bool false :: .bool false :: .bool false :: .bool false :: .bool false :: .bool false :: .bool false :: .bool false :: .bool false :: .bool false :: .bool false :: .bool false :: .bool false :: .bool false :: .bool false :: []) : Array Value) 40))
      have B5 := hid (bq B4.out (show Below wc.heap.size wc (wc.alloc (.cells (List.toArray (.bool false :: .bool false :: .bool false :: .bool false :: .bool false :: .bool false :: .bool false :: .bool false :: .bool false :: .bool false :: .bool false :: .bool false :: .bool false :: .bool false :: .bool false :: .bool false :: .bool false :: .bool false :: .bool false :: .bool false :: .bool false :: .bool false :: .bool false :: .bool false :: .bool false :: .bool false :: .bool false :: .bool false :: .bool false :: .bool false :: .bool false :: .bool false :: .bool false :: .bool false :: .bool false :: .bool false :: .bool false :: .bool false :: .bool false :: .bool false :: .bool false :: .bool false :: .bool false :: .bool false :: .bool false :: .bool false :: .bool false :: .bool false :: .bool false :: .bool false :: .bool false :: .bool false :: .bool false :: .bool false :: .bool false :: .bool false :: .bool false :: .bool false :: .bool false :: .bool false :: .bool false :: .bool false :: .bool false :: .bool false :: []) : Array Value) 40)) by go_grown))
      have HNE := hid Z4.out.lt
      have HLE := hid B4.out.size
      obtain ⟨ga, hg5⟩ : ∃ ga, wc.heap.size = ga := ⟨_, rfl⟩
      rw [hg5] at A5 HNE HLE ⊢
      generalize (wc.alloc (.cells (List.toArray (.bool false :: .bool false :: .bool false :: .bool false :: .bool false :: .bool false :: .bool false :: .bool false :: .bool false :: .bool false :: .bool false :: .bool false :: .bool false :: .bool false :: .bool false :: .bool false :: .bool false :: .bool false :: .bool false :: .bool false :: .bool false :: .bool false :: .bool false :: .bool false :: .bool false :: .bool false :: .bool false :: .bool false :: .bool false :: .bool false :: .bool false :: .bool false :: .bool false :: .bool false :: .bool false :: .bool false :: .bool false :: .bool false :: .bool false :: .bool false :: .bool false :: .bool false :: .bool false :: .bool false :: .bool false :: .bool false :: .bool false :: .bool false :: .bool false :: .bool false :: .bool false :: .bool false :: .bool false :: .bool false :: .bool false :: .bool false :: .bool false :: .bool false :: .bool false :: .bool false :: .bool false :: .bool false :: .bool false :: .bool false :: []) : Array Value) 40)) = w5 at A5 Z5 B5 ⊢
      clear hg5 R4 Z4 B4 TT r0 r1 g3 g4 g5 H1
      replace A5 := hid (show Blk w5 ga 40 (bcells 64 (partF low stp low)) by
        have h := A5.out
        rwa [show bcells 64 (fun _ => false) = bcells 64 (partF low stp low) from part_none low stp low (Nat.le_refl _)] at h)
      go_loopw [16] (fun u wr => ∃ v : Nat, u = .int .i64 v ∧ low ≤ v ∧ v ≤ high' + 1 ∧ Hid (Blk wr ga 40 (bcells 64 (partF low stp v))) ∧ Hid (Blk wr (w.heap.size + 1) 40 (bcells 64 noF)) ∧ Hid (Below w.heap.size w wr)) (fun u _ => 64 - (intOf u).toNat)
      case atStart => exact ⟨low, rfl, Nat.le_refl _, by omega, A5, Z5, B5⟩
      case round =>
        obtain ⟨v, rfl, v1, v2, S, Z, B⟩ := hrel
        by_cases hc : v ≤ high'
        · have c1 : (v : Int) ≤ (high' : Int) := by omega
          have v64 : v < 63 := by omega
          have f1 := S.out.frozen (1 + v)
          have f2 := S.out.cell (1 + v)
          rw [bcells_get (by omega)] at f2
          obtain ⟨d, hd⟩ : ∃ d, (v - low) % stp = d := ⟨_, rfl⟩
          have hr := rem_is v low stp v1 h1
          rw [hd] at hr
          have hw1 : wrap64 ((v : Int) - (low : Int)) = (v : Int) - (low : Int) := by unfold wrap64; omega
          have hs0 : ((stp : Int) == 0) = false := by rw [beq_eq_false_iff_ne]; omega
          have hs1 : ¬ (stp : Int) = 0 := by omega
          obtain ⟨b, hb⟩ : ∃ b, ((d : Int) == 0) = b := ⟨_, rfl⟩
          have HBB := hid (show b = decide ((v - low) % stp = 0) by rw [← hb, hd]; by_cases q : d = 0 <;> simp [q])
          clear hd
          go_wp2_with fail
          refine ⟨⟨v + 1, by rw [Int.natCast_add]; rfl, by omega, by omega, hid ?_, hid (Z.out.other (by have := HNE.out; omega) _ _), hid (below_set B.out HLE.out _ _)⟩, ?_⟩
          · have := S.out.set (1 + v) (.bool b)
            rwa [part_step low stp v v1 v64 b HBB.out] at this
          · show 64 - (intOf (Value.int IntKind.i64 (v + 1))).toNat < 64 - (intOf (Value.int IntKind.i64 v)).toNat
            simp only [intOf]
            omega
        · obtain rfl : v = high' + 1 := by omega
          have c1 : ¬ (((high' + 1 : Nat) : Int) ≤ (high' : Int)) := by omega
          obtain ⟨q, hq⟩ : ∃ q, ((stp : Int) == 1) = q := ⟨_, rfl⟩
          have HQQ := hid (show (stp == 1) = q by rw [← hq]; exact Bool.eq_iff_iff.2 (by simp only [beq_iff_eq]; omega))
          cases st with
          | false =>
            have HSUM := hid (show sumF (setF low high' stp false) = (gb low high' stp ||| (if (false && stp == 1) = true then sB else 0)) by unfold sumF; rw [bitF_set low high' stp false h62]; rfl)
            have f1 := S.out.frozen 0
            have f2 := S.out.cell 0
            rw [bcells_get (by omega)] at f2
            go_upto_region 21 with fail
            have hs5 := S.out.set 0 (.bool false)
            rw [bcells_set (by omega), part_full low high' stp false] at hs5
            have hz5 := Z.out.other (g := w.heap.size + 1) (h := ga) (by have := HNE.out; omega) 0 (.bool false)
            have hb5 := below_set B.out (g := ga) HLE.out 0 (.bool false)
            generalize (wr.setCell ⟨ga, 0, none⟩ (.bool false)) = w6 at hs5 hz5 hb5 ⊢
            refine wp_region_lit ?_
            have hl := hs5.range_b (o := 0) (m := 64) (by omega)
            rw [show (fun i => setF low high' stp false (0 + i)) = setF low high' stp false from funext fun i => by rw [Nat.zero_add]] at hl
            refine wpList_load_mid rfl 40 (.tmp 15) rfl ga 0 rfl (bcells 64 (setF low high' stp false)).toList _ hl Tryz.underlying40 rfl (by rw [bcells_len]; kernel_rfl) ?_
            refine wpList_store_mid rfl 40 (.tmp 4) (.tmp 96) rfl (w.heap.size + 1) 0 (bcells 64 (setF low high' stp false)) rfl rfl (by rw [bcells_size]; exact hz5.there_b (by omega)) (by rw [bcells_size]; kernel_rfl) bcells_one ?_
            have hz6 := full_store (G := setF low high' stp false) hz5
            have hb6 := below_setCells (g := w.heap.size + 1) (by omega) (bcells 64 (setF low high' stp false)).toList 0 w6 hb5
            generalize (w6.setCells (w.heap.size + 1) 0 (bcells 64 (setF low high' stp false)).toList) = w7 at hz6 hb6 ⊢
            go_wp2_with fail
            exact bodyPost_ret (results_row_tmp rfl _ _ (w.heap.size + 1) 40 _ (0, 0) _ rfl hz6 Tryz.underlying40 rfl (by rw [bcells_size]; kernel_rfl)) rfl ⟨⟨setF low high' stp false, by rw [HP.out]; rfl, fun _ => by rw [HP.out, HSUM.out]⟩, hb6⟩
          | true =>
            have HSUM := hid (show sumF (setF low high' stp q) = (gb low high' stp ||| (if (true && stp == 1) = true then sB else 0)) by unfold sumF; rw [bitF_set low high' stp q h62, HQQ.out]; rfl)
            have f1 := S.out.frozen 0
            have f2 := S.out.cell 0
            rw [bcells_get (by omega)] at f2
            go_upto_region 21 with fail
            have hs5 := S.out.set 0 (.bool q)
            rw [bcells_set (by omega), part_full low high' stp q] at hs5
            have hz5 := Z.out.other (g := w.heap.size + 1) (h := ga) (by have := HNE.out; omega) 0 (.bool q)
            have hb5 := below_set B.out (g := ga) HLE.out 0 (.bool q)
            generalize (wr.setCell ⟨ga, 0, none⟩ (.bool q)) = w6 at hs5 hz5 hb5 ⊢
            refine wp_region_lit ?_
            have hl := hs5.range_b (o := 0) (m := 64) (by omega)
            rw [show (fun i => setF low high' stp q (0 + i)) = setF low high' stp q from funext fun i => by rw [Nat.zero_add]] at hl
            refine wpList_load_mid rfl 40 (.tmp 15) rfl ga 0 rfl (bcells 64 (setF low high' stp q)).toList _ hl Tryz.underlying40 rfl (by rw [bcells_len]; kernel_rfl) ?_
            refine wpList_store_mid rfl 40 (.tmp 4) (.tmp 96) rfl (w.heap.size + 1) 0 (bcells 64 (setF low high' stp q)) rfl rfl (by rw [bcells_size]; exact hz5.there_b (by omega)) (by rw [bcells_size]; kernel_rfl) bcells_one ?_
            have hz6 := full_store (G := setF low high' stp q) hz5
            have hb6 := below_setCells (g := w.heap.size + 1) (by omega) (bcells 64 (setF low high' stp q)).toList 0 w6 hb5
            generalize (w6.setCells (w.heap.size + 1) 0 (bcells 64 (setF low high' stp q)).toList) = w7 at hz6 hb6 ⊢
            go_wp2_with fail
            exact bodyPost_ret (results_row_tmp rfl _ _ (w.heap.size + 1) 40 _ (0, 0) _ rfl hz6 Tryz.underlying40 rfl (by rw [bcells_size]; kernel_rfl)) rfl ⟨⟨setF low high' stp q, by rw [HP.out]; rfl, fun _ => by rw [HP.out, HSUM.out]⟩, hb6⟩
end Go.Proofs.YtomkhhpigpilfaaGreatDoor
