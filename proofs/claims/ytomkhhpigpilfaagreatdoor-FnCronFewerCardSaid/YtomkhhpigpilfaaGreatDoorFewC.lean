/- The reference's field of a cron text: the pieces between commas, the union of two sets, CronField. Walked. (wip/gen/gen_fewc.py) -/
import Derived.Test.YtomkhhpigpilfaaGreatDoorItLaw
import Derived.Test.YtomkhhpigpilfaaGreatDoorFldN
import Derived.Test.YtomkhhpigpilfaaGreatDoorFieldsP
set_option linter.unusedVariables false
set_option linter.unusedSimpArgs false
namespace Go.Proofs.YtomkhhpigpilfaaGreatDoor
open Go.RowKit

set_option maxHeartbeats 1600000 in
set_option maxRecDepth 100000 in
theorem piecesC (s : ByteArray) (hs : s.size ≤ 65536) (w : World) : Calls Tryz.prog 102 #[.string s, .int .u8 44] w fun e w' =>
    ∃ (xs : List ByteArray) (g k : Nat), e = .returned (.slice (some ⟨g, 0, none⟩) xs.length k) ∧ xs.map (·.toList) = cut 44 s.toList ∧ StrsAt w' g xs ∧ Below w.heap.size w w' := by
  have HS := hid hs
  go_enter Tryz.func102, Tryz.ntmps102
  go_wp2_with fail
  go_loopw [5, 6, 10] (fun v f i wr => ∃ (k n : Nat) (xs : List ByteArray), k ≤ s.size ∧ i = .int .i64 k ∧ f = .int .i64 n ∧ Hid (PRel s 44 w k n xs v wr)) (fun _ _ i _ => s.size - (intOf i).toNat)
  case atStart => exact ⟨0, 0, [], Nat.zero_le _, rfl, rfl, hid ⟨World.ownsRow_nil _ _ _ _, Below.refl _ _, Nat.le_refl _, Nat.le_refl _, by simp, by simp⟩⟩
  case round =>
    obtain ⟨k, n, xs, hk, rfl, rfl, F⟩ := hrel
    have gn : n ≤ k := F.out.nk
    by_cases hlt : k < s.size
    · obtain ⟨b, hb⟩ : ∃ b, s[k] = b := ⟨_, rfl⟩
      have HB := hid hb
      by_cases hc : b = 44
      · have e : ((b.toNat : Int) == 44) = true := byte_eq b 44 (by rw [hc]; rfl)
        have HC := hid hc
        have hsl := slice_ft s n k gn (by omega)
        have HO := hid F.out.own
        have HA1 := hid (part_max (xs := xs) (by have := F.out.len; omega)).1
        have HA2 := hid (part_max (xs := xs) (by have := F.out.len; omega)).2
        have HSZ := hid F.out.below.size
        clear hc
        go_wp2_with (at_builtin; refine app_one (w0 := wr) w.heap.size rfl (.tmp 18) (.tmp 23) _ _ _ 16 rfl Tryz.underlying22 info_str rfl _ (xs.map Value.string) (.string (s.extract n k)) rfl rfl rfl HO.out (Below.refl _ _) HSZ.out HA1.out HA2.out ?_; intro v1 w1 hown1 hb1; replace hown1 := hid hown1; replace hb1 := hid hb1)
        go_roundw
        case rel => exact ⟨k + 1, k + 1, _, by omega, by go_num, by go_num, hid (part_hit F.out hlt (HB.out.trans HC.out) hown1.out hb1.out)⟩
        case measure => simp [intOf]; omega
      · have e : ((b.toNat : Int) == 44) = false := byte_ne b 44 (fun h => hc (UInt8.toNat_inj.1 h))
        have HC := hid (show s[k] ≠ 44 by rw [hb]; exact hc)
        clear hc
        go_wp2_with fail
        go_roundw
        case rel => exact ⟨k + 1, n, xs, by omega, by go_num, rfl, hid (part_miss F.out hlt HC.out)⟩
        case measure => simp [intOf]; omega
    · obtain rfl : k = s.size := by omega
      have hsl := slice_fe s n gn
      have HO := hid F.out.own
      have HA1 := hid (part_max (xs := xs) (by have := F.out.len; omega)).1
      have HA2 := hid (part_max (xs := xs) (by have := F.out.len; omega)).2
      have HSZ := hid F.out.below.size
      go_wp2_with (at_builtin; refine app_one (w0 := wr) w.heap.size rfl (.tmp 28) (.tmp 32) _ _ _ 16 rfl Tryz.underlying22 info_str rfl _ (xs.map Value.string) (.string (s.extract n s.size)) rfl rfl rfl HO.out (Below.refl _ _) HSZ.out HA1.out HA2.out ?_; intro v1 w1 hown1 hb1; replace hown1 := hid hown1; replace hb1 := hid hb1)
      obtain ⟨ys, g, m, hv, hp, hst, hbl⟩ := part_end F.out hown1.out hb1.out
      subst hv
      have HR := hid (⟨hp, hst, hbl⟩ : _ ∧ _ ∧ _)
      clear hp hst hbl
      go_wp2_with fail
      go_ret
      exact ⟨ys, g, m, rfl, HR.out.1, HR.out.2.1, HR.out.2.2⟩

theorem zero64 (X : World) : (zeroValue 40).run Tryz.prog X = .ok (.agg (bcells 64 noF)) X := by kernel_rfl
set_option maxHeartbeats 3200000 in
set_option maxRecDepth 100000 in
theorem union_any (F G : Nat → Bool) (w : World) : Calls Tryz.prog 104 #[.agg (bcells 64 F), .agg (bcells 64 G)] w fun e w' => (∃ H : Nat → Bool, e = .returned (.agg (bcells 64 H))) ∧ Below w.heap.size w w' := by
  have hz := zero64
  have R0 := hid (((Blk.new w 40 (bcells 64 F)).alloc (.cells (bcells 64 G) 40)).alloc (.cells (bcells 64 noF) 40))
  have S0 := hid ((Blk.new (w.alloc (.cells (bcells 64 F) 40)) 40 (bcells 64 G)).alloc (.cells (bcells 64 noF) 40))
  have Z0 := hid (Blk.new ((w.alloc (.cells (bcells 64 F) 40)).alloc (.cells (bcells 64 G) 40)) 40 (bcells 64 noF))
  have B0 := hid (show Below w.heap.size w (((w.alloc (.cells (bcells 64 F) 40)).alloc (.cells (bcells 64 G) 40)).alloc (.cells (bcells 64 noF) 40)) by go_grown)
  rw [World.size_alloc] at S0
  rw [World.size_alloc, World.size_alloc] at Z0
  go_enter Tryz.func104, Tryz.ntmps104
  go_upto_region 1 with fail
  generalize (((w.alloc (.cells (bcells 64 F) 40)).alloc (.cells (bcells 64 G) 40)).alloc (.cells (bcells 64 noF) 40)) = w1 at R0 S0 Z0 B0 ⊢
  clear hz
  go_wp2_with (refine wpList_load_mid rfl 38 (.tmp 7) rfl (w.heap.size + 1) 1 rfl (bcells 63 fun i => G (1 + i)).toList _ (S0.out.range_b (by omega)) Tryz.underlying38 rfl (by rw [bcells_len]; kernel_rfl) ?_)
  go_loopw [9] (fun u wr => ∃ k : Nat, u = .int .i64 k ∧ k ≤ 63 ∧ Hid (∃ F', Blk wr w.heap.size 40 (bcells 64 F')) ∧ Hid (Blk wr (w.heap.size + 1) 40 (bcells 64 G)) ∧ Hid (Blk wr (w.heap.size + 1 + 1) 40 (bcells 64 noF)) ∧ Hid (Below w.heap.size w wr)) (fun u _ => 63 - (intOf u).toNat)
  case atStart => exact ⟨0, rfl, by omega, hid ⟨F, R0.out⟩, S0, Z0, B0⟩
  case round =>
    clear R0 S0 Z0 B0
    obtain ⟨k, rfl, hk, ⟨F', hF⟩, KS, KZ, KB⟩ := hrel
    have KR := hid hF
    clear hF
    by_cases hc : k < 63
    · have c1 : (k : Int) < 63 := by omega
      have hix := run_idx (fun i => G (1 + i)) k hc
      have r1 : wr.cell? ⟨w.heap.size, 1 + k, none⟩ = some (.bool (F' (1 + k))) := (KR.out.cell (1 + k)).trans (bcells_get (by omega))
      have rf : wr.frozen? ⟨w.heap.size, 1 + k, none⟩ = false := KR.out.frozen (1 + k)
      have KR2 := hid (fun b : Bool => (show Blk (wr.setCell ⟨w.heap.size, 1 + k, none⟩ (.bool b)) w.heap.size 40 (bcells 64 (put1 F' (1 + k) b)) from bcells_set (n := 64) (f := F') (b := b) (by omega : 1 + k < 64) ▸ KR.out.set (1 + k) (.bool b)))
      have KS2 := hid (fun b : Bool => Blk.other KS.out (show w.heap.size + 1 ≠ w.heap.size by omega) (1 + k) (.bool b))
      have KZ2 := hid (fun b : Bool => Blk.other KZ.out (show w.heap.size + 1 + 1 ≠ w.heap.size by omega) (1 + k) (.bool b))
      have KB2 := hid (fun b : Bool => below_set KB.out (Nat.le_refl _) (1 + k) (.bool b))
      generalize F' (1 + k) = fb at r1
      generalize hgb : G (1 + k) = gb at hix
      clear hgb
      cases fb <;> cases gb
      all_goals
        go_wp2_with fail
        go_roundw
        all_goals first
          | exact ⟨k + 1, by go_num, by omega, hid ⟨_, KR2.out _⟩, hid (KS2.out _), hid (KZ2.out _), hid (KB2.out _)⟩
          | (simp [intOf]; omega)
    · obtain rfl : k = 63 := by omega
      have r0 : wr.cell? ⟨w.heap.size, 0, none⟩ = some (.bool (F' 0)) := (KR.out.cell 0).trans (bcells_get (by omega))
      have rf : wr.frozen? ⟨w.heap.size, 0, none⟩ = false := KR.out.frozen 0
      have s0 : wr.cell? ⟨w.heap.size + 1, 0, none⟩ = some (.bool (G 0)) := (KS.out.cell 0).trans (bcells_get (by omega))
      have KR2 := hid (fun b : Bool => (show Blk (wr.setCell ⟨w.heap.size, 0, none⟩ (.bool b)) w.heap.size 40 (bcells 64 (put1 F' 0 b)) from bcells_set (n := 64) (f := F') (b := b) (by omega : 0 < 64) ▸ KR.out.set 0 (.bool b)))
      have KZ2 := hid (fun b : Bool => Blk.other KZ.out (show w.heap.size + 1 + 1 ≠ w.heap.size by omega) 0 (.bool b))
      have KB2 := hid (fun b : Bool => below_set KB.out (Nat.le_refl _) 0 (.bool b))
      generalize F' 0 = fb at r0
      generalize G 0 = gb at s0
      cases fb <;> cases gb
      all_goals
        go_upto_region 7 with fail
        refine wp_region_lit ?_
        first
          | (have K3 := hid (KR2.out true); have Z3 := hid (KZ2.out true); have B3 := hid (KB2.out true); generalize (wr.setCell ⟨w.heap.size, 0, none⟩ (.bool true)) = w3 at K3 Z3 B3 ⊢; generalize put1 F' 0 true = H at K3; refine wpList_load_mid (w := w3) rfl 40 (.tmp 2) rfl w.heap.size 0 rfl (bcells 64 (fun i => H (0 + i))).toList _ (K3.out.range_b (by omega)) Tryz.underlying40 rfl (by rw [bcells_len]; kernel_rfl) ?_)
          | (have K3 := hid (KR2.out false); have Z3 := hid (KZ2.out false); have B3 := hid (KB2.out false); generalize (wr.setCell ⟨w.heap.size, 0, none⟩ (.bool false)) = w3 at K3 Z3 B3 ⊢; generalize put1 F' 0 false = H at K3; refine wpList_load_mid (w := w3) rfl 40 (.tmp 2) rfl w.heap.size 0 rfl (bcells 64 (fun i => H (0 + i))).toList _ (K3.out.range_b (by omega)) Tryz.underlying40 rfl (by rw [bcells_len]; kernel_rfl) ?_)
        refine wpList_store_mid rfl 40 (.tmp 4) (.tmp 31) rfl (w.heap.size + 1 + 1) 0 (bcells 64 (fun i => H (0 + i))) rfl rfl (by rw [bcells_size]; exact Z3.out.there_b (by omega)) (by rw [bcells_size]; kernel_rfl) bcells_one ?_
        have Z4 := hid (full_store (G := fun i => H (0 + i)) Z3.out)
        have B4 := hid (below_setCells (g := w.heap.size + 1 + 1) (by omega) (bcells 64 (fun i => H (0 + i))).toList 0 w3 B3.out)
        generalize w3.setCells (w.heap.size + 1 + 1) 0 (bcells 64 (fun i => H (0 + i))).toList = w4 at Z4 B4 ⊢
        go_wp2_with fail
        exact bodyPost_ret (results_cell_row rfl _ _ (w.heap.size + 1 + 1) 40 _ (0, 0) _ rfl Z4.out Tryz.underlying40 rfl (by rw [bcells_size]; kernel_rfl)) rfl ⟨⟨_, rfl⟩, B4.out⟩

/-- The verdict over the first n items of a field. -/
def fieldV (k : Nat) (xs : List (List UInt8)) : Nat → Nat
  | 0 => 1
  | n + 1 => worse (fieldV k xs n) (if xs.getD n [] = [] then 2 else (itemRK k (xs.getD n [])).2)
/-- The reference's verdict over a field. -/
def crV (k : Nat) (s : ByteArray) : Nat := fieldV k (cut 44 s.toList) (cut 44 s.toList).length
theorem finR_vd (lo hi low high step : Nat) (star : Bool) (vd : Nat) (h : vd ≤ 2) : (finR lo hi low high step star vd).2 ≤ 2 := by
  unfold finR
  split
  · exact h
  · split
    · exact Nat.zero_le 2
    · exact Nat.le_succ 1
theorem worse_le {a b : Nat} (ha : a ≤ 2) (hb : b ≤ 2) : worse a b ≤ 2 := by
  unfold worse
  split
  · exact Nat.zero_le 2
  · exact Nat.max_le.2 ⟨ha, hb⟩
theorem itemRK_vd (k : Nat) (l : List UInt8) : (itemRK k l).2 ≤ 2 := by
  unfold itemRK itemR
  split
  · exact finR_vd _ _ _ _ _ _ _ (ends_vd _ _ _ _ (valR_vd k) _)
  · exact finR_vd _ _ _ _ _ _ _ (worse_le (ends_vd _ _ _ _ (valR_vd k) _) (stepR_vd _))
  · exact Nat.zero_le 2
theorem fieldV_vd (k : Nat) (xs : List (List UInt8)) : ∀ n, fieldV k xs n ≤ 2
  | 0 => Nat.le_succ 1
  | n + 1 => worse_le (fieldV_vd k xs n) (by split; exact Nat.le_refl 2; exact itemRK_vd k _)
theorem fieldV_one (k : Nat) (xs : List (List UInt8)) : ∀ n, n ≤ xs.length → fieldV k xs n = 1 → ∀ x ∈ xs.take n, x ≠ [] ∧ (itemRK k x).2 = 1
  | 0, _, _, x, hx => by simp at hx
  | n + 1, hn, h, x, hx => by
    obtain ⟨h1, h2⟩ := worse_one h
    have hl : n < xs.length := by omega
    rw [List.take_succ_eq_append_getElem hl] at hx
    rcases List.mem_append.1 hx with hx | hx
    · exact fieldV_one k xs n (by omega) h1 x hx
    · rw [List.mem_singleton.1 hx]
      rw [List.getD_eq_getElem?_getD, List.getElem?_eq_getElem hl] at h2
      simp only [Option.getD_some] at h2
      split at h2
      · omega
      · rename_i h3
        exact ⟨h3, h2⟩
theorem fieldI_fine (f : List UInt8 → Option Nat) : ∀ (l : List (List UInt8)) (a : Nat), (∀ x ∈ l, f x ≠ none) → fieldI f l a ≠ none
  | [], a, _ => by simp [fieldI]
  | x :: r, a, h => by
    obtain ⟨b, hb⟩ := Option.ne_none_iff_exists'.1 (h x (by simp))
    rw [fieldI_yes r a hb]
    exact fieldI_fine f r _ (fun y hy => h y (List.mem_cons_of_mem _ hy))
/-- A field that the reference finds fine is one that the package takes. -/
theorem field_fine (k : Nat) (s : ByteArray) (ha : ascii s) (h : crV k s = 1) : fieldK k s ≠ none := by
  have hall := fieldV_one k (cut 44 s.toList) _ (Nat.le_refl _) h
  rw [List.take_length] at hall
  have hf : full (cut 44 s.toList) := fun q hq => (hall q hq).1
  unfold fieldK partsC
  rw [fields_cut s ha hf]
  refine fieldI_fine _ _ _ (fun q hq => ?_)
  rw [(item_meets k q).2 (hall q hq).2]
  simp

end Go.Proofs.YtomkhhpigpilfaaGreatDoor
