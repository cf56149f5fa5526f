/- The reference's CronField. Walked. -/
import Derived.Test.YtomkhhpigpilfaaGreatDoorFewC
set_option linter.unusedVariables false
set_option linter.unusedSimpArgs false
namespace Go.Proofs.YtomkhhpigpilfaaGreatDoor
open Go.RowKit

theorem Blk.range0 {w : World} {g n : Nat} {t : TypeId} {f : Nat → Bool} (hb : Blk w g t (bcells n f)) : w.rangeAt g 0 (bcells n f).toList := by
  have := hb.range_b (o := 0) (m := n) (by omega)
  rwa [show (fun i => f (0 + i)) = f from funext fun i => by rw [Nat.zero_add]] at this
theorem heap_setCells {g h : Nat} (hne : g ≠ h) : ∀ (vs : List Value) (o : Nat) (w : World), (w.setCells h o vs).heap[g]? = w.heap[g]?
  | [], _, _ => rfl
  | v :: r, o, w => (heap_setCells hne r (o + 1) _).trans (Below.heap_setCell w ⟨h, o, none⟩ v g hne)
theorem cell_heap {w w' : World} {g i : Nat} (h : w'.heap[g]? = w.heap[g]?) : w'.cell? ⟨g, i, none⟩ = w.cell? ⟨g, i, none⟩ := by
  unfold World.cell?
  simp only [h]
theorem StrsAt.setCells {w : World} {g h : Nat} {xs : List ByteArray} (hx : StrsAt w g xs) (hne : g ≠ h) (vs : List Value) (o : Nat) : StrsAt (w.setCells h o vs) g xs := fun i x hi => (cell_heap (heap_setCells hne vs o w)).trans (hx i x hi)
theorem strs_apart {w : World} {g h n : Nat} {t : TypeId} {xs : List ByteArray} {x : ByteArray} {i : Nat} {F : Nat → Bool} (hx : StrsAt w g xs) (hi : xs[i]? = some x) (hb : Blk w h t (bcells n F)) : g ≠ h := by
  rintro rfl
  have h1 := hx i x hi
  rw [hb.cell i] at h1
  by_cases hin : i < n
  · rw [bcells_get hin] at h1
    cases h1
  · rw [Array.getElem?_eq_none (by rw [bcells_size]; omega)] at h1
    cases h1

set_option maxHeartbeats 3200000 in
set_option maxRecDepth 100000 in
theorem cfield_any (k : Nat) (hk : k ≤ 5) (s : ByteArray) (hs : s.size ≤ 65536) (w : World) : Calls Tryz.prog 94 #[.agg #[.int .i64 (kLo k : Nat), .int .i64 (kHi k : Nat), .int .i64 k], .string s] w fun e w' => (∃ F : Nat → Bool, e = .returned (.tuple #[.agg (bcells 64 F), .int .i64 (crV k s : Nat)])) ∧ Below w.heap.size w w' := by
  have CI := hid (fun (x : ByteArray) (hx : x.size ≤ 65536) w => item_any k hk x hx w)
  have CP := hid (fun w => piecesC s hs w)
  have HS := hid hs
  have HV := hid (show crV k s = fieldV k (cut 44 s.toList) (cut 44 s.toList).length from rfl)
  have VD := hid (fieldV_vd k (cut 44 s.toList))
  generalize crV k s = V at HV ⊢
  obtain ⟨lo, hlo⟩ : ∃ lo, kLo k = lo := ⟨_, rfl⟩
  obtain ⟨hi, hhi⟩ : ∃ hi, kHi k = hi := ⟨_, rfl⟩
  rw [hlo, hhi] at CI ⊢
  clear hs hk hlo hhi
  have hz := zero64
  have HNE := hid (show w.heap.size ≠ w.heap.size + 1 + 1 ∧ w.heap.size + 1 ≠ w.heap.size + 1 + 1 ∧ w.heap.size ≤ w.heap.size + 1 + 1 by omega)
  have R0 := hid (((Blk.new w 164 #[.int .i64 (lo : Nat), .int .i64 (hi : Nat), .int .i64 k]).alloc (.cells (bcells 64 noF) 40)).alloc (.cells (bcells 64 noF) 40))
  have Z0 := hid ((Blk.new (w.alloc (.cells #[.int .i64 (lo : Nat), .int .i64 (hi : Nat), .int .i64 k] 164)) 40 (bcells 64 noF)).alloc (.cells (bcells 64 noF) 40))
  have S0 := hid (Blk.new ((w.alloc (.cells #[.int .i64 (lo : Nat), .int .i64 (hi : Nat), .int .i64 k] 164)).alloc (.cells (bcells 64 noF) 40)) 40 (bcells 64 noF))
  have B0 := hid (show Below w.heap.size w (((w.alloc (.cells #[.int .i64 (lo : Nat), .int .i64 (hi : Nat), .int .i64 k] 164)).alloc (.cells (bcells 64 noF) 40)).alloc (.cells (bcells 64 noF) 40)) by go_grown)
  rw [World.size_alloc] at Z0
  rw [World.size_alloc, World.size_alloc] at S0
  go_enter Tryz.func94, Tryz.ntmps94
  go_upto_region 3 with fail
  generalize (((w.alloc (.cells #[.int .i64 (lo : Nat), .int .i64 (hi : Nat), .int .i64 k] 164)).alloc (.cells (bcells 64 noF) 40)).alloc (.cells (bcells 64 noF) 40)) = w1 at R0 S0 Z0 B0 ⊢
  clear hz
  go_wp2_with (go_at_call 102; refine (CP.out _).mono ?_; rintro e w2 ⟨xs, g, c, rfl, hx, hst, hb⟩; have HX := hid hx; have X2 := hid hst; have R2 := hid (R0.out.below hb); have Z2 := hid (Z0.out.below hb); have S2 := hid (S0.out.below hb); have B2 := hid (bt B0.out hb); clear hb hst hx R0 Z0 S0 B0 CP)
  have LX := hid (show (cut 44 s.toList).length = xs.length by rw [← HX.out, List.length_map])
  have MX := hid (show xs.length ≤ 65537 by rw [← LX.out]; have := cut_count 44 s.toList; rw [size_list] at this; have := HS.out; omega)
  have PX := hid (fun x (hx : x ∈ xs) => part_size HX.out hx)
  go_loopw [15, 7] (fun i v wr => ∃ n : Nat, i = .int .i64 n ∧ n ≤ xs.length ∧ v = .int .i64 (fieldV k (cut 44 s.toList) n : Nat) ∧ Hid (Blk wr w.heap.size 164 #[.int .i64 (lo : Nat), .int .i64 (hi : Nat), .int .i64 k]) ∧ Hid (Blk wr (w.heap.size + 1) 40 (bcells 64 noF)) ∧ Hid (∃ F, Blk wr (w.heap.size + 1 + 1) 40 (bcells 64 F)) ∧ Hid (StrsAt wr g xs) ∧ Hid (Below w.heap.size w wr)) (fun i _ _ => xs.length - (intOf i).toNat)
  case atStart => exact ⟨0, rfl, Nat.zero_le _, rfl, R2, Z2, hid ⟨noF, S2.out⟩, X2, B2⟩
  case round =>
    clear R2 Z2 S2 X2 B2
    obtain ⟨n, rfl, hn, rfl, KR, KZ, ⟨F, hF⟩, KX, KB⟩ := hrel
    have KS := hid hF
    clear hF
    have mx := MX.out
    by_cases hc : n < xs.length
    · have c1 : (n : Int) < (xs.length : Int) := by omega
      have hw : IntKind.i64.wrap ((n : Int) + 1) = (n : Int) + 1 := IntWalk.i64_in _ (by omega)
      obtain ⟨x, hxe⟩ : ∃ x, xs[n]'hc = x := ⟨_, rfl⟩
      have hget : xs[n]? = some x := by rw [List.getElem?_eq_getElem hc, hxe]
      have hcell := KX.out n x hget
      have GA := hid (strs_apart KX.out hget KS.out)
      have hxz : x.size ≤ 65536 := Nat.le_trans (PX.out x (List.mem_of_getElem? hget)) HS.out
      have hgd : (cut 44 s.toList).getD n [] = x.toList := by
        rw [← HX.out, List.getD_eq_getElem?_getD, List.getElem?_map, hget]
        rfl
      obtain ⟨v, hv⟩ : ∃ v, fieldV k (cut 44 s.toList) n = v := ⟨_, rfl⟩
      have hv2 : v ≤ 2 := hv ▸ VD.out n
      have HN := hid (show fieldV k (cut 44 s.toList) (n + 1) = worse v (if x.toList = [] then 2 else (itemRK k x.toList).2) by rw [← hv, ← hgd]; rfl)
      rw [hv]
      clear hv hgd hget hxe
      by_cases he : x.toList = []
      · have e0 : (x.toList == []) = true := by rw [he]; rfl
        rw [if_pos he] at HN
        have CW := hid (fun w => worse_any v 2 hv2 (Nat.le_refl 2) w)
        clear he hv2
        go_wp2_with (go_at_call 60; refine (CW.out _).mono ?_; rintro e w3 ⟨rfl, rfl⟩)
        go_roundw
        case rel => exact ⟨n + 1, by go_num, by omega, by rw [HN.out], KR, KZ, hid ⟨F, KS.out⟩, KX, KB⟩
        case measure => simp [intOf]; omega
      · have e0 : (x.toList == []) = false := by simpa using he
        rw [if_neg he] at HN
        obtain ⟨p, hp⟩ : ∃ p, itemRK k x.toList = p := ⟨_, rfl⟩
        have CX := hid (fun w => CI.out x hxz w)
        have hp2 : p.2 ≤ 2 := hp ▸ itemRK_vd k x.toList
        rw [hp] at CX HN
        have CW := hid (fun w => worse_any v p.2 hv2 hp2 w)
        clear he hv2 hp hp2
        have r0 : wr.cell? ⟨w.heap.size, 0, none⟩ = some (.int .i64 lo) := KR.out.cell 0
        have r1 : wr.cell? ⟨w.heap.size, 1, none⟩ = some (.int .i64 hi) := KR.out.cell 1
        have r2 : wr.cell? ⟨w.heap.size, 2, none⟩ = some (.int .i64 k) := KR.out.cell 2
        have hz := zero64
        have N := hid (show ∀ f : Nat → Bool, (Tryz.prog.info? 40).map (·.size) = some (bcells 64 f).size from fun f => by rw [bcells_size]; kernel_rfl)
        have NL := hid (show ∀ f : Nat → Bool, (Tryz.prog.info? 40).map (·.size) = some (bcells 64 f).toList.length from fun f => by rw [bcells_len]; kernel_rfl)
        have US := hid (Tryz.underlying40)
        go_upto_region 8 with fail
        go_upto_region 9 with (first
          | (go_at_call 103; refine (CX.out _).mono ?_; rintro e w3 ⟨⟨G, rfl, _⟩, hb⟩; have R3 := hid (KR.out.below hb); have Z3 := hid (KZ.out.below hb); have S3 := hid (KS.out.below hb); have X3 := hid (KX.out.below hb); have B3 := hid (bt KB.out hb); clear hb r0 r1 r2
             have R4 := hid (R3.out.alloc (.cells (bcells 64 noF) 40)); have Z4 := hid (Z3.out.alloc (.cells (bcells 64 noF) 40)); have S4 := hid (S3.out.alloc (.cells (bcells 64 noF) 40)); have B4 := hid (B3.out.alloc B3.out.size (.cells (bcells 64 noF) 40)); have X4 := hid (X3.out.below (show Below w3.heap.size w3 (w3.alloc (.cells (bcells 64 noF) 40)) by go_grown)); have T4 := hid (Blk.new w3 40 (bcells 64 noF)))
          | (refine wpList_store_mid rfl 40 (.tmp 10) (.tmp 27) rfl w3.heap.size 0 (bcells 64 G) rfl rfl (by rw [bcells_size]; exact T4.out.there_b (Nat.le_refl 64)) (N.out _) bcells_one ?_
             have T5 := hid (full_store (G := G) T4.out)
             have RR5 := hid (Blk.setCells_other (h := w3.heap.size) (Nat.ne_of_lt R3.out.lt) (bcells 64 G).toList 0 _ R4.out)
             have Z5 := hid (Blk.setCells_other (h := w3.heap.size) (Nat.ne_of_lt Z3.out.lt) (bcells 64 G).toList 0 _ Z4.out)
             have S5 := hid (Blk.setCells_other (h := w3.heap.size) (Nat.ne_of_lt S3.out.lt) (bcells 64 G).toList 0 _ S4.out)
             have B5 := hid (below_setCells (g := w3.heap.size) B3.out.size (bcells 64 G).toList 0 _ B4.out)
             have X5 := hid (X3.out.below (below_setCells (g := w3.heap.size) (Nat.le_refl _) (bcells 64 G).toList 0 _ (show Below w3.heap.size w3 (w3.alloc (.cells (bcells 64 noF) 40)) by go_grown)))
             generalize (w3.alloc (.cells (bcells 64 noF) 40)).setCells w3.heap.size 0 (bcells 64 G).toList = w5 at T5 RR5 Z5 S5 B5 X5 ⊢))
        clear R3 Z3 S3 X3 B3 R4 Z4 S4 B4 X4 T4 KR KZ KS KX KB hz
        obtain ⟨g5, hg5⟩ : ∃ g5, w3.heap.size = g5 := ⟨_, rfl⟩
        rw [hg5] at T5 ⊢
        clear hg5
        have CU := hid (fun w => union_any F G w)
        have L1 := hid S5.out.range0
        have L2 := hid T5.out.range0
        go_wp2_with (first
          | (refine wpList_load_mid rfl 40 (.tmp 6) rfl (w.heap.size + 1 + 1) 0 rfl (bcells 64 F).toList _ L1.out US.out rfl (NL.out _) ?_)
          | (refine wpList_load_mid rfl 40 (.tmp 10) rfl g5 0 rfl (bcells 64 G).toList _ L2.out US.out rfl (NL.out _) ?_)
          | (go_at_call 104; refine (CU.out _).mono ?_; rintro e w6 ⟨⟨H, rfl⟩, hb⟩; have R6 := hid (RR5.out.below hb); have Z6 := hid (Z5.out.below hb); have S6 := hid (S5.out.below hb); have X6 := hid (X5.out.below hb); have B6 := hid (bt B5.out hb); clear hb)
          | (go_at_call 60; refine (CW.out _).mono ?_; rintro e w7 ⟨rfl, rfl⟩)
          | (refine wpList_store_mid rfl 40 (.tmp 6) (.tmp 31) rfl (w.heap.size + 1 + 1) 0 (bcells 64 H) rfl rfl (by rw [bcells_size]; exact S6.out.there_b (Nat.le_refl 64)) (N.out _) bcells_one ?_
             have S7 := hid (full_store (G := H) S6.out)
             have R7 := hid (Blk.setCells_other (h := w.heap.size + 1 + 1) HNE.out.1 (bcells 64 H).toList 0 _ R6.out)
             have Z7 := hid (Blk.setCells_other (h := w.heap.size + 1 + 1) HNE.out.2.1 (bcells 64 H).toList 0 _ Z6.out)
             have B7 := hid (below_setCells (g := w.heap.size + 1 + 1) HNE.out.2.2 (bcells 64 H).toList 0 _ B6.out)
             have X7 := hid (X6.out.setCells GA.out (bcells 64 H).toList 0)
             generalize w6.setCells (w.heap.size + 1 + 1) 0 (bcells 64 H).toList = w7 at S7 R7 Z7 B7 X7 ⊢))
        clear L1 L2 RR5 Z5 S5 B5 X5 T5 R6 Z6 S6 X6 B6
        go_roundw
        case rel => exact ⟨n + 1, by go_num, by omega, by rw [HN.out], R7, Z7, hid ⟨H, S7.out⟩, X7, B7⟩
        case measure => simp [intOf]; omega
    · obtain rfl : n = xs.length := by omega
      rw [← LX.out, ← HV.out]
      have V2 := hid (show V ≤ 2 by rw [HV.out]; exact VD.out _)
      clear hn mx
      by_cases h1 : V = 1
      · subst h1
        have US := hid (Tryz.underlying40)
        have NL := hid (show ∀ f : Nat → Bool, (Tryz.prog.info? 40).map (·.size) = some (bcells 64 f).toList.length from fun f => by rw [bcells_len]; kernel_rfl)
        have N := hid (show ∀ f : Nat → Bool, (Tryz.prog.info? 40).map (·.size) = some (bcells 64 f).size from fun f => by rw [bcells_size]; kernel_rfl)
        have L1 := hid KS.out.range0
        go_wp2_with (first
          | (refine wpList_load_mid rfl 40 (.tmp 6) rfl (w.heap.size + 1 + 1) 0 rfl (bcells 64 F).toList _ L1.out US.out rfl (NL.out _) ?_)
          | (refine wpList_store_mid rfl 40 (.tmp 4) (.tmp 40) rfl (w.heap.size + 1) 0 (bcells 64 F) rfl rfl (by rw [bcells_size]; exact KZ.out.there_b (Nat.le_refl 64)) (N.out _) bcells_one ?_
             have Z7 := hid (full_store (G := F) KZ.out)
             have B7 := hid (below_setCells (g := w.heap.size + 1) (Nat.le_succ _) (bcells 64 F).toList 0 _ KB.out)
             generalize wr.setCells (w.heap.size + 1) 0 (bcells 64 F).toList = w7 at Z7 B7 ⊢))
        exact bodyPost_ret (results_row_tmp rfl _ _ (w.heap.size + 1) 40 _ (0, 0) _ rfl Z7.out Tryz.underlying40 rfl (by rw [bcells_size]; kernel_rfl)) rfl ⟨⟨F, rfl⟩, B7.out⟩
      · have e1 : ((V : Int) != 1) = true := by rw [bne_iff_ne]; omega
        have N := hid (show ∀ f : Nat → Bool, (Tryz.prog.info? 40).map (·.size) = some (bcells 64 f).size from fun f => by rw [bcells_size]; kernel_rfl)
        have H1 := hid h1
        clear h1
        go_wp2_with (first
          | (refine wpList_buildTo rfl 40 #[] rfl (some 38) rfl (bcells 64 noF) built0 ?_)
          | (refine wpList_store_mid rfl 40 (.tmp 4) (.tmp 38) rfl (w.heap.size + 1) 0 (bcells 64 noF) rfl rfl (by rw [bcells_size]; exact KZ.out.there_b (Nat.le_refl 64)) (N.out _) bcells_one ?_
             have Z7 := hid (full_store (G := noF) KZ.out)
             have B7 := hid (below_setCells (g := w.heap.size + 1) (Nat.le_succ _) (bcells 64 noF).toList 0 _ KB.out)
             generalize wr.setCells (w.heap.size + 1) 0 (bcells 64 noF).toList = w7 at Z7 B7 ⊢))
        exact bodyPost_ret (results_row_tmp rfl _ _ (w.heap.size + 1) 40 _ (0, 0) _ rfl Z7.out Tryz.underlying40 rfl (by rw [bcells_size]; kernel_rfl)) rfl ⟨⟨noF, rfl⟩, B7.out⟩
end Go.Proofs.YtomkhhpigpilfaaGreatDoor
