/- The reference's CronParse of a plain text, and the law's cronMeansNothing. Walked. -/
import Derived.Test.YtomkhhpigpilfaaGreatDoorFewF
set_option linter.unusedVariables false
set_option linter.unusedSimpArgs false
namespace Go.Proofs.YtomkhhpigpilfaaGreatDoor
open Go.RowKit

theorem zone_no (s : ByteArray) (hz : zoned s = false) (hs : s.size ≤ 2147483647) (w : World) : Calls Tryz.prog 17 #[.string s] w fun e w' => e = .returned (.int .i64 0) ∧ w = w' := by
  refine (zoneHead_any s w hs).mono ?_
  rintro e w' ⟨⟨n, rfl, hn⟩, rfl⟩
  rw [hz] at hn
  rw [show n = 0 by simpa using hn]
  exact ⟨rfl, rfl⟩

set_option maxHeartbeats 3200000 in
set_option maxRecDepth 100000 in
theorem cparse_any (s : ByteArray) (o : Int) (t : Nat → Bool) (w : World) (hp : PlainT s) (ho : Opts2 o t) (h2 : bits .and .i64 o 2 = 0) (h128 : bits .and .i64 o 128 = 0) (hlen : (wds s).length = cntT t 6) (hne : wds s ≠ []) :
    Calls Tryz.prog 26 #[.int .i64 o, .string s] w fun e w' => (∃ G : Nat → Bool, e = .returned (.tuple #[.agg (mcells G), .int .i64 (sixV (fullF t (wds s)) 6 : Nat)])) ∧ Below w.heap.size w w' := by
  obtain ⟨ha, hs, h64, hzn⟩ := hp
  have CZ := hid (fun w => zone_no s hzn (by omega) w)
  have CP := hid (fun w => plain_any s o t w ha hs h64 ho h2 h128 hlen hne (fun x hx => Nat.le_trans (wds_size hx) hs))
  have e0 : (s.toList == []) = false := by
    rw [beq_eq_false_iff_ne]
    intro h
    have h1 := congrArg List.length (wds_list s)
    rw [h] at h1
    exact hne (List.length_eq_zero_iff.1 (by rw [List.length_map] at h1; rw [h1]; rfl))
  clear ha hs h64 hzn ho h2 h128 hlen hne
  generalize sixV (fullF t (wds s)) 6 = V at CP ⊢
  have hz := zeroM
  have R0 := hid (Blk.new w 67 (mcells noF))
  have B0 := hid (show Below w.heap.size w (w.alloc (.cells (mcells noF) 67)) by go_grown)
  have NM := hid (show ∀ f : Nat → Bool, (Tryz.prog.info? 67).map (·.size) = some (mcells f).size from fun f => by rw [mcells_size]; kernel_rfl)
  go_enter Tryz.func26, Tryz.ntmps26
  go_upto_region 1 with fail
  generalize (w.alloc (.cells (mcells noF) 67)) = w1 at R0 B0 ⊢
  clear hz
  go_wp2_with (first
    | (go_at_call 17; refine (CZ.out _).mono ?_; rintro e w' ⟨rfl, rfl⟩)
    | (go_at_call 55; refine (CP.out _).mono ?_; rintro e w2 ⟨⟨G, rfl⟩, hb⟩; have R5 := hid (R0.out.below hb); have B5 := hid (bt B0.out hb); clear hb)
    | (refine wpList_store_mid rfl 67 (.tmp 4) (.tmp 23) rfl w.heap.size 0 (mcells G) rfl rfl (by rw [mcells_size]; have := there_all R5.out; rwa [mcells_size] at this) (NM.out _) mcells_one ?_
       have R6 := hid (whole_store (ds := mcells G) R5.out (by rw [mcells_size, mcells_size]))
       have B6 := hid (below_setCells (g := w.heap.size) (Nat.le_refl _) (mcells G).toList 0 _ B5.out)
       generalize w2.setCells w.heap.size 0 (mcells G).toList = w6 at R6 B6 ⊢))
  exact bodyPost_ret (results_row_tmp rfl _ _ w.heap.size 67 _ (0, 0) _ rfl R6.out Tryz.underlying67 rfl (by rw [mcells_size]; kernel_rfl)) rfl ⟨⟨G, rfl⟩, B6.out⟩

/-- A text that one of whose fields the package refuses means nothing to the reference. -/
theorem nothing_any (s : ByteArray) (o : Int) (t : Nat → Bool) (w : World) (hp : PlainT s) (ho : Opts2 o t) (h2 : bits .and .i64 o 2 = 0) (h128 : bits .and .i64 o 128 = 0) (hlen : (wds s).length = cntT t 6) (hne : wds s ≠ [])
    (hv : sixV (fullF t (wds s)) 6 ≠ 1) :
    Calls Tryz.prog 11 #[.int .i64 o, .string s] w fun e w' => e = .returned (.bool true) ∧ Below w.heap.size w w' := by
  have CP := hid (fun w => cparse_any s o t w hp ho h2 h128 hlen hne)
  generalize sixV (fullF t (wds s)) 6 = V at CP hv
  have e1 : ((V : Int) != 1) = true := by rw [bne_iff_ne]; omega
  clear hp ho h2 h128 hlen hne hv
  have hz := zeroM
  have NM := hid (show ∀ f : Nat → Bool, (Tryz.prog.info? 67).map (·.size) = some (mcells f).size from fun f => by rw [mcells_size]; kernel_rfl)
  go_enter Tryz.func11, Tryz.ntmps11
  go_wp2_with (first
    | (go_at_call 26; refine (CP.out _).mono ?_; rintro e w2 ⟨⟨G, rfl⟩, hb⟩; have B2 := hid (hb.alloc hb.size (.cells (mcells noF) 67)); have T2 := hid (Blk.new w2 67 (mcells noF)); have LE := hid hb.size; clear hb)
    | (refine wpList_store_mid rfl 67 (.tmp 5) (.tmp 11) rfl w2.heap.size 0 (mcells G) rfl rfl (by rw [mcells_size]; have := there_all T2.out; rwa [mcells_size] at this) (NM.out _) mcells_one ?_
       have B6 := hid (below_setCells (g := w2.heap.size) LE.out (mcells G).toList 0 _ B2.out)
       generalize (w2.alloc (.cells (mcells noF) 67)).setCells w2.heap.size 0 (mcells G).toList = w6 at B6 ⊢; clear hz))
  go_ret
  exact ⟨rfl, B6.out⟩

theorem fine_all (t : Nat → Bool) (s : ByteArray) (ha : ascii s) (h : sixV (fullF t (wds s)) 6 = 1) : ∀ i, i < 6 → fieldK i (fullF t (wds s) i) ≠ none := by
  intro i hi
  refine field_fine i _ ?_ (sixV_one _ 6 h i hi)
  have hw : ∀ x ∈ wds s, ascii x := by
    intro x hx k hk
    have h1 : x.toList ∈ wl s.toList := by
      rw [← wds_list]
      exact List.mem_map.2 ⟨x, hx, rfl⟩
    have h2 := (wl_good h1).2 x[k] (List.mem_of_getElem? (at_list x k hk))
    obtain ⟨j, hj, e⟩ := List.getElem_of_mem h2
    rw [size_list] at hj
    have h3 := at_list s j hj
    rw [List.getElem?_eq_getElem (by rw [size_list]; exact hj)] at h3
    rw [← e, Option.some.inj h3]
    exact ha j hj
  unfold fullF
  split
  · rw [List.getD_eq_getElem?_getD]
    rcases hg : (wds s)[cntT t i]? with _ | x
    · intro k hk
      exact absurd hk (Nat.not_lt_zero _)
    · exact hw x (List.mem_of_getElem? hg)
  · unfold dfl
    intro k hk
    split at hk
    · rename_i h3
      have : k = 0 := by have : (⟨#[48]⟩ : ByteArray).size = 1 := rfl; omega
      subst this
      simp only [if_pos h3]
      show (48 : UInt8).toNat < 128
      decide
    · rename_i h3
      have : k = 0 := by have : (⟨#[42]⟩ : ByteArray).size = 1 := rfl; omega
      subst this
      simp only [if_neg h3]
      show (42 : UInt8).toNat < 128
      decide
end Go.Proofs.YtomkhhpigpilfaaGreatDoor
