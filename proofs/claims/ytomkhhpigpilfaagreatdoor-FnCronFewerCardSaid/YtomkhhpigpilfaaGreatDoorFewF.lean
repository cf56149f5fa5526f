/- The reference's reading of a plain text: cronPlain, CronParse, and the law's cronMeansNothing. Walked. -/
import Derived.Test.YtomkhhpigpilfaaGreatDoorFewE
import Derived.Test.YtomkhhpigpilfaaGreatDoorFewB
import Derived.Test.YtomkhhpigpilfaaGreatDoorParG
set_option linter.unusedVariables false
set_option linter.unusedSimpArgs false
namespace Go.Proofs.YtomkhhpigpilfaaGreatDoor
open Go.RowKit

/-- A meaning's cells: no delay, six sets, no zone. -/
def mcells (G : Nat → Bool) : Array Value := #[.bool false, .int .i64 0] ++ bcells 384 G ++ #[.bool false]
theorem mcells_size {G : Nat → Bool} : (mcells G).size = 387 := by simp [mcells, bcells_size]
theorem mcells_one {G : Nat → Bool} : (mcells G).all (·.oneCell') = true := by
  unfold mcells
  rw [Array.all_append, Array.all_append, bcells_one]
  simp [Value.oneCell']
theorem whole_store {w : World} {g : Nat} {t : TypeId} {cs ds : Array Value} (hb : Blk w g t cs) (hz : ds.size = cs.size) : Blk (w.setCells g 0 ds.toList) g t ds := by
  obtain ⟨es, h1, h2, h3⟩ := Blk.setCells_l hb ds.toList 0 w _ hb
  have e : es = ds := by
    apply Array.ext_getElem?
    intro i
    by_cases hi : i < cs.size
    · rw [h3 i hi, if_pos ⟨Nat.zero_le _, by rw [Nat.zero_add, Array.length_toList]; omega⟩, Nat.sub_zero]
      simp
    · rw [Array.getElem?_eq_none (by omega), Array.getElem?_eq_none (by omega)]
  rwa [e] at h1
theorem there_all {w : World} {g : Nat} {t : TypeId} {cs : Array Value} (h : Blk w g t cs) : w.there g 0 cs.size := fun j hj => by
  constructor
  · rw [Nat.zero_add, h.cell j, Array.getElem?_eq_getElem hj]
    rfl
  · exact h.frozen _
theorem zeroM (X : World) : (zeroValue 67).run Tryz.prog X = .ok (.agg (mcells noF)) X := by kernel_rfl
theorem builtM (G : Nat → Bool) : Tryz.prog.built 67 [(2, .agg (bcells 384 G))] = some (mcells G) := by kernel_rfl

theorem foreign_no (s : ByteArray) (ha : ascii s) (hs : s.size ≤ 400000) (w : World) : Calls Tryz.prog 59 #[.string s] w fun e w' => e = .returned (.bool false) ∧ w' = w := by
  have HA := hid ha
  clear ha
  go_enter Tryz.func59, Tryz.ntmps59
  go_wp2_with fail
  go_loop [6] (fun i => ∃ k : Nat, k ≤ s.size ∧ i = .int .i64 k) (fun i => s.size - (intOf i).toNat)
  case atStart => exact ⟨0, Nat.zero_le _, rfl⟩
  case round =>
    obtain ⟨k, hk, rfl⟩ := hrel
    by_cases hlt : k < s.size
    · obtain ⟨b, hb⟩ : ∃ b, s[k]'hlt = b := ⟨_, rfl⟩
      have h8 := HA.out k hlt
      rw [hb] at h8
      have hw : IntKind.i64.wrap ((k : Int) + 1) = (k : Int) + 1 := IntWalk.i64_in _ (by omega)
      have h9 : ¬ (128 : Int) ≤ (b.toNat : Int) := by omega
      go_wp2_with fail
      go_round
      case rel => exact ⟨k + 1, by omega, by go_num⟩
      case measure => simp [intOf]; omega
    · go_wp2_with fail
      go_ret
      exact ⟨rfl, rfl⟩

set_option maxHeartbeats 1600000 in
set_option maxRecDepth 100000 in
theorem plain_any (s : ByteArray) (o : Int) (t : Nat → Bool) (w : World) (ha : ascii s) (hs : s.size ≤ 65536) (h64 : Lib.hasPrefix s.toList (⟨#[64]⟩ : ByteArray).toList = false) (ho : Opts2 o t) (h2 : bits .and .i64 o 2 = 0) (h128 : bits .and .i64 o 128 = 0) (hlen : (wds s).length = cntT t 6) (hne : wds s ≠ [])
    (hz : ∀ x ∈ wds s, x.size ≤ 65536) :
    Calls Tryz.prog 55 #[.int .i64 o, .string s] w fun e w' => (∃ G : Nat → Bool, e = .returned (.tuple #[.agg (mcells G), .int .i64 (sixV (fullF t (wds s)) 6 : Nat)])) ∧ Below w.heap.size w w' := by
  have CB := hid (fun w => begins_any s ⟨#[64]⟩ w (by omega))
  rw [h64] at CB
  have CF := hid (fun w => foreign_no s ha (by omega) w)
  have CW := hid (fun w => cwords_of s w (by omega))
  have CL := hid (fun (ao : Option Addr) (cap : Nat) (w : World) (h : StrsOf w ao (wds s)) => fill_yes o t (wds s) ao cap w ho h2 h128 hlen h)
  have CS := hid (fun (H : Nat) (w : World) (h : Blk w H 9 (scells 6 (fullF t (wds s)))) => six_any H (fullF t (wds s)) (fun k hk => fullF_size t (wds s) k hz) w h)
  have hl0 : (((wds s).length : Int) == 0) = false := by
    rw [beq_eq_false_iff_ne]
    intro h
    exact hne (List.length_eq_zero_iff.1 (by omega))
  clear ha hs h64 ho h2 h128 hlen hne hz
  generalize sixV (fullF t (wds s)) 6 = V at CS ⊢
  generalize wds s = fs at CW CL CS hl0
  have hz := zeroM
  have hz2 := zero384
  have R0 := hid (Blk.new w 67 (mcells noF))
  have B0 := hid (show Below w.heap.size w (w.alloc (.cells (mcells noF) 67)) by go_grown)
  have NM := hid (show ∀ f : Nat → Bool, (Tryz.prog.info? 67).map (·.size) = some (mcells f).size from fun f => by rw [mcells_size]; kernel_rfl)
  have N384 := hid (show ∀ f : Nat → Bool, (Tryz.prog.info? 42).map (·.size) = some (bcells 384 f).size from fun f => by rw [bcells_size]; kernel_rfl)
  have NL384 := hid (show ∀ f : Nat → Bool, (Tryz.prog.info? 42).map (·.size) = some (bcells 384 f).toList.length from fun f => by rw [bcells_len]; kernel_rfl)
  have U384 := hid (Tryz.underlying42)
  have BM := hid builtM
  go_enter Tryz.func55, Tryz.ntmps55
  go_upto_region 1 with fail
  generalize (w.alloc (.cells (mcells noF) 67)) = w1 at R0 B0 ⊢
  clear hz
  go_upto_region 13 with (first
    | (go_at_call 36; refine (CB.out _).mono ?_; rintro e w' ⟨rfl, rfl⟩)
    | (go_at_call 59; refine (CF.out _).mono ?_; rintro e w' ⟨rfl, rfl⟩)
    | (go_at_call 9; refine (CW.out _).mono ?_; rintro e w2 ⟨ao, c, rfl, hst, hb⟩; have R2 := hid (R0.out.below hb); have B2 := hid (bt B0.out hb); have ST := hid hst; clear hb hst)
    | (go_at_call 8; refine (CL.out ao c _ ST.out).mono ?_; rintro e w3 ⟨⟨H, rfl, hbk⟩, hb⟩; have R3 := hid (R2.out.below hb); have B3 := hid (bt B2.out hb); have KH := hid hbk; clear hb hbk))
  go_upto_region 14 with (first
    | (go_at_call 79; refine (CS.out H _ KH.out).mono ?_; rintro e w4 ⟨⟨G, rfl⟩, hb⟩; have R4 := hid ((R3.out.below hb).alloc (.cells (bcells 384 noF) 42)); have B4 := hid ((bt B3.out hb).alloc (bt B3.out hb).size (.cells (bcells 384 noF) 42)); have T4 := hid (Blk.new w4 42 (bcells 384 noF)); have LT := hid ((R3.out.below hb).lt); have LE := hid ((bt B3.out hb).size); clear hb)
    | (refine wpList_store_mid rfl 42 (.tmp 9) (.tmp 42) rfl w4.heap.size 0 (bcells 384 G) rfl rfl (by rw [bcells_size]; exact T4.out.there_b (Nat.le_refl 384)) (N384.out _) bcells_one ?_
       have T5 := hid (all_store (G := G) T4.out)
       have R5 := hid (Blk.setCells_other (h := w4.heap.size) (Nat.ne_of_lt LT.out) (bcells 384 G).toList 0 _ R4.out)
       have B5 := hid (below_setCells (g := w4.heap.size) LE.out (bcells 384 G).toList 0 _ B4.out)
       generalize (w4.alloc (.cells (bcells 384 noF) 42)).setCells w4.heap.size 0 (bcells 384 G).toList = w5 at T5 R5 B5 ⊢))
  obtain ⟨g5, hg5⟩ : ∃ g5, w4.heap.size = g5 := ⟨_, rfl⟩
  rw [hg5] at T5 ⊢
  clear hg5 hz2
  have L5 := hid T5.out.range0
  refine wp_region_lit ?_
  refine wpList_load_mid rfl 42 (.tmp 9) rfl g5 0 rfl (bcells 384 G).toList _ L5.out U384.out rfl (NL384.out _) ?_
  refine wpList_buildTo rfl 67 #[(2, .tmp 44)] rfl (some 45) rfl (mcells G) ?_ ?_
  · simp only [List.map_toArray, List.map_cons, List.map_nil]
    exact BM.out G
  go_wp2_with (first
    | (refine wpList_store_mid rfl 67 (.tmp 4) (.tmp 45) rfl w.heap.size 0 (mcells G) rfl rfl (by rw [mcells_size]; have := there_all R5.out; rwa [mcells_size] at this) (NM.out _) mcells_one ?_
       have R6 := hid (whole_store (ds := mcells G) R5.out (by rw [mcells_size, mcells_size]))
       have B6 := hid (below_setCells (g := w.heap.size) (Nat.le_refl _) (mcells G).toList 0 _ B5.out)
       generalize w5.setCells w.heap.size 0 (mcells G).toList = w6 at R6 B6 ⊢))
  exact bodyPost_ret (results_row_tmp rfl _ _ w.heap.size 67 _ (0, 0) _ rfl R6.out Tryz.underlying67 rfl (by rw [mcells_size]; kernel_rfl)) rfl ⟨⟨G, rfl⟩, B6.out⟩
end Go.Proofs.YtomkhhpigpilfaaGreatDoor
