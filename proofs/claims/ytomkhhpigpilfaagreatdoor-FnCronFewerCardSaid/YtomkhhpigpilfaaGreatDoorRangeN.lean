/- getRange, whatever the text: itemI. Walked. -/
import Derived.Test.YtomkhhpigpilfaaGreatDoorPName
import Derived.Test.YtomkhhpigpilfaaGreatDoorItP
import Derived.Test.YtomkhhpigpilfaaGreatDoorBitsW
import Derived.Deep.DeepCutAuto
import Derived.Deep.CutBlock
set_option linter.unusedVariables false
set_option linter.unusedSimpArgs false
namespace Go.Proofs.YtomkhhpigpilfaaGreatDoor
open Go.RowKit

theorem getBits_wide (lo hi st : Nat) (w : World) (h1 : lo ≤ hi) (h2 : hi ≤ 63) (h3 : 2 ≤ st) (h4 : st ≤ 9223372036854775807) :
    Calls Tryz.prog 83 #[.int .u64 lo, .int .u64 hi, .int .u64 st] w fun e w' => e = .returned (.int .u64 (gb lo hi st : Nat)) ∧ w = w' := by
  have hne : ((st : Int) == 1) = false := by simp; omega
  have hs : IntKind.u64.signed = false := rfl
  go_enter Tryz.func83, Tryz.ntmps83
  go_wp2
  go_loop [7, 8] (fun b i => ∃ n : Nat, lo ≤ n ∧ n ≤ hi + st ∧ (n - lo) % st = 0 ∧ i = .int .u64 n ∧ b = .int .u64 (gbn lo st n : Nat)) (fun _ i => hi + st + 1 - (intOf i).toNat)
  case atStart =>
    refine ⟨lo, Nat.le_refl _, by omega, by simp, rfl, ?_⟩
    have : gbn lo st lo = 0 := by
      apply Nat.eq_of_testBit_eq
      intro i
      rw [testBit_gbn]
      simp
      omega
    rw [this]; rfl
  case round =>
    obtain ⟨n, n1, n2, n3, rfl, rfl⟩ := hrel
    have H := hid n3
    clear n3
    by_cases hlt : n ≤ hi
    · have hlt' := gbn_lt lo st n (by omega)
      go_wp2
      go_round
      case rel =>
        refine ⟨n + st, by omega, by omega, ?_, by go_num, ?_⟩
        · have e : n + st - lo = (n - lo) + st := by omega
          rw [e, Nat.add_mod_right]; exact H.out
        · rw [gbn_step lo st n (by omega) n1 H.out, ← or_bit _ _ hlt' (by omega)]
      case measure => simp [intOf]; omega
    · go_wp2
      go_ret
      refine ⟨?_, rfl⟩
      show Ending.returned (.int .u64 _) = _
      rw [gbn_end lo st hi n (by omega) n1 H.out (by omega) n2 h1]
theorem getBitsN (lo hi st : Nat) (w : World) (h1 : lo ≤ hi) (h2 : hi ≤ 63) (h3 : 1 ≤ st) (h4 : st ≤ 9223372036854775807) :
    Calls Tryz.prog 83 #[.int .u64 lo, .int .u64 hi, .int .u64 st] w fun e w' => e = .returned (.int .u64 (gb lo hi st : Nat)) ∧ w = w' := by
  by_cases h : st = 1
  · subst h; exact getBits_one lo hi w h1 h2
  · exact getBits_wide lo hi st w h1 h2 (by omega) h4
theorem inum_le {l : List UInt8} {n : Nat} (h : inum l = some n) : n ≤ 9223372036854775807 := by
  unfold inum at h
  split at h
  · rename_i v hv
    have := Lib.atoiAll_bounds hv
    split at h
    · injection h with h
      omega
    · cases h
  · cases h

/-- What is known of a field's names and of a text's parts. -/
def ValIs (mv : Value) (M : World → Prop) (f : List UInt8 → Option Nat) : Prop := ∀ x : ByteArray, x.size ≤ 65536 → ∀ w, M w → Calls Tryz.prog 89 #[.string x, mv] w fun e w' => RetN e (f x.toList) ∧ Below w.heap.size w w'
theorem retN_none {f : FuncId} {args : Array Value} {w : World} (h : Calls Tryz.prog f args w fun e w' => RetN e none ∧ Below w.heap.size w w') : Calls Tryz.prog f args w fun e w' => (∃ t p, e = .returned (.tuple #[.int .u64 0, .iface t p])) ∧ Below w.heap.size w w' :=
  h.mono fun e w' ⟨h, hb⟩ => by
    rcases h with ⟨n, h, _⟩ | ⟨_, h⟩
    · cases h
    · exact ⟨h, hb⟩
theorem retN_some {f : FuncId} {args : Array Value} {w : World} {n : Nat} (h : Calls Tryz.prog f args w fun e w' => RetN e (some n) ∧ Below w.heap.size w w') : Calls Tryz.prog f args w fun e w' => e = .returned (.tuple #[.int .u64 (n : Nat), .nilIface]) ∧ Below w.heap.size w w' :=
  h.mono fun e w' ⟨h, hb⟩ => by
    rcases h with ⟨m, h, he⟩ | ⟨h, _⟩
    · injection h with h
      subst h
      exact ⟨he, hb⟩
    · cases h
theorem parts_cons {xs : List ByteArray} {c : UInt8} {l : List UInt8} (h : xs.map (·.toList) = cut c l) : ∃ x r, xs = x :: r := by
  cases xs with
  | nil => exact absurd h.symm (cut_ne c l)
  | cons x r => exact ⟨x, r, rfl⟩
theorem part_size {xs : List ByteArray} {c : UInt8} {s : ByteArray} (h : xs.map (·.toList) = cut c s.toList) {x : ByteArray} (hx : x ∈ xs) : x.size ≤ s.size := by
  have := cut_size c s.toList x.toList (h ▸ List.mem_map_of_mem hx)
  rwa [size_list, size_list] at this
theorem star_or (x : Nat) (hx : x < 18446744073709551616) (b : Bool) : bits .or .u64 ((x : Nat) : Int) (((if b = true then sB else 0 : Nat)) : Int) = ((x ||| (if b = true then sB else 0) : Nat) : Int) := by
  cases b
  · have := u64_or_nat x 0 hx (by omega)
    simpa using this
  · exact u64_or_nat x sB hx (by decide)

section
variable {lo hi : Nat} {f : List UInt8 → Option Nat} {x y z : List UInt8} {r : List (List UInt8)} {a b k : Nat} {l h t : List UInt8} {st : Bool}
theorem ends_none (hn : ¬ starT x = true) (hf : f x = none) : endsI lo hi f (x :: r) = none := by
  unfold endsI
  exact (if_neg hn).trans (by rw [hf])
theorem ends_one (hn : ¬ starT x = true) (hf : f x = some a) : endsI lo hi f [x] = some (a, a, false) := by rw [endsI_one lo hi f x hn, hf]
theorem ends_two (hn : ¬ starT x = true) (hf : f x = some a) (hg : f y = some b) : endsI lo hi f [x, y] = some (a, b, false) := by rw [endsI_two lo hi f x y hn, hf, hg]
theorem ends_two_none (hn : ¬ starT x = true) (hf : f x = some a) (hg : f y = none) : endsI lo hi f [x, y] = none := by rw [endsI_two lo hi f x y hn, hf, hg]
theorem item_none {q : List (List UInt8)} (hc : cut 47 l = h :: q) (he : endsI lo hi f (cut 45 h) = none) : itemI lo hi f l = none := by
  unfold itemI
  rw [hc]
  simp only [he]
theorem item_one (hc : cut 47 l = [h]) (he : endsI lo hi f (cut 45 h) = some (a, b, st)) : itemI lo hi f l = fin lo hi a b 1 st := by rw [itemI_one lo hi f l h hc, he]
theorem item_two (hc : cut 47 l = [h, t]) (he : endsI lo hi f (cut 45 h) = some (a, b, st)) (hk : inum t = some k) : itemI lo hi f l = fin lo hi a (if (cut 45 h).length = 1 then hi else b) k (st && decide (k ≤ 1)) := by rw [itemI_two lo hi f l h t hc, he, hk]
theorem item_two_none (hc : cut 47 l = [h, t]) (he : endsI lo hi f (cut 45 h) = some (a, b, st)) (hk : inum t = none) : itemI lo hi f l = none := by rw [itemI_two lo hi f l h t hc, he, hk]
end

set_option maxHeartbeats 6400000 in
set_option maxRecDepth 100000 in
theorem rangeN_any (s : ByteArray) (lo hi : Nat) (mv : Value) (M : World → Prop) (f : List UInt8 → Option Nat) (w : World) (hM : Kept M) (hw : M w) (hs : s.size ≤ 65536) (hl : lo ≤ hi) (hh : hi ≤ 62)
    (hF : ValIs mv M f) (hN : ∀ x : ByteArray, x.size ≤ 65536 → ∀ w, M w → Calls Tryz.prog 90 #[.string x] w fun e w' => RetN e (inum x.toList) ∧ Below w.heap.size w w') :
    Calls Tryz.prog 77 #[.string s, .agg #[.int .u64 lo, .int .u64 hi, mv]] w fun e w' => RetN e (itemI lo hi f s.toList) ∧ Below w.heap.size w w' := by
  have HS := hid hs
  have HM := hid hM
  have HW := hid hw
  have HH := hid hh
  have HL := hid hl
  have HF := hid hF
  have HN := hid hN
  clear hs hM hw hh hF hN hl
  go_enter Tryz.func77, Tryz.ntmps77
  go_wp2_with fail
  have R0 := hid (Blk.new w 100 #[.int .u64 lo, .int .u64 hi, mv])
  have B0 := hid (show Below w.heap.size w (w.alloc (.cells #[.int .u64 lo, .int .u64 hi, mv] 100)) from (Below.refl _ _).alloc (Nat.le_refl _) _)
  generalize (w.alloc (.cells #[.int .u64 lo, .int .u64 hi, mv] 100)) = w0 at R0 B0 ⊢
  go_at_call 88
  refine (split_anyS s _ (by have := HS.out; omega)).mono ?_
  rintro e w1 ⟨xs, g, c, rfl, hx, hst, hb⟩
  obtain ⟨x0, xr, rfl⟩ := parts_cons hx
  have HX := hid hx
  have S1 := hid hst
  have hx0 := hst 0 x0 rfl
  have R1 := hid (R0.out.below hb)
  have B1 := hid (bt B0.out hb)
  clear hb hst hx
  obtain ⟨n, hn⟩ : ∃ n : Nat, (x0 :: xr).length = n := ⟨_, rfl⟩
  have n1 : 1 ≤ n := by rw [← hn]; simp
  have N := hid hn
  rw [hn]
  clear hn
  go_wp2_with fail
  go_at_call 88
  refine (split_anyH x0 _ (by have := part_size HX.out (List.mem_cons_self); have := HS.out; omega)).mono ?_
  rintro e w2 ⟨ys, h, c2, rfl, hy, hst, hb⟩
  obtain ⟨y0, yr, rfl⟩ := parts_cons hy
  have HY := hid hy
  have S2 := hid hst
  have hy0 := hst 0 y0 rfl
  have X2 := hid (S1.out.below hb)
  have R2 := hid (R1.out.below hb)
  have B2 := hid (bt B1.out hb)
  clear hb hst hy hx0
  obtain ⟨m, hm⟩ : ∃ m : Nat, (y0 :: yr).length = m := ⟨_, rfl⟩
  have m1 : 1 ≤ m := by rw [← hm]; simp
  have MM := hid hm
  rw [hm]
  clear hm
  have r0 : w2.cell? ⟨w.heap.size, 0, none⟩ = some (.int .u64 lo) := R2.out.cell 0
  have r1 : w2.cell? ⟨w.heap.size, 1, none⟩ = some (.int .u64 hi) := R2.out.cell 1
  have HM2 := hid (HM.out _ _ HW.out B2.out)
  have HE := hid (show cut 45 x0.toList = y0.toList :: yr.map (·.toList) from HY.out.symm)
  obtain ⟨sg, hsg⟩ : ∃ sg, ((m : Int) == 1) = sg := ⟨_, rfl⟩
  obtain ⟨q1, hq1⟩ : ∃ q, (y0.toList == [42]) = q := ⟨_, rfl⟩
  obtain ⟨q2, hq2⟩ : ∃ q, (y0.toList == [63]) = q := ⟨_, rfl⟩
  have HSG := hid hsg
  have HST := hid (show starT y0.toList = (q1 || q2) by unfold starT; rw [hq1, hq2])
  go_upto_region 7 with fail
  go_cut [32] (fun tv wx => tv = .bool (q1 || q2) ∧ wx = w2)
  case first =>
    rcases q1 with _ | _ <;> rcases q2 with _ | _
    all_goals
      go_wp2_with fail
      go_meet
      exact ⟨rfl, rfl⟩
  case rest =>
    obtain ⟨rfl, hwc⟩ := hcut
    replace hwc := hwc.symm
    subst hwc
    clear hq1 hq2
    obtain ⟨st, hst⟩ : ∃ st, (q1 || q2) = st := ⟨_, rfl⟩
    rw [hst] at HST ⊢
    clear hst
    go_upto_if 32 with fail
    have BB := hid (Below.refl w2.heap.size w2)
    go_cut [6, 7, 12, 13] (fun av bv ev xv wx => ∃ (a b : Nat) (X : Int), av = .int .u64 (a : Nat) ∧ bv = .int .u64 (b : Nat) ∧ ev = .nilIface ∧ xv = .int .u64 X ∧ Hid (X = ((if st = true then sB else 0 : Nat) : Int)) ∧ Hid (endsI lo hi f (cut 45 x0.toList) = some (a, b, st)) ∧ Below w2.heap.size w2 wx)
    case first =>
      cases st with
      | true =>
        go_wp2_with fail
        go_meet
        exact ⟨lo, hi, _, rfl, rfl, rfl, rfl, hid rfl, hid (by rw [HE.out]; exact endsI_star lo hi f _ _ HST.out), Below.refl _ _⟩
      | false =>
        have HNS := hid (show ¬ starT y0.toList = true by rw [HST.out]; decide)
        have k0 : ∀ d os, (Go.Sort.grow (redrawn w2 d) os).cell? ⟨h, 0, none⟩ = some (.string y0) := fun d os => cell_gr hy0 d os
        have k2 : ∀ d os, (Go.Sort.grow (redrawn w2 d) os).cell? ⟨w.heap.size, 2, none⟩ = some mv := fun d os => (blk_gr R2.out d os).cell 2
        have r2 : w2.cell? ⟨w.heap.size, 2, none⟩ = some mv := R2.out.cell 2
        have z0 : y0.size ≤ 65536 := by have := part_size HY.out (List.mem_cons_self); have := part_size HX.out (List.mem_cons_self); have := HS.out; omega
        rcases hf : f y0.toList with _ | a
        · have C := hid (fun w hw => retN_none (hf ▸ HF.out y0 z0 w hw))
          have HI := hid (item_none HX.out.symm (by rw [HE.out]; exact ends_none HNS.out hf) : itemI lo hi f s.toList = none)
          clear z0 hf
          go_upto_region 11 with fail
          first
            | go_region_with (first | (go_at_call 89; refine (C.out _ (HM.out _ _ HM2.out (by go_grown))).mono ?_; rintro e w3 ⟨⟨t, p, rfl⟩, hb⟩; have B3 := hid (bt (w := w) B2.out (bt (w := w2) (by go_grown) hb)); clear hb) | fail)
            | fail
          all_goals
            go_wp2_with fail
            go_returns
            exact ⟨by rw [HI.out]; exact .inr ⟨rfl, _, _, rfl⟩, B3.out⟩
        · have C0 := hid (fun w hw => retN_some (hf ▸ HF.out y0 z0 w hw))
          have C := hid (fun d os => Calls.regrown_of (C0.out (Go.Sort.grow (redrawn w2 d) os) (HM.out _ _ HM2.out (below_regrown w2 d os))))
          have HFA := hid hf
          have Y2 := hid S2.out
          have BB2 := hid BB.out
          clear z0 hf hsg C0
          rcases yr with _ | ⟨y1, _ | ⟨y2, yr⟩⟩
          · obtain rfl : m = 1 := MM.out.symm
            have HEN := hid (show endsI lo hi f (cut 45 x0.toList) = some (a, a, false) by rw [HE.out]; exact ends_one HNS.out HFA.out)
            go_upto_region 11 with fail
            refine wp_region_quiet_below (by kernel_rfl) (by kernel_rfl) ?_
            repeat (go_big_quiet_step ((first | (go_at_call 89; exact C.out _ _) | fail)))
            refine wpQuiet_nil ?_
            intro _ hw'
            obtain ⟨⟨dq, osq⟩, hw''⟩ := hw'
            subst hw''
            have R3 := hid (blk_gr R2.out dq osq)
            have B3 := hid (bt B2.out (below_regrown w2 dq osq))
            have BB3 := hid (bt (w := w2) BB2.out (below_regrown w2 dq osq))
            have HM3 := hid (HM.out _ _ HM2.out (below_regrown w2 dq osq))
            have Y3 := hid (Y2.out.below (below_regrown w2 dq osq))
            clear k0 k2 r2 R2 HM2 Y2
            generalize Go.Sort.grow (redrawn w2 dq) osq = w3 at R3 B3 BB3 HM3 Y3 ⊢
            go_wp2_with fail
            go_meet
            exact ⟨a, a, _, rfl, rfl, rfl, rfl, hid rfl, hid HEN.out, BB3.out⟩
          · obtain rfl : m = 2 := MM.out.symm
            have hy1 : w2.cell? ⟨h, 1, none⟩ = some (.string y1) := S2.out 1 y1 rfl
            have z1 : y1.size ≤ 65536 := by have := part_size HY.out (List.mem_cons_of_mem _ (List.mem_cons_self)); have := part_size HX.out (List.mem_cons_self); have := HS.out; omega
            rcases hg : f y1.toList with _ | b
            · have D := hid (fun w hw => retN_none (hg ▸ HF.out y1 z1 w hw))
              have HI := hid (item_none HX.out.symm (by rw [HE.out]; exact ends_two_none HNS.out HFA.out hg) : itemI lo hi f s.toList = none)
              clear z1 hg hy1
              go_upto_region 11 with fail
              refine wp_region_quiet_below (by kernel_rfl) (by kernel_rfl) ?_
              repeat (go_big_quiet_step ((first | (go_at_call 89; exact C.out _ _) | fail)))
              refine wpQuiet_nil ?_
              intro _ hw'
              obtain ⟨⟨dq, osq⟩, hw''⟩ := hw'
              subst hw''
              have R3 := hid (blk_gr R2.out dq osq)
              have B3 := hid (bt B2.out (below_regrown w2 dq osq))
              have BB3 := hid (bt (w := w2) BB2.out (below_regrown w2 dq osq))
              have HM3 := hid (HM.out _ _ HM2.out (below_regrown w2 dq osq))
              have Y3 := hid (Y2.out.below (below_regrown w2 dq osq))
              clear k0 k2 r2 R2 HM2 Y2
              generalize Go.Sort.grow (redrawn w2 dq) osq = w3 at R3 B3 BB3 HM3 Y3 ⊢
              have l1 : w3.cell? ⟨h, 1, none⟩ = some (.string y1) := Y3.out 1 y1 rfl
              have l2 : w3.cell? ⟨w.heap.size, 2, none⟩ = some mv := R3.out.cell 2
              go_upto_region 19 with fail
              first
                | go_region_with (first | (go_at_call 89; refine (D.out _ (HM.out _ _ HM3.out (by go_grown))).mono ?_; rintro e w4 ⟨⟨t, p, rfl⟩, hb⟩; have B4 := hid (bt (w := w) B3.out (bt (w := w3) (by go_grown) hb)); clear hb) | fail)
                | fail
              all_goals
                go_wp2_with fail
                go_returns
                exact ⟨by rw [HI.out]; exact .inr ⟨rfl, _, _, rfl⟩, B4.out⟩
            · have D := hid (fun w hw => retN_some (hg ▸ HF.out y1 z1 w hw))
              have HEN := hid (show endsI lo hi f (cut 45 x0.toList) = some (a, b, false) by rw [HE.out]; exact ends_two HNS.out HFA.out hg)
              clear z1 hg hy1
              go_upto_region 11 with fail
              refine wp_region_quiet_below (by kernel_rfl) (by kernel_rfl) ?_
              repeat (go_big_quiet_step ((first | (go_at_call 89; exact C.out _ _) | fail)))
              refine wpQuiet_nil ?_
              intro _ hw'
              obtain ⟨⟨dq, osq⟩, hw''⟩ := hw'
              subst hw''
              have R3 := hid (blk_gr R2.out dq osq)
              have B3 := hid (bt B2.out (below_regrown w2 dq osq))
              have BB3 := hid (bt (w := w2) BB2.out (below_regrown w2 dq osq))
              have HM3 := hid (HM.out _ _ HM2.out (below_regrown w2 dq osq))
              have Y3 := hid (Y2.out.below (below_regrown w2 dq osq))
              clear k0 k2 r2 R2 HM2 Y2
              generalize Go.Sort.grow (redrawn w2 dq) osq = w3 at R3 B3 BB3 HM3 Y3 ⊢
              have l1 : ∀ d os, (Go.Sort.grow (redrawn w3 d) os).cell? ⟨h, 1, none⟩ = some (.string y1) := fun d os => cell_gr (Y3.out 1 y1 rfl) d os
              have l2 : ∀ d os, (Go.Sort.grow (redrawn w3 d) os).cell? ⟨w.heap.size, 2, none⟩ = some mv := fun d os => (blk_gr R3.out d os).cell 2
              have C2 := hid (fun d os => Calls.regrown_of (D.out (Go.Sort.grow (redrawn w3 d) os) (HM.out _ _ HM3.out (below_regrown w3 d os))))
              go_upto_region 19 with fail
              refine wp_region_quiet_below (by kernel_rfl) (by kernel_rfl) ?_
              repeat (go_big_quiet_step ((first | (go_at_call 89; exact C2.out _ _) | fail)))
              refine wpQuiet_nil ?_
              intro _ hw'
              obtain ⟨⟨dq, osq⟩, hw''⟩ := hw'
              subst hw''
              have R4 := hid (blk_gr R3.out dq osq)
              have B4 := hid (bt B3.out (below_regrown w3 dq osq))
              have BB4 := hid (bt (w := w2) BB3.out (below_regrown w3 dq osq))
              have HM4 := hid (HM.out _ _ HM3.out (below_regrown w3 dq osq))
              have Y4 := hid (Y3.out.below (below_regrown w3 dq osq))
              clear l1 l2 R3 HM3 Y3
              generalize Go.Sort.grow (redrawn w3 dq) osq = w4 at R4 B4 BB4 HM4 Y4 ⊢
              go_wp2_with fail
              go_meet
              exact ⟨a, b, _, rfl, rfl, rfl, rfl, hid rfl, hid HEN.out, BB4.out⟩
          · have m3 : 3 ≤ m := by rw [← MM.out]; simp
            have e1 : ((m : Int) == 1) = false := by rw [beq_eq_false_iff_ne]; omega
            have e2 : ((m : Int) == 2) = false := by rw [beq_eq_false_iff_ne]; omega
            have HI := hid (item_none HX.out.symm (by rw [HE.out]; exact endsI_more lo hi f _ _ _ _ HNS.out) : itemI lo hi f s.toList = none)
            go_upto_region 11 with fail
            refine wp_region_quiet_below (by kernel_rfl) (by kernel_rfl) ?_
            repeat (go_big_quiet_step ((first | (go_at_call 89; exact C.out _ _) | fail)))
            refine wpQuiet_nil ?_
            intro _ hw'
            obtain ⟨⟨dq, osq⟩, hw''⟩ := hw'
            subst hw''
            have R3 := hid (blk_gr R2.out dq osq)
            have B3 := hid (bt B2.out (below_regrown w2 dq osq))
            have BB3 := hid (bt (w := w2) BB2.out (below_regrown w2 dq osq))
            have HM3 := hid (HM.out _ _ HM2.out (below_regrown w2 dq osq))
            have Y3 := hid (Y2.out.below (below_regrown w2 dq osq))
            clear k0 k2 r2 R2 HM2 Y2
            generalize Go.Sort.grow (redrawn w2 dq) osq = w3 at R3 B3 BB3 HM3 Y3 ⊢
            go_wp2_with (go_at_call 39; refine (new_any _ _).mono ?_; rintro e w4 ⟨⟨t2, p2, rfl⟩, hb⟩; have B4 := hid (bt B3.out hb); clear hb)
            go_returns
            exact ⟨by rw [HI.out]; exact .inr ⟨rfl, _, _, rfl⟩, B4.out⟩
    case rest =>
      obtain ⟨v, hv⟩ : ∃ v, v = wc := ⟨_, rfl⟩
      subst hv
      obtain ⟨a, b, X, rfl, rfl, rfl, rfl, HXX, hen, hbv⟩ := hcut
      have HEN := hid hen.out
      have R3 := hid (R2.out.below hbv)
      have B3 := hid (bt B2.out hbv)
      have X3 := hid (X2.out.below hbv)
      have HM3 := hid (HM.out _ _ HM2.out hbv)
      have HLEN := hid (show (cut 45 x0.toList).length = m by rw [HE.out, ← MM.out]; simp)
      clear hen hbv R2 B2 X2 HM2 BB HY S2 hy0 r0 r1 HF HST HE MM hsg
      go_upto_block 1 with fail
      go_cut [7, 8, 12, 13] (fun bv kv ev xv wx => ∃ (b' k : Nat) (st' : Bool) (X : Int), bv = .int .u64 (b' : Nat) ∧ kv = .int .u64 (k : Nat) ∧ ev = .nilIface ∧ xv = .int .u64 X ∧ Hid (X = ((if st' = true then sB else 0 : Nat) : Int)) ∧ Hid (itemI lo hi f s.toList = fin lo hi a b' k st') ∧ Hid (k ≤ 9223372036854775807) ∧ Below v.heap.size v wx)
      case first =>
        rcases xr with _ | ⟨x1, _ | ⟨x2, xr⟩⟩
        · obtain rfl : n = 1 := N.out.symm
          have HI := hid (item_one HX.out.symm HEN.out : itemI lo hi f s.toList = fin lo hi a b 1 st)
          go_wp2_with fail
          go_meet
          exact ⟨b, 1, st, X, rfl, rfl, rfl, rfl, HXX, HI, hid (by decide), Below.refl _ _⟩
        · obtain rfl : n = 2 := N.out.symm
          have hx1 : v.cell? ⟨g, 1, none⟩ = some (.string x1) := X3.out 1 x1 rfl
          have r1 : v.cell? ⟨w.heap.size, 1, none⟩ = some (.int .u64 hi) := R3.out.cell 1
          have z1 : x1.size ≤ 65536 := by have := part_size HX.out (List.mem_cons_of_mem _ (List.mem_cons_self)); have := HS.out; omega
          rcases hk : inum x1.toList with _ | k
          · have D := hid (retN_none (hk ▸ HN.out x1 z1 v HM3.out))
            have HI := hid (item_two_none HX.out.symm HEN.out hk : itemI lo hi f s.toList = none)
            clear z1 hk
            go_wp2_with (go_at_call 90; refine D.out.mono ?_; rintro e w4 ⟨⟨t, p, rfl⟩, hb⟩; have B4 := hid (bt B3.out hb); clear hb)
            go_returns
            exact ⟨by rw [HI.out]; exact .inr ⟨rfl, _, _, rfl⟩, B4.out⟩
          · have D := hid (retN_some (hk ▸ HN.out x1 z1 v HM3.out))
            have HI := hid (item_two HX.out.symm HEN.out hk : itemI lo hi f s.toList = fin lo hi a (if (cut 45 x0.toList).length = 1 then hi else b) k (st && decide (k ≤ 1)))
            have HK := hid (inum_le hk)
            clear z1 hk
            by_cases hk1 : k ≤ 1
            · have k1 : ¬ (1 : Int) < (k : Int) := by omega
              have HD := hid (show (st && decide (k ≤ 1)) = st by rw [decide_eq_true hk1, Bool.and_true])
              clear hk1
              cases sg with
              | true =>
                have hm1 := hid (show m = 1 by have := HSG.out; rw [beq_iff_eq] at this; omega)
                go_wp2_with (go_at_call 90; refine D.out.mono ?_; rintro e w4 ⟨rfl, hb⟩; have r1 := cell_on hb r1; replace hb := hid hb)
                go_meet
                exact ⟨hi, k, st, X, rfl, rfl, rfl, rfl, HXX, hid (by rw [HI.out, HD.out, HLEN.out, if_pos hm1.out]), HK, hb.out⟩
              | false =>
                have hm1 := hid (show ¬ m = 1 by have := HSG.out; rw [beq_eq_false_iff_ne] at this; omega)
                go_wp2_with (go_at_call 90; refine D.out.mono ?_; rintro e w4 ⟨rfl, hb⟩; replace hb := hid hb)
                go_meet
                exact ⟨b, k, st, X, rfl, rfl, rfl, rfl, HXX, hid (by rw [HI.out, HD.out, HLEN.out, if_neg hm1.out]), HK, hb.out⟩
            · have k1 : (1 : Int) < (k : Int) := by omega
              have HD := hid (show (st && decide (k ≤ 1)) = false by rw [decide_eq_false hk1, Bool.and_false])
              clear hk1
              cases sg with
              | true =>
                have hm1 := hid (show m = 1 by have := HSG.out; rw [beq_iff_eq] at this; omega)
                go_wp2_with (go_at_call 90; refine D.out.mono ?_; rintro e w4 ⟨rfl, hb⟩; have r1 := cell_on hb r1; replace hb := hid hb)
                go_meet
                exact ⟨hi, k, false, _, rfl, rfl, rfl, rfl, hid rfl, hid (by rw [HI.out, HD.out, HLEN.out, if_pos hm1.out]), HK, hb.out⟩
              | false =>
                have hm1 := hid (show ¬ m = 1 by have := HSG.out; rw [beq_eq_false_iff_ne] at this; omega)
                go_wp2_with (go_at_call 90; refine D.out.mono ?_; rintro e w4 ⟨rfl, hb⟩; replace hb := hid hb)
                go_meet
                exact ⟨b, k, false, _, rfl, rfl, rfl, rfl, hid rfl, hid (by rw [HI.out, HD.out, HLEN.out, if_neg hm1.out]), HK, hb.out⟩
        · have m3 : 3 ≤ n := by rw [← N.out]; simp
          have e1 : ((n : Int) == 1) = false := by rw [beq_eq_false_iff_ne]; omega
          have e2 : ((n : Int) == 2) = false := by rw [beq_eq_false_iff_ne]; omega
          have HI := hid (itemI_more lo hi f _ _ _ _ _ HX.out.symm : itemI lo hi f s.toList = none)
          go_wp2_with (go_at_call 39; refine (new_any _ _).mono ?_; rintro e w4 ⟨⟨t2, p2, rfl⟩, hb⟩; have B4 := hid (bt B3.out hb); clear hb)
          go_returns
          exact ⟨by rw [HI.out]; exact .inr ⟨rfl, _, _, rfl⟩, B4.out⟩
      case rest =>
        obtain ⟨b', k, st', X', rfl, rfl, rfl, rfl, HXX, HI, HK, hbv⟩ := hcut
        have R4 := hid (R3.out.below hbv)
        have B4 := hid (bt B3.out hbv)
        clear hbv R3 B3 X3 HM3 HEN HLEN HX N HSG HN S1 R1 B1 R0 B0
        have r0 : wc.cell? ⟨w.heap.size, 0, none⟩ = some (.int .u64 lo) := R4.out.cell 0
        have r1 : wc.cell? ⟨w.heap.size, 1, none⟩ = some (.int .u64 hi) := R4.out.cell 1
        by_cases h1 : a < lo
        · have HI2 := hid (show itemI lo hi f s.toList = none by rw [HI.out]; unfold fin; exact if_pos h1)
          have g1 : (a : Int) < (lo : Int) := by omega
          go_wp2_with (go_at_call 39; refine (new_any _ _).mono ?_; rintro e w4 ⟨⟨t2, p2, rfl⟩, hb⟩; have B5 := hid (bt B4.out hb); clear hb)
          go_returns
          exact ⟨by rw [HI2.out]; exact .inr ⟨rfl, _, _, rfl⟩, B5.out⟩
        by_cases h2 : hi < b'
        · have HI2 := hid (show itemI lo hi f s.toList = none by rw [HI.out]; unfold fin; rw [if_neg h1, if_pos h2])
          have g1 : ¬ (a : Int) < (lo : Int) := by omega
          have g2 : (hi : Int) < (b' : Int) := by omega
          go_wp2_with (go_at_call 39; refine (new_any _ _).mono ?_; rintro e w4 ⟨⟨t2, p2, rfl⟩, hb⟩; have B5 := hid (bt B4.out hb); clear hb)
          go_returns
          exact ⟨by rw [HI2.out]; exact .inr ⟨rfl, _, _, rfl⟩, B5.out⟩
        by_cases h3 : b' < a
        · have HI2 := hid (show itemI lo hi f s.toList = none by rw [HI.out]; unfold fin; rw [if_neg h1, if_neg h2, if_pos h3])
          have g1 : ¬ (a : Int) < (lo : Int) := by omega
          have g2 : ¬ (hi : Int) < (b' : Int) := by omega
          have g3 : (b' : Int) < (a : Int) := by omega
          go_wp2_with (go_at_call 39; refine (new_any _ _).mono ?_; rintro e w4 ⟨⟨t2, p2, rfl⟩, hb⟩; have B5 := hid (bt B4.out hb); clear hb)
          go_returns
          exact ⟨by rw [HI2.out]; exact .inr ⟨rfl, _, _, rfl⟩, B5.out⟩
        have g1 : ¬ (a : Int) < (lo : Int) := by omega
        have g2 : ¬ (hi : Int) < (b' : Int) := by omega
        have g3 : ¬ (b' : Int) < (a : Int) := by omega
        by_cases h4 : k = 0
        · have HI2 := hid (show itemI lo hi f s.toList = none by rw [HI.out]; unfold fin; rw [if_neg h1, if_neg h2, if_neg h3, if_pos h4])
          have g4 : ((k : Int) == 0) = true := by rw [beq_iff_eq]; omega
          go_wp2_with (go_at_call 39; refine (new_any _ _).mono ?_; rintro e w4 ⟨⟨t2, p2, rfl⟩, hb⟩; have B5 := hid (bt B4.out hb); clear hb)
          go_returns
          exact ⟨by rw [HI2.out]; exact .inr ⟨rfl, _, _, rfl⟩, B5.out⟩
        have HI2 := hid (show itemI lo hi f s.toList = some (gb a b' k ||| if st' = true then sB else 0) by rw [HI.out]; unfold fin; rw [if_neg h1, if_neg h2, if_neg h3, if_neg h4])
        have g4 : ((k : Int) == 0) = false := by rw [beq_eq_false_iff_ne]; omega
        have HQ := hid (fun w => getBitsN a b' k w (by omega) (by have := HH.out; omega) (by omega) HK.out)
        have HOR := hid (star_or (gb a b' k) (Nat.lt_of_lt_of_le (gbn_lt a k (b' + 1) (by have := HH.out; omega)) (by decide)) st')
        obtain ⟨V, hV⟩ : ∃ V : Nat, (gb a b' k ||| if st' = true then sB else 0) = V := ⟨_, rfl⟩
        rw [hV] at HI2 HOR
        have hor : bits .or .u64 ((gb a b' k : Nat) : Int) X' = (V : Int) := by rw [HXX.out]; exact HOR.out
        clear h1 h2 h3 h4 HI HK hV HOR HXX
        go_wp2_with (go_at_call 83; refine (HQ.out _).mono ?_; rintro e w' ⟨rfl, rfl⟩)
        go_returns
        exact ⟨by rw [HI2.out]; exact .inl ⟨_, rfl, rfl⟩, B4.out⟩
end Go.Proofs.YtomkhhpigpilfaaGreatDoor
