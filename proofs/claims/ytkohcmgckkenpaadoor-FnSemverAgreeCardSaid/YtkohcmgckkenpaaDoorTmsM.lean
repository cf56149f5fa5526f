/- The law FnSemverTermsGroup, walked. -/
import Derived.Test.YtkohcmgckkenpaaDoorTmsL
import Derived.Deep.DeepCutAuto
set_option linter.unusedVariables false
set_option linter.unusedSimpArgs false
namespace Go.Proofs.YtkohcmgckkenpaaDoor
open Go.RowKit

theorem vers_at1 (W : World) (v : Ver) : VersAt (W.alloc (.cells #[.int .u64 v.a, .int .u64 v.b, .int .u64 v.c, .string v.p, .string v.m] 25)) W.heap.size [v] := by
  intro i x hi
  have h0 : i = 0 := by
    rcases i with _ | i
    · rfl
    · simp at hi
  subst h0
  obtain rfl : v = x := by simpa using hi
  have B := Blk.new W 25 #[.int .u64 v.a, .int .u64 v.b, .int .u64 v.c, .string v.p, .string v.m]
  exact ⟨B.cell 0, B.cell 1, B.cell 2, B.cell 3, B.cell 4⟩
theorem svGood1 (a b c : Int) (p m : ByteArray) (s1 : p.size ≤ 2147483647) (s2 : m.size ≤ 2147483647) (n k : Nat) (W : World) (hn : n = W.heap.size) :
    Calls Tryd.prog 8 #[.slice (some ⟨n, 0, none⟩) 1 k] (W.alloc (.cells #[.int .u64 a, .int .u64 b, .int .u64 c, .string p, .string m] 25)) fun e w' =>
      (∃ b : Bool, e = .returned (.bool b)) ∧ Below (W.alloc (.cells #[.int .u64 a, .int .u64 b, .int .u64 c, .string p, .string m] 25)).heap.size (W.alloc (.cells #[.int .u64 a, .int .u64 b, .int .u64 c, .string p, .string m] 25)) w' := by
  subst hn
  exact (svGood_any [⟨a, b, c, p, m⟩] W.heap.size k _ (by simp) (vers_at1 W ⟨a, b, c, p, m⟩) (by simp; omega)).mono fun e w' ⟨he, hb⟩ => ⟨⟨_, he⟩, hb⟩

/-- The first list of the law's own. -/
theorem dr_first {w w5 : World} (t : Tm) (hb : Below w.heap.size w w5) : DR w [[t]] (.slice (some ⟨w5.heap.size + 1, 0, none⟩) 1 1) [.slice (some ⟨w5.heap.size, 0, none⟩) 1 1]
    ((w5.alloc (.cells (tm6 t) 30)).alloc (.cells #[.slice (some ⟨w5.heap.size, 0, none⟩) 1 1] 32)) := by
  obtain ⟨h1, h2⟩ := two_new w5 (tm6 t) #[.slice (some ⟨w5.heap.size, 0, none⟩) 1 1] 30 32
  have hz := hb.size
  refine ⟨⟨rfl, .inr ⟨w5.heap.size + 1, 1, _, rfl, by omega, h2, Nat.le_refl _, by unfold maxLen; omega, rfl, rfl⟩⟩, fun i l hi => ?_, (hb.alloc hz _).alloc (by simp; omega) _⟩
  have h0 : i = 0 := by
    rcases i with _ | i
    · rfl
    · simp at hi
  subst h0
  obtain rfl : [t] = l := by simpa using hi
  exact ⟨_, 1, rfl, .inr ⟨_, t, rfl, rfl, h1⟩⟩
theorem filt_take {C : List (List Tm)} {k : Nat} {l : List Tm} (h : C[k]? = some l) : (C.take (k + 1)).filter hasP = (C.take k).filter hasP ++ (if hasP l then [l] else []) := by
  rw [List.take_add_one, h, List.filter_append]
  cases hq : hasP l <;> simp [hq]
theorem info_lst : (Tryd.prog.info? 32).map (fun i => (i.zero, i.size, i.bytes)) = some (some (.slice none 0 0), 1, 24) := by kernel_rfl
theorem goodL_okt {l : List Tm} (h : GoodL l) (hs : ∀ t ∈ l, t.p.size ≤ 2147483647 ∧ 0 ≤ t.a ∧ 0 ≤ t.b) : l ≠ [] ∧ l.length ≤ 100 ∧ ∀ t ∈ l, Okt t := by
  obtain ⟨h1, h2, h3⟩ := h
  refine ⟨h1, by omega, fun t ht => ?_⟩
  obtain ⟨⟨q1, q2⟩, ⟨q3, q4⟩, q5, _⟩ := goodT_parts (h3 t ht)
  obtain ⟨s1, s2, s3⟩ := hs t ht
  exact ⟨q1, q2, q3, q4, fun e => (q5 (by omega)).2, s2, s3, s1⟩

theorem okt_own (o : Int) (ho : 0 ≤ o) (ho8 : o < 8) (a b c : Int) (p : ByteArray) (ra : 0 ≤ a) (rb : 0 ≤ b) (sp : p.size ≤ 2147483647) : ∀ l ∈ [[(⟨o, 3, a, b, c, p⟩ : Tm)]], l ≠ [] ∧ l.length ≤ 100 ∧ ∀ t ∈ l, Okt t := by
  intro l hl
  obtain rfl := List.mem_singleton.1 hl
  refine ⟨by simp, by simp, fun t ht => ?_⟩
  obtain rfl := List.mem_singleton.1 ht
  exact ⟨ho, ho8, (by decide : (0 : Int) ≤ 3), (by decide : (3 : Int) ≤ 3), fun h => absurd (show (3 : Int) = 2 from h) (by decide), ra, rb, sp⟩

set_option maxHeartbeats 6400000 in
set_option maxRecDepth 100000 in
theorem group_core (ao : Option Addr) (C : List (List Tm)) (cp : Nat) (a b c : Int) (p m : ByteArray) (w : World) (hL : LL w ao C) (hz : ∀ l ∈ C, ∀ t ∈ l, t.p.size ≤ maxLen ∧ 0 ≤ t.a ∧ 0 ≤ t.b) (hp : p.size ≤ maxLen) (hm : m.size ≤ maxLen) (ra : 0 ≤ a) (rb : 0 ≤ b) (hv : Vars w) :
    Calls Tryd.prog 3 #[.slice ao C.length cp, .agg (scells a b c p m)] w fun e w' => e = .returned (.bool true) ∧ Below w.heap.size w w' := by
  obtain ⟨N, hN⟩ : ∃ N, C.length = N := ⟨_, rfl⟩
  have F11 := hid (fun w (h : LL w ao C) => fits11_any ao C cp w (fun l hl t ht => (hz l hl t ht).1) h)
  have SCG := hid (fun w h1 h2 (h : LL w ao C) => scGood_any ao C cp w h1 h2 h)
  rw [hN] at F11 SCG ⊢
  have HN := hid hN
  have HL := hid hL
  have HZ := hid hz
  have HPM := hid (show p.size ≤ maxLen ∧ m.size ≤ maxLen from ⟨hp, hm⟩)
  have HR := hid (show 0 ≤ a ∧ 0 ≤ b from ⟨ra, rb⟩)
  have HV := hid hv
  clear hN hL hz hp hm ra rb hv
  go_enter Tryd.func3, Tryd.ntmps3
  go_wp2_with fail
  have V0 := hid (Blk.new w 25 (scells a b c p m))
  have B0 := hid (show Below w.heap.size w (w.alloc (.cells (scells a b c p m) 25)) by go_grown)
  generalize (w.alloc (.cells (scells a b c p m) 25)) = w0 at V0 B0 ⊢
  go_at_call 5
  refine (F11.out _ (HL.out.below B0.out)).mono ?_
  rintro e w1 ⟨⟨r, rfl, hs⟩, hb⟩
  have V1 := hid (V0.out.below hb)
  have B1 := hid (bt B0.out hb)
  clear hb V0 B0
  cases r with
  | false =>
    clear hs
    go_wp2_with fail
    go_ret
    exact ⟨rfl, B1.out⟩
  | true =>
  obtain ⟨hN1, hN2⟩ := hs rfl
  have HS := hid (show C.length ≤ 2147483647 ∧ ∀ l ∈ C, l.length ≤ 2147483647 ∧ ∀ t ∈ l, t.p.size ≤ 2147483647 from ⟨by rw [HN.out]; exact hN1, hN2⟩)
  clear hs hN1 hN2
  have x0 : w1.cell? ⟨w.heap.size, 0, none⟩ = some (.int .u64 a) := V1.out.cell 0
  have x1 : w1.cell? ⟨w.heap.size, 1, none⟩ = some (.int .u64 b) := V1.out.cell 1
  have x2 : w1.cell? ⟨w.heap.size, 2, none⟩ = some (.int .u64 c) := V1.out.cell 2
  have x3 : w1.cell? ⟨w.heap.size, 3, none⟩ = some (.string p) := V1.out.cell 3
  have x4 : w1.cell? ⟨w.heap.size, 4, none⟩ = some (.string m) := V1.out.cell 4
  go_wp2_with fail
  go_at_call 6
  refine (fits14_any a b c p m _ HPM.out.1 HPM.out.2).mono ?_
  rintro e w2 ⟨rfl, hb⟩
  have V2 := hid (V1.out.below hb)
  have B2 := hid (bt B1.out hb)
  clear hb V1 B1 x0 x1 x2 x3 x4
  obtain ⟨r, hr⟩ : ∃ r, (decide (p.size ≤ 2147483647) && decide (m.size ≤ 2147483647)) = r := ⟨_, rfl⟩
  rw [hr]
  cases r with
  | false =>
    clear hr
    go_wp2_with fail
    go_ret
    exact ⟨rfl, B2.out⟩
  | true =>
  have SP := hid (show p.size ≤ 2147483647 ∧ m.size ≤ 2147483647 by simpa using hr)
  clear hr
  have x3 : w2.cell? ⟨w.heap.size, 3, none⟩ = some (.string p) := V2.out.cell 3
  cases hp0 : p.toList.isEmpty with
  | true =>
    have e1 : (p.toList == []) = true := by simpa using hp0
    clear hp0
    go_wp2_with fail
    go_ret
    exact ⟨rfl, B2.out⟩
  | false =>
  have e1 : (p.toList == []) = false := by simpa using hp0
  have HP0 := hid hp0
  clear hp0
  go_wp2_with fail
  go_at_call 7
  refine (SCG.out _ (by have := HS.out.1; rw [HN.out] at this; exact this) HS.out.2 (HL.out.below B2.out)).mono ?_
  rintro e w3 ⟨⟨r, rfl, hs⟩, hb⟩
  have V3 := hid (V2.out.below hb)
  have B3 := hid (bt B2.out hb)
  clear hb V2 B2 x3
  cases r with
  | false =>
    clear hs
    go_wp2_with fail
    go_ret
    exact ⟨rfl, B3.out⟩
  | true =>
  obtain ⟨hn0, hn24, hgl⟩ := hs rfl
  have OK := hid (fun l hl => goodL_okt (hgl l hl) (fun t ht => ⟨(HS.out.2 l hl).2 t ht, (HZ.out l hl t ht).2⟩))
  clear hs hgl
  have x0 : w3.cell? ⟨w.heap.size, 0, none⟩ = some (.int .u64 a) := V3.out.cell 0
  have x1 : w3.cell? ⟨w.heap.size, 1, none⟩ = some (.int .u64 b) := V3.out.cell 1
  have x2 : w3.cell? ⟨w.heap.size, 2, none⟩ = some (.int .u64 c) := V3.out.cell 2
  have x3 : w3.cell? ⟨w.heap.size, 3, none⟩ = some (.string p) := V3.out.cell 3
  have x4 : w3.cell? ⟨w.heap.size, 4, none⟩ = some (.string m) := V3.out.cell 4
  go_wp2_with fail
  go_at_call 8
  refine (svGood1 a b c p m SP.out.1 SP.out.2 _ _ _ rfl).mono ?_
  rintro e w4 ⟨⟨r, rfl⟩, hb⟩
  have V4 := hid ((V3.out.alloc _).below hb)
  have B4 := hid (bt B3.out (bt (by go_grown) hb))
  clear hb V3 B3 x0 x1 x2 x3 x4
  cases r with
  | false =>
    go_wp2_with fail
    go_ret
    exact ⟨rfl, B4.out⟩
  | true =>
  have x0 : w4.cell? ⟨w.heap.size, 0, none⟩ = some (.int .u64 a) := V4.out.cell 0
  have x1 : w4.cell? ⟨w.heap.size, 1, none⟩ = some (.int .u64 b) := V4.out.cell 1
  have x2 : w4.cell? ⟨w.heap.size, 2, none⟩ = some (.int .u64 c) := V4.out.cell 2
  have x3 : w4.cell? ⟨w.heap.size, 3, none⟩ = some (.string p) := V4.out.cell 3
  have x4 : w4.cell? ⟨w.heap.size, 4, none⟩ = some (.string m) := V4.out.cell 4
  go_wp2_with fail
  go_at_call 9
  refine (stTerm_3 3 a b c p m _).mono ?_
  rintro e w5 ⟨rfl, hb⟩
  have V5 := hid (V4.out.below hb)
  have B5 := hid (bt B4.out hb)
  clear hb V4 B4 x0 x1 x2 x3 x4
  go_wp2_with fail
  have D0 := hid (dr_first (tmB a b c p) B5.out)
  have V6 := hid ((V5.out.alloc (.cells (tm6 (tmB a b c p)) 30)).alloc (.cells #[.slice (some ⟨w5.heap.size, 0, none⟩) 1 1] 32))
  go_loopw [37, 5] (fun i v wr => ∃ (k : Nat) (ys : List Value), k ≤ N ∧ i = .int .i64 k ∧ Hid (DR w ([tmB a b c p] :: (C.take k).filter hasP) v ys wr) ∧ Hid (Blk wr w.heap.size 25 (scells a b c p m))) (fun i _ _ => N - (intOf i).toNat)
  case atStart => exact ⟨0, _, Nat.zero_le _, rfl, D0.out, V6.out⟩
  case round =>
    obtain ⟨k, ys, hk, rfl, R, VR⟩ := hrel
    clear D0 V6
    by_cases hlt : k < N
    · obtain ⟨l, hl⟩ : ∃ l, C[k]? = some l := ⟨_, List.getElem?_eq_getElem (by rw [HN.out]; exact hlt)⟩
      obtain ⟨x, bo, cq, rfl, hc0, hT⟩ := HL.out k l hl
      have hc := cell_on R.out.below hc0
      obtain ⟨ml, hm⟩ : ∃ m, l.length = m := ⟨_, rfl⟩
      have CH := hid (fun wr (h : Below w.heap.size w wr) => hasPre_any bo l cq wr (HS.out.2 l (List.mem_of_getElem? hl)).1 (hT.below h))
      rw [hm] at hc CH
      have HM := hid hm
      have HT := hid hT
      have HF := hid (filt_take hl)
      obtain ⟨D, hD⟩ : ∃ D, [tmB a b c p] :: (C.take k).filter hasP = D := ⟨_, rfl⟩
      have hDl : D.length ≤ k + 1 := by
        rw [← hD, List.length_cons]
        have := List.length_filter_le hasP (C.take k)
        rw [List.length_take] at this
        omega
      rw [hD] at R
      have HD := hid hD
      clear hm hT hc0 hl hD
      have hw : IntKind.i64.wrap ((k : Int) + 1) = (k : Int) + 1 := IntWalk.i64_in _ (by omega)
      cases hq : hasP l with
      | false =>
        have HQ := hid hq
        clear hq
        have C2 := hid (fun wr h => HQ.out ▸ CH.out wr h)
        go_wp2_with (go_at_call 10; refine (C2.out _ R.out.below).mono ?_; rintro e w7 ⟨rfl, hb⟩; have R2 := hid (R.out.on hb); have VR2 := hid (VR.out.below hb); clear hb)
        go_roundw
        case rel => exact ⟨k + 1, ys, by omega, by go_num, by rw [HF.out, HQ.out]; simp only [Bool.false_eq_true, if_false, List.append_nil]; rw [HD.out]; exact R2.out, VR2.out⟩
        case measure => simp [intOf]; omega
      | true =>
        have HQ := hid hq
        clear hq
        have C2 := hid (fun wr h => HQ.out ▸ CH.out wr h)
        obtain ⟨dl, hdl⟩ : ∃ n, D.length = n := ⟨_, rfl⟩
        rw [hdl] at hDl
        have HDL := hid hdl
        clear hdl
        go_wp2_with (first
          | (go_at_call 10; refine (C2.out _ R.out.below).mono ?_; rintro e w7 ⟨rfl, hb⟩; have R2 := hid (R.out.on hb); have VR2 := hid (VR.out.below hb); clear hb)
          | (at_builtin; refine app_row (w0 := w) w.heap.size rfl (.tmp 43) (.tmp 45) _ _ _ 1 24 rfl Tryd.underlying22 info_lst rfl (by decide) _ dl ys [.slice bo ml cq] rfl rfl rfl (by simp [Value.oneCell']) (by rw [← HDL.out]; exact R2.out.own) R2.out.below R2.out.below.size (by unfold maxLen; omega) (by omega) ?_; intro v1 w8 hown1 hg1 hb1
             have o2 := R2.out.own.alloc (.cells #[.slice bo ml cq] 32)
             have VR3 := hid ((VR2.out.alloc (.cells #[.slice bo ml cq] 32)).grown hg1 (own_ne o2 (VR2.out.alloc _) (by decide)))
             have R3 := hid (R2.out.step HT.out (by rw [HM.out, HDL.out]; exact hown1) hg1 hb1)
             clear hown1 hg1 hb1 o2))
        go_roundw
        case rel => exact ⟨k + 1, _, by omega, by go_num, by rw [HF.out, HQ.out]; simp only [if_true]; rw [← List.cons_append, HD.out]; exact R3.out, VR3.out⟩
        case measure => simp [intOf]; omega
    · obtain rfl : N = k := by omega
      have RF := hid (show DR w ([tmB a b c p] :: C.filter hasP) _ ys wr by have := R.out; rwa [List.take_of_length_le (by rw [HN.out]; exact Nat.le_refl _)] at this)
      obtain ⟨ad, ys0, had, hyl, hyc, hyT⟩ := HL.out.vals (by rw [HN.out]; exact hn0)
      subst had
      have HYC := hid (show ∀ j u, ys0[j]? = some u → (wr.alloc (.cells #[] 32)).drew.cell? (ad.add j) = some u from fun j u h => cell_on (show Below wr.heap.size wr (wr.alloc (.cells #[] 32)).drew by go_grown) (cell_on R.out.below (hyc j u h).1))
      have HY1 := hid (show ∀ u ∈ ys0, u.oneCell' = true from fun u hu => by obtain ⟨j, hj⟩ := List.getElem?_of_mem hu; exact (hyc j u hj).2)
      have HYL := hid (show ys0.length = N by rw [hyl, HN.out])
      have HYT := hid hyT
      clear hyc hyl hyT
      have hen : ∀ args w, (callFunc 9 args).run Tryd.prog w = .ok (.enter 9 args) w := enters_of Tryd.func9 (by kernel_rfl) rfl
      have x0 : wr.cell? ⟨w.heap.size, 0, none⟩ = some (.int .u64 a) := VR.out.cell 0
      have x1 : wr.cell? ⟨w.heap.size, 1, none⟩ = some (.int .u64 b) := VR.out.cell 1
      have x2 : wr.cell? ⟨w.heap.size, 2, none⟩ = some (.int .u64 c) := VR.out.cell 2
      have x3 : wr.cell? ⟨w.heap.size, 3, none⟩ = some (.string p) := VR.out.cell 3
      have x4 : wr.cell? ⟨w.heap.size, 4, none⟩ = some (.string m) := VR.out.cell 4
      have VA := hid (VR.out.alloc (.cells #[] 32))
      have y0 : (wr.alloc (.cells #[] 32)).cell? ⟨w.heap.size, 0, none⟩ = some (.int .u64 a) := VA.out.cell 0
      have y1 : (wr.alloc (.cells #[] 32)).cell? ⟨w.heap.size, 1, none⟩ = some (.int .u64 b) := VA.out.cell 1
      have y2 : (wr.alloc (.cells #[] 32)).cell? ⟨w.heap.size, 2, none⟩ = some (.int .u64 c) := VA.out.cell 2
      have y3 : (wr.alloc (.cells #[] 32)).cell? ⟨w.heap.size, 3, none⟩ = some (.string p) := VA.out.cell 3
      have y4 : (wr.alloc (.cells #[] 32)).cell? ⟨w.heap.size, 4, none⟩ = some (.string m) := VA.out.cell 4
      have OA := hid (World.ownsRow_made (base := wr.heap.size) (e := 32) (size := 1) wr.drew #[] 0 (Nat.le_refl _) (by simp [maxLen]) (by simp))
      have BA := hid (show Below wr.heap.size wr (wr.drew.alloc (.cells #[] 32)) by go_grown)
      have VD := hid (show Blk (wr.drew.alloc (.cells #[] 32)) w.heap.size 25 (scells a b c p m) from VA.out)
      go_wp2_with fail
      go_region_law (first
        | (refine step_append_own rfl (.tmp 48) (.tmp 49) 22 rfl 32 (.slice none 0 0) 1 24 Tryd.underlying22 info_lst rfl (by decide) wr.heap.size _ 0 [] (by simp [Act.eval, Act.put]) OA.out ad N cp ys0 (by simp [Act.eval, Act.put]) (by rw [HYL.out]; omega) (fun j u h => HYC.out j u h) HY1.out (by unfold maxLen; omega) (by omega) (by simp) ?_
           intro v2 w7 hown2 hg2
           have hlow := own_low OA.out
           have B7 := hid (Below.grown BA.out hg2 (by simp) hlow)
           rw [Nat.zero_add, List.nil_append] at hown2
           have O7 := hid hown2
           have V7 := hid (VR.out.below B7.out)
           obtain ⟨g2, cap2, hv2⟩ := Go.Joins.ownsRow_form hown2 hn0
           subst hv2
           have z0 : w7.cell? ⟨w.heap.size, 0, none⟩ = some (.int .u64 a) := V7.out.cell 0
           have z1 : w7.cell? ⟨w.heap.size, 1, none⟩ = some (.int .u64 b) := V7.out.cell 1
           have z2 : w7.cell? ⟨w.heap.size, 2, none⟩ = some (.int .u64 c) := V7.out.cell 2
           have z3 : w7.cell? ⟨w.heap.size, 3, none⟩ = some (.string p) := V7.out.cell 3
           have z4 : w7.cell? ⟨w.heap.size, 4, none⟩ = some (.string m) := V7.out.cell 4
           clear hown2 hg2 hlow)
        | (refine step_call rfl 9 _ _ #[.int .i64 0, .agg (scells a b c p m), .int .i64 3] rfl hen (by simp [Act.eval, Act.put]) _ (stTerm_3 0 a b c p m _) ?_
           rintro e w8 ⟨rfl, hb8⟩
           refine ⟨_, rfl, ?_⟩
           have O8 := hid (own_below O7.out hb8)
           have B8 := hid (bt B7.out hb8)
           have O9 := hid ((O8.out.alloc (.cells (tm6 (tmE a b c p)) 30)).alloc (.cells #[.slice (some ⟨w8.heap.size, 0, none⟩) 1 1] 32))
           have CN := hid (two_new w8 (tm6 (tmE a b c p)) #[.slice (some ⟨w8.heap.size, 0, none⟩) 1 1] 30 32)
           have B9 := hid (show Below wr.heap.size wr ((w8.alloc (.cells (tm6 (tmE a b c p)) 30)).alloc (.cells #[.slice (some ⟨w8.heap.size, 0, none⟩) 1 1] 32)) from (B8.out.alloc B8.out.size _).alloc (by have := B8.out.size; simp; omega) _)
           clear hb8)
        | (refine step_append_own rfl (.tmp 50) (.tmp 54) 22 rfl 32 (.slice none 0 0) 1 24 Tryd.underlying22 info_lst rfl (by decide) wr.heap.size _ N ys0 (by simp [Act.eval, Act.put]) O9.out ⟨w8.heap.size + 1, 0, none⟩ 1 1 [.slice (some ⟨w8.heap.size, 0, none⟩) 1 1] (by simp [Act.eval, Act.put]) rfl (fun j u h => by rw [add_blk, CN.out.2.cell j]; simpa using h) (by simp [Value.oneCell']) (by unfold maxLen; omega) (by omega) (by have := B8.out.size; simp; omega) ?_
           intro v3 w9 hown3 hg3
           have B10 := hid (Below.grown B9.out hg3 (by have := B8.out.size; simp; omega) (own_low O9.out))
           have T10 := hid (CN.out.1.grown hg3 (own_ne O9.out CN.out.1 (by decide)))
           have O10 := hid hown3
           have hform := Go.Joins.ownsRow_form hown3 (by omega)
           obtain ⟨g3, cap3, hv3⟩ := hform
           subst hv3
           clear hown3 hg3))
      all_goals
        have BW := hid (bt R.out.below B10.out)
        obtain ⟨xo, co, hvo, hLo⟩ := dr_own (t := tmE a b c p) HN.out (by rw [HYL.out, HN.out]) HYT.out R.out.below B10.out O10.out T10.out
        have hlo : (C ++ [[tmE a b c p]]).length = N + 1 := by rw [List.length_append, HN.out]; rfl
        rw [hlo] at hvo
        obtain ⟨rfl, rfl⟩ : xo = ⟨g3, 0, none⟩ ∧ co = cap3 := by
          simp only [Value.slice.injEq, Option.some.injEq, true_and] at hvo
          exact ⟨hvo.1.symm, hvo.2.symm⟩
        clear hvo
        obtain ⟨D, hD⟩ : ∃ D, [tmB a b c p] :: C.filter hasP = D := ⟨_, rfl⟩
        have hDr := RF.out.on B10.out
        have hDok : ∀ l ∈ D, l ≠ [] ∧ l.length ≤ 100 ∧ ∀ t ∈ l, Okt t := by
          rw [← hD]
          intro l hl
          rcases List.mem_cons.1 hl with rfl | hl
          · exact okt_own 3 (by decide) (by decide) a b c p HR.out.1 HR.out.2 SP.out.1 _ (List.mem_singleton.2 rfl)
          · exact OK.out l (List.mem_filter.1 hl).1
        have hDl : 0 < D.length ∧ D.length ≤ 100 := by
          rw [← hD, List.length_cons]
          have := List.length_filter_le hasP C
          rw [HN.out] at this
          omega
        have hlaw : anyL a b c p D = anyL a b c p C := by
          rw [← hD]
          exact group_law a b c p HP0.out C (fun l hl => ⟨(OK.out l hl).1, fun t ht => ⟨((OK.out l hl).2.2 t ht).o0, ((OK.out l hl).2.2 t ht).o8⟩⟩)
        rw [hD] at hDr
        obtain ⟨xd, cd, hvd, hLd⟩ := hDr.ll hDl.1
        subst hvd
        have hok2 : ∀ l ∈ C ++ [[tmE a b c p]], l ≠ [] ∧ l.length ≤ 100 ∧ ∀ t ∈ l, Okt t := by
          intro l hl
          rcases List.mem_append.1 hl with hl | hl
          · exact OK.out l hl
          · exact okt_own 0 (by decide) (by decide) a b c p HR.out.1 HR.out.2 SP.out.1 l hl
        have hown2 := group_own a b c p HP0.out C
        obtain ⟨r, hr⟩ : ∃ r, anyL a b c p C = r := ⟨_, rfl⟩
        have CA := fun (d : Nat) (os : Array Obj) => Calls.regrown_of (termsHold_any (some ad) C cp a b c p m (Go.Sort.grow (redrawn w9 d) os) (by rw [HN.out]; exact hn0) (by rw [HN.out]; omega) (HL.out.below (bt BW.out (below_regrown w9 d os))) OK.out SP.out.1 HR.out.1 HR.out.2 (HV.out.below (bt BW.out (below_regrown w9 d os))))
        have CB := fun (d : Nat) (os : Array Obj) => Calls.regrown_of (termsHold_any (some xd) D cd a b c p m (Go.Sort.grow (redrawn w9 d) os) hDl.1 hDl.2 (hLd.below (below_regrown w9 d os)) hDok SP.out.1 HR.out.1 HR.out.2 (HV.out.below (bt BW.out (below_regrown w9 d os))))
        have CO := fun (d : Nat) (os : Array Obj) => Calls.regrown_of (termsHold_any (some ⟨g3, 0, none⟩) (C ++ [[tmE a b c p]]) co a b c p m (Go.Sort.grow (redrawn w9 d) os) (by rw [hlo]; omega) (by rw [hlo]; omega) (hLo.below (below_regrown w9 d os)) hok2 SP.out.1 HR.out.1 HR.out.2 (HV.out.below (bt BW.out (below_regrown w9 d os))))
        rw [HN.out, hr] at CA
        rw [hlaw, hr] at CB
        rw [hlo, hown2] at CO
        obtain ⟨dl, hdl⟩ : ∃ n, D.length = n := ⟨_, rfl⟩
        rw [hdl] at CB ⊢
        have HCA := hid CA
        have HCB := hid CB
        have HCO := hid CO
        have V9 := hid (VR.out.below B10.out)
        have k0 : ∀ d os, (Go.Sort.grow (redrawn w9 d) os).cell? ⟨w.heap.size, 0, none⟩ = some (.int .u64 a) := fun d os => (blk_gr V9.out d os).cell 0
        have k1 : ∀ d os, (Go.Sort.grow (redrawn w9 d) os).cell? ⟨w.heap.size, 1, none⟩ = some (.int .u64 b) := fun d os => (blk_gr V9.out d os).cell 1
        have k2 : ∀ d os, (Go.Sort.grow (redrawn w9 d) os).cell? ⟨w.heap.size, 2, none⟩ = some (.int .u64 c) := fun d os => (blk_gr V9.out d os).cell 2
        have k3 : ∀ d os, (Go.Sort.grow (redrawn w9 d) os).cell? ⟨w.heap.size, 3, none⟩ = some (.string p) := fun d os => (blk_gr V9.out d os).cell 3
        have k4 : ∀ d os, (Go.Sort.grow (redrawn w9 d) os).cell? ⟨w.heap.size, 4, none⟩ = some (.string m) := fun d os => (blk_gr V9.out d os).cell 4
        clear hlo hDr hDok hDl hlaw hLd hok2 hown2 hr CA CB CO hdl hD hLo
        cases r
        all_goals
          go_simp
          go_wp2_with fail
          refine wp_region_quiet_below (by kernel_rfl) (by kernel_rfl) ?_
          repeat (go_big_quiet_step ((first | (go_at_call_of 11 (Value.slice (some ad) N cp); exact HCA.out _ _) | (go_at_call_of 11 (Value.slice (some xd) dl cd); exact HCB.out _ _) | (go_at_call 11; exact HCO.out _ _) | fail)))
          refine wpQuiet_nil ?_
          intro _ hw'
          obtain ⟨⟨dq, osq⟩, hw''⟩ := hw'
          subst hw''
          go_wp2_with fail
          go_ret
          exact ⟨ret_b (by rfl), bt BW.out (below_regrown _ _ _)⟩
end Go.Proofs.YtkohcmgckkenpaaDoor
