/- Constraints.Check and impl.TermsHold, walked. impl.TermsHold, walked: what lists of terms say of a version, no prerelease let in from outside. -/
import Derived.Test.YtkohcmgckkenpaaDoorTmsD
set_option linter.unusedVariables false
set_option linter.unusedSimpArgs false
namespace Go.Proofs.YtkohcmgckkenpaaDoor
open Go.RowKit

/-- What the term t says of a version. -/
def tv (a b c : Int) (p : ByteArray) (pre : Bool) (t : Tm) : Bool := opV t.o.toNat a b c p t.a t.b t.c t.p t.k.toNat pre
/-- What the lists say of a version. -/
def anyL (a b c : Int) (p : ByteArray) (L : List (List Tm)) : Bool := L.any (fun l => l.all (tv a b c p (hasP l)))

theorem check_op (a b c : Int) (p m : ByteArray) (sp : p.size ≤ 2147483647) (ra : 0 ≤ a) (rb : 0 ≤ b) (t : Tm) (ok : Okt t) (pre : Bool) (g h k : Nat) (w : World) (hv : Vars w)
    (vg : Blk w g 67 (vcells a b c p m)) (vh : Blk w h 67 (vc t)) (vk : Blk w k 79 (cc t h)) (ne : g ≠ h) :
    Calls Tryd.prog 33 #[.pointer (some ⟨k, 0, none⟩), .pointer (some ⟨g, 0, none⟩), .bool pre] w fun e w' => (∃ er, e = .returned (.tuple #[.bool (tv a b c p pre t), er])) ∧ Below w.heap.size w w' := by
  have o8 : t.o.toNat < 8 := by have := ok.o0; have := ok.o8; omega
  exact check_any t.o.toNat o8 g h k a b c p m t.a t.b t.c t.p ByteArray.empty ByteArray.empty (t.k.toNat == 1) (decide (t.k.toNat < 3)) (t.k.toNat == 2) pre (tv a b c p pre t) w ⟨vg, vh, vk, ne⟩ hv
    (opIs_any t.o.toNat o8 t.k.toNat a b c p m t.a t.b t.c t.p ByteArray.empty (opS t.o.toNat) ByteArray.empty pre sp ok.sp (fun h => ok.k2 (by have := ok.k0; omega)) ra rb ok.a0 ok.b0 g h)

/-- The constraints beside a version at g. -/
def CsG (g : Nat) (L : List (List Tm)) (v0 v1 : Value) (w : World) : Prop := ∃ x c0 y c1, v0 = .slice (some x) L.length c0 ∧ v1 = .slice (some y) L.length c1 ∧
  ∀ (i : Nat) (l : List Tm), L[i]? = some l → ∃ x1 cap, w.cell? (x.add i) = some (.slice (some x1) l.length cap) ∧ w.cell? (y.add i) = some (.bool (hasP l)) ∧
    ∀ (j : Nat) (t : Tm), l[j]? = some t → ∃ k h, g ≠ h ∧ w.cell? (x1.add j) = some (.pointer (some ⟨k, 0, none⟩)) ∧ Blk w k 79 (cc t h) ∧ Blk w h 67 (vc t)
theorem CsR.beside {B g : Nat} {L : List (List Tm)} {v0 v1 : Value} {w : World} (h : CsR B L v0 v1 w) (hg : g < B ∨ w.heap.size ≤ g) : CsG g L v0 v1 w := by
  obtain ⟨x, c0, y, c1, e0, e1, h⟩ := h
  refine ⟨x, c0, y, c1, e0, e1, fun i l hi => ?_⟩
  obtain ⟨u, h1, ⟨g1, cap, cur, hu, hb, hc⟩, h3⟩ := h i l hi
  subst hu
  refine ⟨_, cap, h1, h3, fun j t hj => ?_⟩
  obtain ⟨k, hh, hB, q1, q2, q3⟩ := hc j t hj
  refine ⟨k, hh, ?_, ?_, q2, q3⟩
  · have := q3.lt
    omega
  · rw [add_blk, hb.cell j, q1]
theorem CsG.below {g : Nat} {L : List (List Tm)} {v0 v1 : Value} {w w' : World} (h : CsG g L v0 v1 w) (hb : Below w.heap.size w w') : CsG g L v0 v1 w' := by
  obtain ⟨x, c0, y, c1, e0, e1, h⟩ := h
  refine ⟨x, c0, y, c1, e0, e1, fun i l hi => ?_⟩
  obtain ⟨x1, cap, h1, h2, h3⟩ := h i l hi
  refine ⟨x1, cap, (hb.cell (World.block_lt_of_cell? w _ h1)).trans h1, (hb.cell (World.block_lt_of_cell? w _ h2)).trans h2, fun j t hj => ?_⟩
  obtain ⟨k, hh, hn, q1, q2, q3⟩ := h3 j t hj
  exact ⟨k, hh, hn, (hb.cell (World.block_lt_of_cell? w _ q1)).trans q1, q2.below hb, q3.below hb⟩

theorem any_take {a b c : Int} {p : ByteArray} {L : List (List Tm)} {i : Nat} {l : List Tm} (h : L[i]? = some l) (h0 : anyL a b c p (L.take i) = false) (hl : l.all (tv a b c p (hasP l)) = false) : anyL a b c p (L.take (i + 1)) = false := by
  unfold anyL at h0 ⊢
  rw [List.take_add_one, h, List.any_append, h0]
  simp only [Option.toList, List.any_cons, List.any_nil, hl]
  rfl
theorem any_at {a b c : Int} {p : ByteArray} {L : List (List Tm)} {i : Nat} {l : List Tm} (h : L[i]? = some l) (hl : l.all (tv a b c p (hasP l)) = true) : anyL a b c p L = true := by
  unfold anyL
  rw [List.any_eq_true]
  exact ⟨l, List.mem_of_getElem? h, hl⟩
theorem all_take {f : Tm → Bool} {l : List Tm} {j : Nat} {t : Tm} (h : l[j]? = some t) (h0 : (l.take j).all f = true) (ht : f t = true) : (l.take (j + 1)).all f = true := by
  rw [List.take_add_one, h, List.all_append, h0]
  simp [ht]
theorem all_at {f : Tm → Bool} {l : List Tm} {j : Nat} {t : Tm} (h : l[j]? = some t) (ht : f t = false) : l.all f = false := by
  rw [List.all_eq_false]
  exact ⟨t, List.mem_of_getElem? h, by simp [ht]⟩

set_option maxHeartbeats 6400000 in
set_option maxRecDepth 100000 in
theorem checks_any (L : List (List Tm)) (v0 v1 : Value) (g : Nat) (a b c : Int) (p m : ByteArray) (w : World) (hn : L.length ≤ 100) (hO : ∀ l ∈ L, l.length ≤ 100 ∧ ∀ t ∈ l, Okt t) (sp : p.size ≤ 2147483647) (ra : 0 ≤ a) (rb : 0 ≤ b) (hv : Vars w)
    (vg : Blk w g 67 (vcells a b c p m)) (R : CsG g L v0 v1 w) :
    Calls Tryd.prog 23 #[.agg (zcs v0 v1 false), .pointer (some ⟨g, 0, none⟩)] w fun e w' => e = .returned (.bool (anyL a b c p L)) ∧ Below w.heap.size w w' := by
  obtain ⟨x, c0, y, c1, rfl, rfl, hR⟩ := R
  have RB : Hid (∀ wr, Below w.heap.size w wr → ∀ (i : Nat) (l : List Tm), L[i]? = some l → ∃ x1 cap, wr.cell? (x.add i) = some (.slice (some x1) l.length cap) ∧ wr.cell? (y.add i) = some (.bool (hasP l)) ∧
    ∀ (j : Nat) (t : Tm), l[j]? = some t → ∃ k h, g ≠ h ∧ wr.cell? (x1.add j) = some (.pointer (some ⟨k, 0, none⟩)) ∧ Blk wr k 79 (cc t h) ∧ Blk wr h 67 (vc t)) := by
    refine hid fun wr hb i l hi => ?_
    obtain ⟨x1, cap, h1, h2, h3⟩ := hR i l hi
    refine ⟨x1, cap, (hb.cell (World.block_lt_of_cell? w _ h1)).trans h1, (hb.cell (World.block_lt_of_cell? w _ h2)).trans h2, fun j t hj => ?_⟩
    obtain ⟨k, hh, hn, q1, q2, q3⟩ := h3 j t hj
    exact ⟨k, hh, hn, (hb.cell (World.block_lt_of_cell? w _ q1)).trans q1, q2.below hb, q3.below hb⟩
  obtain ⟨N, hN⟩ : ∃ N, L.length = N := ⟨_, rfl⟩
  rw [hN] at hn ⊢
  have HN := hid hN
  have HO := hid hO
  have HV := hid hv
  have VG := hid vg
  have HS := hid (show p.size ≤ 2147483647 ∧ 0 ≤ a ∧ 0 ≤ b from ⟨sp, ra, rb⟩)
  clear hR hN hO hv vg sp ra rb
  go_enter Tryd.func23, Tryd.ntmps23
  go_wp2_with fail
  have Q0 := hid (Blk.new w 48 (zcs (.slice (some x) N c0) (.slice (some y) N c1) false))
  go_loopw [15] (fun i wr => ∃ k : Nat, k ≤ N ∧ i = .int .i64 k ∧ Hid (anyL a b c p (L.take k) = false) ∧ Hid (Below w.heap.size w wr) ∧ Hid (Blk wr w.heap.size 48 (zcs (.slice (some x) N c0) (.slice (some y) N c1) false))) (fun i _ => N - (intOf i).toNat)
  case atStart => exact ⟨0, Nat.zero_le _, rfl, (rfl : anyL a b c p (L.take 0) = false), (by go_grown : Below w.heap.size w _), Q0.out⟩
  case round =>
    obtain ⟨k, hk, rfl, A0, B0, Q0⟩ := hrel
    rename World => wo
    by_cases hlt : k < N
    · obtain ⟨l, hl⟩ : ∃ l, L[k]? = some l := ⟨_, List.getElem?_eq_getElem (by rw [HN.out]; exact hlt)⟩
      obtain ⟨x1, cq, h1, h2, h3⟩ := RB.out wo B0.out k l hl
      obtain ⟨hm100, hok⟩ := HO.out l (List.mem_of_getElem? hl)
      obtain ⟨ml, hm⟩ : ∃ m, l.length = m := ⟨_, rfl⟩
      rw [hm] at h1 hm100
      obtain ⟨pr, hpr⟩ : ∃ b, hasP l = b := ⟨_, rfl⟩
      rw [hpr] at h2
      have HK := hid hl
      have HM := hid hm
      have HOK := hid hok
      have HPR := hid hpr
      have H3 := hid h3
      clear hl hm hok hpr h3
      have hw : IntKind.i64.wrap ((k : Int) + 1) = (k : Int) + 1 := IntWalk.i64_in _ (by omega)
      go_wp2_with fail
      go_loopw [22, 7] (fun j jy wr2 => ∃ q : Nat, q ≤ ml ∧ j = .int .i64 q ∧ jy = .bool true ∧ Hid ((l.take q).all (tv a b c p (hasP l)) = true) ∧ Hid (Below wo.heap.size wo wr2)) (fun j _ _ => ml - (intOf j).toNat)
      case atStart => exact ⟨0, Nat.zero_le _, rfl, rfl, (rfl : (l.take 0).all (tv a b c p (hasP l)) = true), Below.refl _ _⟩
      case round =>
        obtain ⟨q, hq, rfl, rfl, A1, B1⟩ := hrel
        by_cases hlt2 : q < ml
        · obtain ⟨t, ht⟩ : ∃ t, l[q]? = some t := ⟨_, List.getElem?_eq_getElem (by rw [HM.out]; exact hlt2)⟩
          obtain ⟨kc, h, hne, d0, d1, d2⟩ := H3.out q t ht
          have e0 : wr.cell? (x1.add q) = some (.pointer (some ⟨kc, 0, none⟩)) := (B1.out.cell (World.block_lt_of_cell? wo _ d0)).trans d0
          have q1 : wr.cell? ⟨w.heap.size, 1, none⟩ = some (.slice (some y) N c1) := (Q0.out.below B1.out).cell 1
          have q2 : wr.cell? ⟨w.heap.size, 2, none⟩ = some (.bool false) := (Q0.out.below B1.out).cell 2
          have q3 : wr.cell? (y.add k) = some (.bool pr) := (B1.out.cell (World.block_lt_of_cell? wo _ h2)).trans h2
          have C := check_op a b c p m HS.out.1 HS.out.2.1 HS.out.2.2 t (HOK.out t (List.mem_of_getElem? ht)) pr g h kc wr (HV.out.below (bt B0.out B1.out)) (VG.out.below (bt B0.out B1.out)) (d2.below B1.out) (d1.below B1.out) hne
          obtain ⟨r, hr⟩ : ∃ r, tv a b c p pr t = r := ⟨_, rfl⟩
          rw [hr] at C
          have CC := hid C
          have HR := hid hr
          have H1 := hid ht
          clear d0 d1 d2 hne C hr ht
          have hw2 : IntKind.i64.wrap ((q : Int) + 1) = (q : Int) + 1 := IntWalk.i64_in _ (by omega)
          cases r with
          | true =>
            go_wp2_with (go_at_call 33; refine CC.out.mono ?_; rintro e w2 ⟨⟨er, rfl⟩, hb2⟩; have B2 := hid (bt B1.out hb2); clear hb2)
            go_roundw
            case rel => exact ⟨q + 1, by omega, by go_num, rfl, all_take H1.out A1.out (by rw [HPR.out]; exact HR.out), B2.out⟩
            case measure => simp [intOf]; omega
          | false =>
            go_wp2_with (go_at_call 33; refine CC.out.mono ?_; rintro e w2 ⟨⟨er, rfl⟩, hb2⟩; have B2 := hid (bt B1.out hb2); clear hb2)
            go_roundw
            case rel => exact ⟨k + 1, by omega, by go_num, any_take HK.out A0.out (all_at H1.out (by rw [HPR.out]; exact HR.out)), bt B0.out B2.out, Q0.out.below B2.out⟩
            case measure => simp [intOf]; omega
        · have hqm : q = ml := by omega
          have HT : Hid (l.all (tv a b c p (hasP l)) = true) := by
            have := A1.out
            rw [List.take_of_length_le (by rw [HM.out]; omega)] at this
            exact hid this
          go_wp2_with fail
          go_ret
          exact ⟨ret_b (any_at HK.out HT.out).symm, bt B0.out B1.out⟩
    · have hkn : k = N := by omega
      have HF : anyL a b c p L = false := by
        have := A0.out
        rwa [List.take_of_length_le (by rw [HN.out]; omega)] at this
      go_wp2_with fail
      go_ret
      exact ⟨ret_b HF.symm, B0.out⟩
end Go.Proofs.YtkohcmgckkenpaaDoor

set_option linter.unusedVariables false
set_option linter.unusedSimpArgs false
namespace Go.Proofs.YtkohcmgckkenpaaDoor
open Go.RowKit

theorem ORel.all {w wr w' : World} {L : List (List Tm)} {v : Value} {vs : List Value} (R : ORel w L L.length v vs wr) (hb : Below wr.heap.size wr w') : ZLs w.heap.size w' vs L := by
  have h := R.at_
  rw [List.take_of_length_le (Nat.le_refl _)] at h
  exact h.keep (KeepT.of_below hb)
theorem keepV {a b c : Int} {p m : ByteArray} {w w' : World} (hb : Below (w.alloc (.cells (scells a b c p m) 25)).heap.size (w.alloc (.cells (scells a b c p m) 25)) w') :
    w'.cell? ⟨w.heap.size, 0, none⟩ = some (.int .u64 a) ∧ w'.cell? ⟨w.heap.size, 1, none⟩ = some (.int .u64 b) ∧ w'.cell? ⟨w.heap.size, 2, none⟩ = some (.int .u64 c) ∧ w'.cell? ⟨w.heap.size, 3, none⟩ = some (.string p) ∧ w'.cell? ⟨w.heap.size, 4, none⟩ = some (.string m) := by
  have k2 := (Blk.new w 25 (scells a b c p m)).below hb
  exact ⟨k2.cell 0, k2.cell 1, k2.cell 2, k2.cell 3, k2.cell 4⟩
theorem cell_on {w w' : World} {x : Addr} {v : Value} (hb : Below w.heap.size w w') (h : w.cell? x = some v) : w'.cell? x = some v := (hb.cell (World.block_lt_of_cell? w _ h)).trans h
theorem csr_on {B g : Nat} {L : List (List Tm)} {v0 v1 : Value} {w w1 w2 : World} (h : CsR B L v0 v1 w) (hb : Below w.heap.size w w1) (hg : w1.heap.size ≤ g) (hb2 : Below w.heap.size w w2) : CsG g L v0 v1 w2 :=
  (h.beside (.inr (Nat.le_trans hb.size hg))).below hb2

set_option maxHeartbeats 3200000 in
set_option maxRecDepth 100000 in
theorem termsHold_any (ao : Option Addr) (L : List (List Tm)) (cp : Nat) (a b c : Int) (p m : ByteArray) (w : World) (h0 : 0 < L.length) (hn : L.length ≤ 100) (hL : LL w ao L) (hO : ∀ l ∈ L, l ≠ [] ∧ l.length ≤ 100 ∧ ∀ t ∈ l, Okt t)
    (sp : p.size ≤ 2147483647) (ra : 0 ≤ a) (rb : 0 ≤ b) (hv : Vars w) :
    Calls Tryd.prog 11 #[.slice ao L.length cp, .agg (scells a b c p m), .bool false] w fun e w' => e = .returned (.bool (anyL a b c p L)) ∧ Below w.heap.size w w' := by
  have HL := hid hL
  have HO := hid hO
  have HV := hid hv
  have HS := hid (show p.size ≤ 2147483647 ∧ 0 ≤ a ∧ 0 ≤ b from ⟨sp, ra, rb⟩)
  have H0 := hid h0
  have HN := hid hn
  have BW := hid (show Below w.heap.size w (w.alloc (.cells (scells a b c p m) 25)) by go_grown)
  have LW := hid (hL.below BW.out)
  have B0 := hid (Below.refl (w.alloc (.cells (scells a b c p m) 25)).heap.size (w.alloc (.cells (scells a b c p m) 25)))
  obtain ⟨N, hNN⟩ : ∃ N, L.length = N := ⟨_, rfl⟩
  have TC := hid (fun w (h : LL w ao L) => terms_any ao L cp w hn h hO)
  rw [hNN] at TC ⊢
  have HNN := hid hNN
  clear hL hO hv sp ra rb h0 hn hNN
  go_enter Tryd.func11, Tryd.ntmps11
  go_wp2_with fail
  go_region_held3 (fun w' => w'.cell? ⟨w.heap.size, 0, none⟩ = some (.int .u64 a) ∧ w'.cell? ⟨w.heap.size, 1, none⟩ = some (.int .u64 b) ∧ w'.cell? ⟨w.heap.size, 2, none⟩ = some (.int .u64 c) ∧ w'.cell? ⟨w.heap.size, 3, none⟩ = some (.string p) ∧ w'.cell? ⟨w.heap.size, 4, none⟩ = some (.string m)) (first | (refine keepV ?_; exact B4.out; done) | (refine keepV (bt B2.out ?_); go_grown; done) | (refine keepV ?_; exact B2.out; done) | (refine keepV (bt B1.out ?_); go_grown; done) | (refine keepV ?_; exact B1.out; done) | (refine keepV ?_; go_grown; done))
    (first
      | (go_at_call 22; refine (TC.out _ (LW.out.below (by go_grown))).mono ?_; rintro e w1 ⟨v, vs, rfl, hR⟩; have hR' := hR; rw [← HNN.out] at hR'; have R1 := hid hR'; have B1 := hid (bt (show Below (w.alloc (.cells (scells a b c p m) 25)).heap.size (w.alloc (.cells (scells a b c p m) 25)) _ by go_grown) hR.below); obtain ⟨x0, q0, rfl, hc⟩ := hR.opened (by have := H0.out; rw [HNN.out] at this; exact this); have HC := hid hc; clear hR hR' hc)
      | (go_at_call 21; refine (zzcs_any false _ L vs x0 N q0 _ HNN.out.symm (by have := H0.out; rw [HNN.out] at this; exact this) (by have := HN.out; rw [HNN.out] at this; exact this) (fun i y h => cell_on (by go_grown) (HC.out i y h)) (R1.out.all (by go_grown)) (fun l hl => ⟨(HO.out l hl).1, (HO.out l hl).2.1⟩)).mono ?_; rintro e w2 ⟨⟨v0, v1, rfl, hCs⟩, hb2⟩; have C2 := hid hCs; have B2 := hid (bt (bt B1.out (by go_grown)) hb2); clear hCs hb2)
      | (go_at_call 24; refine (version_any a b c p m _).mono ?_; rintro e w3 ⟨rfl, rfl⟩)
      | (go_at_call 23; refine (checks_any L v0 v1 _ a b c p m _ HN.out (fun l hl => (HO.out l hl).2) HS.out.1 HS.out.2.1 HS.out.2.2 ?_ ?_ ?_).mono ?_; (exact HV.out.below (bt BW.out (bt B2.out (by go_grown)))); (exact ver_new _ _ _ _); (exact csr_on C2.out (by go_grown) (Nat.le_succ _) (by go_grown)); rintro e w4 ⟨rfl, hb4⟩; have B4 := hid (bt (bt B2.out (by go_grown)) hb4); clear hb4))
  all_goals (go_wp2_with fail; go_ret; exact ⟨rfl, bt BW.out B4.out⟩)
end Go.Proofs.YtkohcmgckkenpaaDoor
