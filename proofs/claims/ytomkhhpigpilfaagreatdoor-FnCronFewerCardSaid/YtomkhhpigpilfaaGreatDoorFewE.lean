/- The reference's CronSix: six fields, one verdict. Walked. (wip/gen/gen_fewe.py) -/
import Derived.Test.YtomkhhpigpilfaaGreatDoorFewD
import Derived.Test.YtomkhhpigpilfaaGreatDoorInv
import Derived.Test.YtomkhhpigpilfaaGreatDoorNormG
import Derived.Test.YtomkhhpigpilfaaGreatDoorQTail
import Derived.Deep.DeepCutAuto
import Derived.Deep.QuietTactic
set_option linter.unusedVariables false
set_option linter.unusedSimpArgs false
namespace Go.Proofs.YtomkhhpigpilfaaGreatDoor
open Go.RowKit

theorem gotNew {got : Array Bool} {i : Nat} (h : got[i]? = some false) : (got.setIfInBounds i true).getD i false = true := by
  have : i < got.size := (Array.getElem?_eq_some_iff.1 h).1
  simp [Array.getD_eq_getD_getElem?, Array.getElem?_setIfInBounds, this]
theorem gotNot {got : Array Bool} {i : Nat} (h : got[i]? = some false) (h2 : got.getD i false = true) : False := by
  rw [Array.getD_eq_getD_getElem?, h] at h2
  cases h2
theorem size_setCells : ∀ (vs : List Value) (g o : Nat) (w : World), (w.setCells g o vs).heap.size = w.heap.size
  | [], _, _, _ => rfl
  | v :: r, g, o, w => (size_setCells r g (o + 1) _).trans (by simp [World.setCell])
theorem zero384 (X : World) : (zeroValue 42).run Tryz.prog X = .ok (.agg (bcells 384 noF)) X := by kernel_rfl
theorem built384 : Tryz.prog.built 42 [] = some (bcells 384 noF) := by kernel_rfl
theorem all_store {w : World} {g n : Nat} {t : TypeId} {F G : Nat → Bool} (h : Blk w g t (bcells n F)) : Blk (w.setCells g 0 (bcells n G).toList) g t (bcells n G) := by
  have := h.putm_b (o := 0) (m := n) (h := G) (by omega)
  rwa [bcells_ext (f := putm F 0 n G) (h := G) (fun i hi => by simp [putm, hi])] at this
/-- The verdict over the first n fields. -/
def sixV (f : Nat → ByteArray) : Nat → Nat
  | 0 => 1
  | n + 1 => worse (sixV f n) (crV n (f n))
theorem crV_vd (k : Nat) (s : ByteArray) : crV k s ≤ 2 := fieldV_vd k _ _
theorem sixV_vd (f : Nat → ByteArray) : ∀ n, sixV f n ≤ 2
  | 0 => Nat.le_succ 1
  | n + 1 => worse_le (sixV_vd f n) (crV_vd n _)
theorem sixV_one (f : Nat → ByteArray) : ∀ n, sixV f n = 1 → ∀ i, i < n → crV i (f i) = 1
  | 0, _, i, hi => absurd hi (Nat.not_lt_zero _)
  | n + 1, h, i, hi => by
    obtain ⟨h1, h2⟩ := worse_one h
    by_cases e : i = n
    · subst e; exact h2
    · exact sixV_one f n h1 i (by omega)
/-- What holds within the region that reads one field, whatever has come up. -/
def JS (Fr : Value → Value → Value → Value → Value → Value → Value → Value → Value → Value → Value → Value → Act) (k : Nat) (bd sl pt st vv : Value) (tu : (Nat → Bool) → Value) (T : TypeId) (B0 : Nat) (W0 : World) (a0 : Act) (w0 : World) (got : Array Bool) (a : Act) (w : World) : Prop :=
  ∃ (x13 x14 x15 x16 x17 x18 x19 x12 x20 x21 x7 x8 : Value) (F : Nat → Bool), a = Fr x13 x14 x15 x16 x17 x18 x19 x12 x20 x21 x7 x8 ∧ Below B0 W0 w ∧ B0 ≤ w.heap.size ∧
    (got.getD 0 false = true → x13 = .int .i64 k) ∧
    (got.getD 1 false = true → x14 = bd) ∧
    (got.getD 2 false = true → x15 = sl) ∧
    (got.getD 3 false = true → x16 = .int .i64 k) ∧
    (got.getD 4 false = true → x17 = pt) ∧
    (got.getD 5 false = true → x18 = st) ∧
    (got.getD 6 false = true → x19 = tu F) ∧
    (got.getD 7 false = true → x12 = tu F) ∧
    (got.getD 8 false = true → x20 = .agg (bcells 64 F)) ∧
    (got.getD 9 false = true → x21 = vv) ∧
    (got.getD 12 false = true → x8 = vv) ∧
    (got.getD 10 false = true → ∃ gb, x7 = .pointer (some ⟨gb, 0, none⟩) ∧ B0 ≤ gb ∧ ∃ D, Blk w gb T (bcells 64 D) ∧ (got.getD 11 false = true → D = F)) ∧
    (got.getD 7 false = true → got.getD 6 false = true) ∧
    (got.getD 8 false = true → got.getD 6 false = true) ∧
    (got.getD 11 false = true → got.getD 6 false = true) ∧
    (got.getD 11 false = true → got.getD 10 false = true)

set_option maxHeartbeats 6400000 in
set_option maxRecDepth 100000 in
theorem six_any (H : Nat) (f : Nat → ByteArray) (hf : ∀ i, i < 6 → (f i).size ≤ 65536) (w : World) (hP : Blk w H 9 (scells 6 f)) : Calls Tryz.prog 79 #[.slice (some ⟨H, 0, none⟩) 6 6] w fun e w' => (∃ G : Nat → Bool, e = .returned (.tuple #[.agg (bcells 384 G), .int .i64 (sixV f 6 : Nat)])) ∧ Below w.heap.size w w' := by
  have CBX := hid (fun (k : Nat) (hk : k ≤ 5) w => boundsOf_any k hk w)
  have CFX := hid (fun (k : Nat) (hk : k ≤ 5) (s : ByteArray) (hs : s.size ≤ 65536) w => cfield_any k hk s hs w)
  have HF := hid hf
  have VD := hid (sixV_vd f)
  have HX := hid hP.lt
  have N := hid (show ∀ f : Nat → Bool, (Tryz.prog.info? 40).map (·.size) = some (bcells 64 f).size from fun f => by rw [bcells_size]; kernel_rfl)
  have NL := hid (show ∀ f : Nat → Bool, (Tryz.prog.info? 40).map (·.size) = some (bcells 64 f).toList.length from fun f => by rw [bcells_len]; kernel_rfl)
  have US := hid (Tryz.underlying40)
  have KP0 := hid hP
  clear hf hP
  have hz := zero384
  have R0 := hid ((Blk.new w 42 (bcells 384 noF)).alloc (.cells (bcells 384 noF) 42))
  have S0 := hid (Blk.new (w.alloc (.cells (bcells 384 noF) 42)) 42 (bcells 384 noF))
  have B0 := hid (show Below w.heap.size w ((w.alloc (.cells (bcells 384 noF) 42)).alloc (.cells (bcells 384 noF) 42)) by go_grown)
  rw [World.size_alloc] at S0
  go_enter Tryz.func79, Tryz.ntmps79
  go_upto_region 3 with fail
  generalize ((w.alloc (.cells (bcells 384 noF) 42)).alloc (.cells (bcells 384 noF) 42)) = w1 at R0 S0 B0 ⊢
  clear hz
  go_wp2_with fail
  go_loopw [9, 5] (fun i v wr => ∃ n : Nat, i = .int .i64 n ∧ n ≤ 6 ∧ v = .int .i64 (sixV f n : Nat) ∧ Hid (Blk wr w.heap.size 42 (bcells 384 noF)) ∧ Hid (∃ G, Blk wr (w.heap.size + 1) 42 (bcells 384 G)) ∧ Hid (Below w.heap.size w wr)) (fun i _ _ => 6 - (intOf i).toNat)
  case atStart => exact ⟨0, rfl, Nat.zero_le _, rfl, R0, hid ⟨noF, S0.out⟩, B0⟩
  case round =>
    clear R0 S0 B0
    rename World => wo
    obtain ⟨k, rfl, hn, rfl, KR, ⟨G, hG⟩, KB⟩ := hrel
    have KS := hid hG
    clear hG
    by_cases hc : k < 6
    · have c1 : (k : Int) < 6 := by omega
      have KP := hid (KP0.out.below KB.out)
      have HKL := hid hc
      obtain ⟨v, hv⟩ : ∃ v, sixV f k = v := ⟨_, rfl⟩
      have hv2 : v ≤ 2 := hv ▸ VD.out k
      have HN := hid (show sixV f (k + 1) = worse v (crV k (f k)) by rw [← hv]; rfl)
      rw [hv]
      clear hv
      have CB := hid (fun w => CBX.out k (by omega) w)
      have CF := hid (fun w => CFX.out k (by omega) (f k) (HF.out k hc) w)
      have CW := hid (fun w => worse_any v (crV k (f k)) hv2 (crV_vd k (f k)) w)
      obtain ⟨cv, hcv⟩ : ∃ cv, crV k (f k) = cv := ⟨_, rfl⟩
      rw [hcv] at CF CW HN
      have KLH := hid (And.intro (show kLo k = kLo k from rfl) (show kHi k = kHi k from rfl))
      generalize kLo k = lo at CB CF
      generalize kHi k = hi5 at CB CF
      clear hcv hv2 KLH
      go_upto_region 6 with fail
      go_cut [7, 8] (fun pv vv wx => ∃ g7 D, pv = .pointer (some ⟨g7, 0, none⟩) ∧ vv = .int .i64 (cv : Nat) ∧ Blk wx g7 40 (bcells 64 D) ∧ wo.heap.size ≤ g7 ∧ Below wo.heap.size wo wx)
      case first =>
        refine wp_region_inv (JS (fun x13 x14 x15 x16 x17 x18 x19 x12 x20 x21 x7 x8 => { tmps := #[Value.slice (some ⟨H, 0, none⟩) 6 6, undef, Value.pointer (some ⟨w.heap.size, 0, none⟩), Value.int .i64 0, Value.pointer (some ⟨w.heap.size + 1, 0, none⟩), Value.int .i64 v, Value.int .i64 k, x7, x8, Value.int .i64 k, Value.bool true, Value.int .i64 k, x12, x13, x14, x15, x16, x17, x18, x19, x20, x21, u22, u23, u24, u25, u26, u27, u28, undef, undef, undef, undef, undef], defers := [] }) k (.agg #[.int .i64 lo, .int .i64 hi5, .int .i64 k]) (.slice (some ⟨H, 0, none⟩) 6 6) (.pointer (some ⟨H, k, none⟩)) (.string (f k)) (.int .i64 (cv : Nat)) (fun F => .tuple #[.agg (bcells 64 F), .int .i64 (cv : Nat)]) 40 wo.heap.size wo) (by kernel_rfl) (by kernel_rfl) ?_ ?_ ?_
        · refine ⟨u13, u14, u15, u16, u17, u18, u19, u12, u20, u21, u7, u8, noF, ?_, ?_, Nat.le_refl _, ?_⟩
          · rfl
          · exact ⟨rfl, rfl, rfl, Nat.le_refl _, fun k _ => rfl⟩
          · simp [Array.getD_eq_getD_getElem?]
        · rintro got a' wr i op ⟨x13, x14, x15, x16, x17, x18, x19, x12, x20, x21, x7, x8, F, rfl, hb, hbs, g0, g1, g2, g3, g4, g5, g6, g7, g8, g9, g12, g10, c7_6, c8_6, c11_6, c11_10⟩ hz ho hi hd
          dsimp only
          have hlt : i < 13 := (List.getElem?_eq_some_iff.1 ho).1
          rcases (by clear hd ho hi hz; omega : i = 0 ∨ i = 1 ∨ i = 2 ∨ i = 3 ∨ i = 4 ∨ i = 5 ∨ i = 6 ∨ i = 7 ∨ i = 8 ∨ i = 9 ∨ i = 10 ∨ i = 11 ∨ i = 12) with rfl | rfl | rfl | rfl | rfl | rfl | rfl | rfl | rfl | rfl | rfl | rfl | rfl
          · obtain rfl := Option.some.inj ho
            have HB := hid hb; have HS := hid hbs; have HI := hid hi
            have GG := hid (And.intro g0 (And.intro g1 (And.intro g2 (And.intro g3 (And.intro g4 (And.intro g5 (And.intro g6 (And.intro g7 (And.intro g8 (And.intro g9 (And.intro g12 (And.intro g10 (And.intro c7_6 (And.intro c8_6 (And.intro c11_6 (c11_10))))))))))))))))
            clear ho hd hz hi hlt hb hbs g0 g1 g2 g3 g4 g5 g6 g7 g8 g9 g12 g10 c7_6 c8_6 c11_6 c11_10
            go_wp2_with fail
            obtain ⟨g0, g1, g2, g3, g4, g5, g6, g7, g8, g9, g12, g10, c7_6, c8_6, c11_6, c11_10⟩ := GG.out
            have hi := HI.out
            exact ⟨_, x14, x15, x16, x17, x18, x19, x12, x20, x21, x7, x8, _, rfl, HB.out, HS.out, fun _ => rfl, fun h => g1 ((got_ne (by decide)).symm.trans h), fun h => g2 ((got_ne (by decide)).symm.trans h), fun h => g3 ((got_ne (by decide)).symm.trans h), fun h => g4 ((got_ne (by decide)).symm.trans h), fun h => g5 ((got_ne (by decide)).symm.trans h), fun h => g6 ((got_ne (by decide)).symm.trans h), fun h => g7 ((got_ne (by decide)).symm.trans h), fun h => g8 ((got_ne (by decide)).symm.trans h), fun h => g9 ((got_ne (by decide)).symm.trans h), fun h => g12 ((got_ne (by decide)).symm.trans h), fun h => by obtain ⟨gb, e, le, D, hD, q⟩ := g10 ((got_ne (by decide)).symm.trans h); exact ⟨gb, e, le, D, hD, fun h => q ((got_ne (by decide)).symm.trans h)⟩, fun h => (got_ne (by decide)).trans (c7_6 ((got_ne (by decide)).symm.trans h)), fun h => (got_ne (by decide)).trans (c8_6 ((got_ne (by decide)).symm.trans h)), fun h => (got_ne (by decide)).trans (c11_6 ((got_ne (by decide)).symm.trans h)), fun h => (got_ne (by decide)).trans (c11_10 ((got_ne (by decide)).symm.trans h))⟩
          · obtain rfl := Option.some.inj ho
            obtain rfl := g0 (hd { on := 0, ground := .data } (by simp) rfl)
            have HB := hid hb; have HS := hid hbs; have HI := hid hi
            have GG := hid (And.intro g0 (And.intro g1 (And.intro g2 (And.intro g3 (And.intro g4 (And.intro g5 (And.intro g6 (And.intro g7 (And.intro g8 (And.intro g9 (And.intro g12 (And.intro g10 (And.intro c7_6 (And.intro c8_6 (And.intro c11_6 (c11_10))))))))))))))))
            clear ho hd hz hi hlt hb hbs g0 g1 g2 g3 g4 g5 g6 g7 g8 g9 g12 g10 c7_6 c8_6 c11_6 c11_10
            go_wp2_with (go_at_call 95; refine (CB.out _).mono ?_; rintro e w6 ⟨rfl, hb6⟩; have H6 := hid hb6; clear hb6)
            obtain ⟨g0, g1, g2, g3, g4, g5, g6, g7, g8, g9, g12, g10, c7_6, c8_6, c11_6, c11_10⟩ := GG.out
            have hi := HI.out
            exact ⟨_, _, x15, x16, x17, x18, x19, x12, x20, x21, x7, x8, _, rfl, bt HB.out H6.out, Nat.le_trans HS.out H6.out.size, fun _ => rfl, fun _ => rfl, fun h => g2 ((got_ne (by decide)).symm.trans h), fun h => g3 ((got_ne (by decide)).symm.trans h), fun h => g4 ((got_ne (by decide)).symm.trans h), fun h => g5 ((got_ne (by decide)).symm.trans h), fun h => g6 ((got_ne (by decide)).symm.trans h), fun h => g7 ((got_ne (by decide)).symm.trans h), fun h => g8 ((got_ne (by decide)).symm.trans h), fun h => g9 ((got_ne (by decide)).symm.trans h), fun h => g12 ((got_ne (by decide)).symm.trans h), fun h => by obtain ⟨gb, e, le, D, hD, q⟩ := g10 ((got_ne (by decide)).symm.trans h); exact ⟨gb, e, le, D, hD.below H6.out, fun h => q ((got_ne (by decide)).symm.trans h)⟩, fun h => (got_ne (by decide)).trans (c7_6 ((got_ne (by decide)).symm.trans h)), fun h => (got_ne (by decide)).trans (c8_6 ((got_ne (by decide)).symm.trans h)), fun h => (got_ne (by decide)).trans (c11_6 ((got_ne (by decide)).symm.trans h)), fun h => (got_ne (by decide)).trans (c11_10 ((got_ne (by decide)).symm.trans h))⟩
          · obtain rfl := Option.some.inj ho
            have HB := hid hb; have HS := hid hbs; have HI := hid hi
            have GG := hid (And.intro g0 (And.intro g1 (And.intro g2 (And.intro g3 (And.intro g4 (And.intro g5 (And.intro g6 (And.intro g7 (And.intro g8 (And.intro g9 (And.intro g12 (And.intro g10 (And.intro c7_6 (And.intro c8_6 (And.intro c11_6 (c11_10))))))))))))))))
            clear ho hd hz hi hlt hb hbs g0 g1 g2 g3 g4 g5 g6 g7 g8 g9 g12 g10 c7_6 c8_6 c11_6 c11_10
            go_wp2_with fail
            obtain ⟨g0, g1, g2, g3, g4, g5, g6, g7, g8, g9, g12, g10, c7_6, c8_6, c11_6, c11_10⟩ := GG.out
            have hi := HI.out
            exact ⟨x13, x14, _, x16, x17, x18, x19, x12, x20, x21, x7, x8, _, rfl, HB.out, HS.out, fun h => g0 ((got_ne (by decide)).symm.trans h), fun h => g1 ((got_ne (by decide)).symm.trans h), fun _ => rfl, fun h => g3 ((got_ne (by decide)).symm.trans h), fun h => g4 ((got_ne (by decide)).symm.trans h), fun h => g5 ((got_ne (by decide)).symm.trans h), fun h => g6 ((got_ne (by decide)).symm.trans h), fun h => g7 ((got_ne (by decide)).symm.trans h), fun h => g8 ((got_ne (by decide)).symm.trans h), fun h => g9 ((got_ne (by decide)).symm.trans h), fun h => g12 ((got_ne (by decide)).symm.trans h), fun h => by obtain ⟨gb, e, le, D, hD, q⟩ := g10 ((got_ne (by decide)).symm.trans h); exact ⟨gb, e, le, D, hD, fun h => q ((got_ne (by decide)).symm.trans h)⟩, fun h => (got_ne (by decide)).trans (c7_6 ((got_ne (by decide)).symm.trans h)), fun h => (got_ne (by decide)).trans (c8_6 ((got_ne (by decide)).symm.trans h)), fun h => (got_ne (by decide)).trans (c11_6 ((got_ne (by decide)).symm.trans h)), fun h => (got_ne (by decide)).trans (c11_10 ((got_ne (by decide)).symm.trans h))⟩
          · obtain rfl := Option.some.inj ho
            have HB := hid hb; have HS := hid hbs; have HI := hid hi
            have GG := hid (And.intro g0 (And.intro g1 (And.intro g2 (And.intro g3 (And.intro g4 (And.intro g5 (And.intro g6 (And.intro g7 (And.intro g8 (And.intro g9 (And.intro g12 (And.intro g10 (And.intro c7_6 (And.intro c8_6 (And.intro c11_6 (c11_10))))))))))))))))
            clear ho hd hz hi hlt hb hbs g0 g1 g2 g3 g4 g5 g6 g7 g8 g9 g12 g10 c7_6 c8_6 c11_6 c11_10
            go_wp2_with fail
            obtain ⟨g0, g1, g2, g3, g4, g5, g6, g7, g8, g9, g12, g10, c7_6, c8_6, c11_6, c11_10⟩ := GG.out
            have hi := HI.out
            exact ⟨x13, x14, x15, _, x17, x18, x19, x12, x20, x21, x7, x8, _, rfl, HB.out, HS.out, fun h => g0 ((got_ne (by decide)).symm.trans h), fun h => g1 ((got_ne (by decide)).symm.trans h), fun h => g2 ((got_ne (by decide)).symm.trans h), fun _ => rfl, fun h => g4 ((got_ne (by decide)).symm.trans h), fun h => g5 ((got_ne (by decide)).symm.trans h), fun h => g6 ((got_ne (by decide)).symm.trans h), fun h => g7 ((got_ne (by decide)).symm.trans h), fun h => g8 ((got_ne (by decide)).symm.trans h), fun h => g9 ((got_ne (by decide)).symm.trans h), fun h => g12 ((got_ne (by decide)).symm.trans h), fun h => by obtain ⟨gb, e, le, D, hD, q⟩ := g10 ((got_ne (by decide)).symm.trans h); exact ⟨gb, e, le, D, hD, fun h => q ((got_ne (by decide)).symm.trans h)⟩, fun h => (got_ne (by decide)).trans (c7_6 ((got_ne (by decide)).symm.trans h)), fun h => (got_ne (by decide)).trans (c8_6 ((got_ne (by decide)).symm.trans h)), fun h => (got_ne (by decide)).trans (c11_6 ((got_ne (by decide)).symm.trans h)), fun h => (got_ne (by decide)).trans (c11_10 ((got_ne (by decide)).symm.trans h))⟩
          · obtain rfl := Option.some.inj ho
            obtain rfl := g2 (hd { on := 2, ground := .data } (by simp) rfl)
            obtain rfl := g3 (hd { on := 3, ground := .data } (by simp) rfl)
            have HB := hid hb; have HS := hid hbs; have HI := hid hi
            have GG := hid (And.intro g0 (And.intro g1 (And.intro g2 (And.intro g3 (And.intro g4 (And.intro g5 (And.intro g6 (And.intro g7 (And.intro g8 (And.intro g9 (And.intro g12 (And.intro g10 (And.intro c7_6 (And.intro c8_6 (And.intro c11_6 (c11_10))))))))))))))))
            clear ho hd hz hi hlt hb hbs g0 g1 g2 g3 g4 g5 g6 g7 g8 g9 g12 g10 c7_6 c8_6 c11_6 c11_10
            go_wp2_with fail
            obtain ⟨g0, g1, g2, g3, g4, g5, g6, g7, g8, g9, g12, g10, c7_6, c8_6, c11_6, c11_10⟩ := GG.out
            have hi := HI.out
            exact ⟨x13, x14, _, _, _, x18, x19, x12, x20, x21, x7, x8, _, rfl, HB.out, HS.out, fun h => g0 ((got_ne (by decide)).symm.trans h), fun h => g1 ((got_ne (by decide)).symm.trans h), fun _ => rfl, fun _ => rfl, fun _ => rfl, fun h => g5 ((got_ne (by decide)).symm.trans h), fun h => g6 ((got_ne (by decide)).symm.trans h), fun h => g7 ((got_ne (by decide)).symm.trans h), fun h => g8 ((got_ne (by decide)).symm.trans h), fun h => g9 ((got_ne (by decide)).symm.trans h), fun h => g12 ((got_ne (by decide)).symm.trans h), fun h => by obtain ⟨gb, e, le, D, hD, q⟩ := g10 ((got_ne (by decide)).symm.trans h); exact ⟨gb, e, le, D, hD, fun h => q ((got_ne (by decide)).symm.trans h)⟩, fun h => (got_ne (by decide)).trans (c7_6 ((got_ne (by decide)).symm.trans h)), fun h => (got_ne (by decide)).trans (c8_6 ((got_ne (by decide)).symm.trans h)), fun h => (got_ne (by decide)).trans (c11_6 ((got_ne (by decide)).symm.trans h)), fun h => (got_ne (by decide)).trans (c11_10 ((got_ne (by decide)).symm.trans h))⟩
          · obtain rfl := Option.some.inj ho
            obtain rfl := g4 (hd { on := 4, ground := .data } (by simp) rfl)
            have HB := hid hb; have HS := hid hbs; have HI := hid hi
            have GG := hid (And.intro g0 (And.intro g1 (And.intro g2 (And.intro g3 (And.intro g4 (And.intro g5 (And.intro g6 (And.intro g7 (And.intro g8 (And.intro g9 (And.intro g12 (And.intro g10 (And.intro c7_6 (And.intro c8_6 (And.intro c11_6 (c11_10))))))))))))))))
            clear ho hd hz hi hlt hb hbs g0 g1 g2 g3 g4 g5 g6 g7 g8 g9 g12 g10 c7_6 c8_6 c11_6 c11_10
            have hcell := (KP.out.below HB.out).cell k
            rw [scells_get HKL.out] at hcell
            go_wp2_with fail
            obtain ⟨g0, g1, g2, g3, g4, g5, g6, g7, g8, g9, g12, g10, c7_6, c8_6, c11_6, c11_10⟩ := GG.out
            have hi := HI.out
            exact ⟨x13, x14, x15, x16, _, _, x19, x12, x20, x21, x7, x8, _, rfl, HB.out, HS.out, fun h => g0 ((got_ne (by decide)).symm.trans h), fun h => g1 ((got_ne (by decide)).symm.trans h), fun h => g2 ((got_ne (by decide)).symm.trans h), fun h => g3 ((got_ne (by decide)).symm.trans h), fun _ => rfl, fun _ => rfl, fun h => g6 ((got_ne (by decide)).symm.trans h), fun h => g7 ((got_ne (by decide)).symm.trans h), fun h => g8 ((got_ne (by decide)).symm.trans h), fun h => g9 ((got_ne (by decide)).symm.trans h), fun h => g12 ((got_ne (by decide)).symm.trans h), fun h => by obtain ⟨gb, e, le, D, hD, q⟩ := g10 ((got_ne (by decide)).symm.trans h); exact ⟨gb, e, le, D, hD, fun h => q ((got_ne (by decide)).symm.trans h)⟩, fun h => (got_ne (by decide)).trans (c7_6 ((got_ne (by decide)).symm.trans h)), fun h => (got_ne (by decide)).trans (c8_6 ((got_ne (by decide)).symm.trans h)), fun h => (got_ne (by decide)).trans (c11_6 ((got_ne (by decide)).symm.trans h)), fun h => (got_ne (by decide)).trans (c11_10 ((got_ne (by decide)).symm.trans h))⟩
          · obtain rfl := Option.some.inj ho
            obtain rfl := g1 (hd { on := 1, ground := .data } (by simp) rfl)
            obtain rfl := g5 (hd { on := 5, ground := .data } (by simp) rfl)
            have HB := hid hb; have HS := hid hbs; have HI := hid hi
            have GG := hid (And.intro g0 (And.intro g1 (And.intro g2 (And.intro g3 (And.intro g4 (And.intro g5 (And.intro g6 (And.intro g7 (And.intro g8 (And.intro g9 (And.intro g12 (And.intro g10 (And.intro c7_6 (And.intro c8_6 (And.intro c11_6 (c11_10))))))))))))))))
            clear ho hd hz hi hlt hb hbs g0 g1 g2 g3 g4 g5 g6 g7 g8 g9 g12 g10 c7_6 c8_6 c11_6 c11_10
            go_wp2_with (go_at_call 94; refine (CF.out _).mono ?_; rintro e w6 ⟨⟨F6, rfl⟩, hb6⟩; have H6 := hid hb6; clear hb6)
            obtain ⟨g0, g1, g2, g3, g4, g5, g6, g7, g8, g9, g12, g10, c7_6, c8_6, c11_6, c11_10⟩ := GG.out
            have hi := HI.out
            exact ⟨x13, _, x15, x16, x17, _, _, x12, x20, x21, x7, x8, F6, rfl, bt HB.out H6.out, Nat.le_trans HS.out H6.out.size, fun h => g0 ((got_ne (by decide)).symm.trans h), fun _ => rfl, fun h => g2 ((got_ne (by decide)).symm.trans h), fun h => g3 ((got_ne (by decide)).symm.trans h), fun h => g4 ((got_ne (by decide)).symm.trans h), fun _ => rfl, fun _ => rfl, fun h => (gotNot hi (c7_6 ((got_ne (by decide)).symm.trans h))).elim, fun h => (gotNot hi (c8_6 ((got_ne (by decide)).symm.trans h))).elim, fun h => g9 ((got_ne (by decide)).symm.trans h), fun h => g12 ((got_ne (by decide)).symm.trans h), fun h => by obtain ⟨gb, e, le, D, hD, _⟩ := g10 ((got_ne (by decide)).symm.trans h); exact ⟨gb, e, le, D, hD.below H6.out, fun h => (gotNot hi (c11_6 ((got_ne (by decide)).symm.trans h))).elim⟩, fun _ => gotNew hi, fun _ => gotNew hi, fun _ => gotNew hi, fun h => (got_ne (by decide)).trans (c11_10 ((got_ne (by decide)).symm.trans h))⟩
          · obtain rfl := Option.some.inj ho
            obtain rfl := g6 (hd { on := 6, ground := .data } (by simp) rfl)
            have d6 := hid (hd { on := 6, ground := .data } (by simp) rfl)
            have HB := hid hb; have HS := hid hbs; have HI := hid hi
            have GG := hid (And.intro g0 (And.intro g1 (And.intro g2 (And.intro g3 (And.intro g4 (And.intro g5 (And.intro g6 (And.intro g7 (And.intro g8 (And.intro g9 (And.intro g12 (And.intro g10 (And.intro c7_6 (And.intro c8_6 (And.intro c11_6 (c11_10))))))))))))))))
            clear ho hd hz hi hlt hb hbs g0 g1 g2 g3 g4 g5 g6 g7 g8 g9 g12 g10 c7_6 c8_6 c11_6 c11_10
            go_wp2_with fail
            obtain ⟨g0, g1, g2, g3, g4, g5, g6, g7, g8, g9, g12, g10, c7_6, c8_6, c11_6, c11_10⟩ := GG.out
            have hi := HI.out
            exact ⟨x13, x14, x15, x16, x17, x18, _, _, x20, x21, x7, x8, _, rfl, HB.out, HS.out, fun h => g0 ((got_ne (by decide)).symm.trans h), fun h => g1 ((got_ne (by decide)).symm.trans h), fun h => g2 ((got_ne (by decide)).symm.trans h), fun h => g3 ((got_ne (by decide)).symm.trans h), fun h => g4 ((got_ne (by decide)).symm.trans h), fun h => g5 ((got_ne (by decide)).symm.trans h), fun _ => rfl, fun _ => rfl, fun h => g8 ((got_ne (by decide)).symm.trans h), fun h => g9 ((got_ne (by decide)).symm.trans h), fun h => g12 ((got_ne (by decide)).symm.trans h), fun h => by obtain ⟨gb, e, le, D, hD, q⟩ := g10 ((got_ne (by decide)).symm.trans h); exact ⟨gb, e, le, D, hD, fun h => q ((got_ne (by decide)).symm.trans h)⟩, fun _ => (got_ne (by decide)).trans d6.out, fun h => (got_ne (by decide)).trans (c8_6 ((got_ne (by decide)).symm.trans h)), fun h => (got_ne (by decide)).trans (c11_6 ((got_ne (by decide)).symm.trans h)), fun h => (got_ne (by decide)).trans (c11_10 ((got_ne (by decide)).symm.trans h))⟩
          · obtain rfl := Option.some.inj ho
            obtain rfl := g7 (hd { on := 7, ground := .data } (by simp) rfl)
            have d6 := hid (c7_6 (hd { on := 7, ground := .data } (by simp) rfl))
            have HB := hid hb; have HS := hid hbs; have HI := hid hi
            have GG := hid (And.intro g0 (And.intro g1 (And.intro g2 (And.intro g3 (And.intro g4 (And.intro g5 (And.intro g6 (And.intro g7 (And.intro g8 (And.intro g9 (And.intro g12 (And.intro g10 (And.intro c7_6 (And.intro c8_6 (And.intro c11_6 (c11_10))))))))))))))))
            clear ho hd hz hi hlt hb hbs g0 g1 g2 g3 g4 g5 g6 g7 g8 g9 g12 g10 c7_6 c8_6 c11_6 c11_10
            go_wp2_with fail
            obtain ⟨g0, g1, g2, g3, g4, g5, g6, g7, g8, g9, g12, g10, c7_6, c8_6, c11_6, c11_10⟩ := GG.out
            have hi := HI.out
            exact ⟨x13, x14, x15, x16, x17, x18, x19, _, _, x21, x7, x8, _, rfl, HB.out, HS.out, fun h => g0 ((got_ne (by decide)).symm.trans h), fun h => g1 ((got_ne (by decide)).symm.trans h), fun h => g2 ((got_ne (by decide)).symm.trans h), fun h => g3 ((got_ne (by decide)).symm.trans h), fun h => g4 ((got_ne (by decide)).symm.trans h), fun h => g5 ((got_ne (by decide)).symm.trans h), fun h => g6 ((got_ne (by decide)).symm.trans h), fun _ => rfl, fun _ => rfl, fun h => g9 ((got_ne (by decide)).symm.trans h), fun h => g12 ((got_ne (by decide)).symm.trans h), fun h => by obtain ⟨gb, e, le, D, hD, q⟩ := g10 ((got_ne (by decide)).symm.trans h); exact ⟨gb, e, le, D, hD, fun h => q ((got_ne (by decide)).symm.trans h)⟩, fun h => (got_ne (by decide)).trans (c7_6 ((got_ne (by decide)).symm.trans h)), fun _ => (got_ne (by decide)).trans d6.out, fun h => (got_ne (by decide)).trans (c11_6 ((got_ne (by decide)).symm.trans h)), fun h => (got_ne (by decide)).trans (c11_10 ((got_ne (by decide)).symm.trans h))⟩
          · obtain rfl := Option.some.inj ho
            obtain rfl := g7 (hd { on := 7, ground := .data } (by simp) rfl)
            have HB := hid hb; have HS := hid hbs; have HI := hid hi
            have GG := hid (And.intro g0 (And.intro g1 (And.intro g2 (And.intro g3 (And.intro g4 (And.intro g5 (And.intro g6 (And.intro g7 (And.intro g8 (And.intro g9 (And.intro g12 (And.intro g10 (And.intro c7_6 (And.intro c8_6 (And.intro c11_6 (c11_10))))))))))))))))
            clear ho hd hz hi hlt hb hbs g0 g1 g2 g3 g4 g5 g6 g7 g8 g9 g12 g10 c7_6 c8_6 c11_6 c11_10
            go_wp2_with fail
            obtain ⟨g0, g1, g2, g3, g4, g5, g6, g7, g8, g9, g12, g10, c7_6, c8_6, c11_6, c11_10⟩ := GG.out
            have hi := HI.out
            exact ⟨x13, x14, x15, x16, x17, x18, x19, _, x20, _, x7, x8, _, rfl, HB.out, HS.out, fun h => g0 ((got_ne (by decide)).symm.trans h), fun h => g1 ((got_ne (by decide)).symm.trans h), fun h => g2 ((got_ne (by decide)).symm.trans h), fun h => g3 ((got_ne (by decide)).symm.trans h), fun h => g4 ((got_ne (by decide)).symm.trans h), fun h => g5 ((got_ne (by decide)).symm.trans h), fun h => g6 ((got_ne (by decide)).symm.trans h), fun _ => rfl, fun h => g8 ((got_ne (by decide)).symm.trans h), fun _ => rfl, fun h => g12 ((got_ne (by decide)).symm.trans h), fun h => by obtain ⟨gb, e, le, D, hD, q⟩ := g10 ((got_ne (by decide)).symm.trans h); exact ⟨gb, e, le, D, hD, fun h => q ((got_ne (by decide)).symm.trans h)⟩, fun h => (got_ne (by decide)).trans (c7_6 ((got_ne (by decide)).symm.trans h)), fun h => (got_ne (by decide)).trans (c8_6 ((got_ne (by decide)).symm.trans h)), fun h => (got_ne (by decide)).trans (c11_6 ((got_ne (by decide)).symm.trans h)), fun h => (got_ne (by decide)).trans (c11_10 ((got_ne (by decide)).symm.trans h))⟩
          · obtain rfl := Option.some.inj ho
            have HB := hid hb; have HS := hid hbs; have HI := hid hi
            have GG := hid (And.intro g0 (And.intro g1 (And.intro g2 (And.intro g3 (And.intro g4 (And.intro g5 (And.intro g6 (And.intro g7 (And.intro g8 (And.intro g9 (And.intro g12 (And.intro g10 (And.intro c7_6 (And.intro c8_6 (And.intro c11_6 (c11_10))))))))))))))))
            clear ho hd hz hi hlt hb hbs g0 g1 g2 g3 g4 g5 g6 g7 g8 g9 g12 g10 c7_6 c8_6 c11_6 c11_10
            have hz := zero64
            go_wp2_with fail
            clear hz
            obtain ⟨g0, g1, g2, g3, g4, g5, g6, g7, g8, g9, g12, g10, c7_6, c8_6, c11_6, c11_10⟩ := GG.out
            have hi := HI.out
            exact ⟨x13, x14, x15, x16, x17, x18, x19, x12, x20, x21, _, x8, _, rfl, HB.out.alloc HS.out _, by rw [World.size_alloc]; exact Nat.le_succ_of_le HS.out, fun h => g0 ((got_ne (by decide)).symm.trans h), fun h => g1 ((got_ne (by decide)).symm.trans h), fun h => g2 ((got_ne (by decide)).symm.trans h), fun h => g3 ((got_ne (by decide)).symm.trans h), fun h => g4 ((got_ne (by decide)).symm.trans h), fun h => g5 ((got_ne (by decide)).symm.trans h), fun h => g6 ((got_ne (by decide)).symm.trans h), fun h => g7 ((got_ne (by decide)).symm.trans h), fun h => g8 ((got_ne (by decide)).symm.trans h), fun h => g9 ((got_ne (by decide)).symm.trans h), fun h => g12 ((got_ne (by decide)).symm.trans h), fun _ => ⟨wr.heap.size, rfl, HS.out, noF, Blk.new wr _ _, fun h => (gotNot hi (c11_10 ((got_ne (by decide)).symm.trans h))).elim⟩, fun h => (got_ne (by decide)).trans (c7_6 ((got_ne (by decide)).symm.trans h)), fun h => (got_ne (by decide)).trans (c8_6 ((got_ne (by decide)).symm.trans h)), fun h => (got_ne (by decide)).trans (c11_6 ((got_ne (by decide)).symm.trans h)), fun _ => gotNew hi⟩
          · obtain rfl := Option.some.inj ho
            obtain rfl := g8 (hd { on := 8, ground := .data } (by simp) rfl)
            have d6 := hid (c8_6 (hd { on := 8, ground := .data } (by simp) rfl))
            have d10 := hid (hd { on := 10, ground := .data } (by simp) rfl)
            obtain ⟨gb, rfl, le, D, hD, _⟩ := g10 d10.out
            have HD := hid hD; have LE := hid le
            clear hD le
            have HB := hid hb; have HS := hid hbs; have HI := hid hi
            have GG := hid (And.intro g0 (And.intro g1 (And.intro g2 (And.intro g3 (And.intro g4 (And.intro g5 (And.intro g6 (And.intro g7 (And.intro g8 (And.intro g9 (And.intro g12 (And.intro g10 (And.intro c7_6 (And.intro c8_6 (And.intro c11_6 (c11_10))))))))))))))))
            clear ho hd hz hi hlt hb hbs g0 g1 g2 g3 g4 g5 g6 g7 g8 g9 g12 g10 c7_6 c8_6 c11_6 c11_10
            have TT := hid (HD.out.there_b (o := 0) (m := 64) (Nat.le_refl 64))
            have SB := hid (full_store (G := F) HD.out)
            have B9 := hid (below_setCells LE.out (bcells 64 F).toList 0 _ HB.out)
            have SZ := hid (show (wr.setCells gb 0 (bcells 64 F).toList).heap.size = wr.heap.size from size_setCells _ _ _ _)
            refine wpList_store_mid rfl 40 (.tmp 7) (.tmp 20) rfl gb 0 (bcells 64 F) rfl rfl (by rw [bcells_size]; exact TT.out) (N.out _) bcells_one ?_
            generalize wr.setCells gb 0 (bcells 64 F).toList = w9 at SB B9 SZ ⊢
            refine wpList_nil ?_
            obtain ⟨g0, g1, g2, g3, g4, g5, g6, g7, g8, g9, g12, g10, c7_6, c8_6, c11_6, c11_10⟩ := GG.out
            have hi := HI.out
            exact ⟨x13, x14, x15, x16, x17, x18, x19, x12, _, x21, _, x8, _, rfl, B9.out, by rw [SZ.out]; exact HS.out, fun h => g0 ((got_ne (by decide)).symm.trans h), fun h => g1 ((got_ne (by decide)).symm.trans h), fun h => g2 ((got_ne (by decide)).symm.trans h), fun h => g3 ((got_ne (by decide)).symm.trans h), fun h => g4 ((got_ne (by decide)).symm.trans h), fun h => g5 ((got_ne (by decide)).symm.trans h), fun h => g6 ((got_ne (by decide)).symm.trans h), fun h => g7 ((got_ne (by decide)).symm.trans h), fun _ => rfl, fun h => g9 ((got_ne (by decide)).symm.trans h), fun h => g12 ((got_ne (by decide)).symm.trans h), fun _ => ⟨gb, rfl, LE.out, F, SB.out, fun _ => rfl⟩, fun h => (got_ne (by decide)).trans (c7_6 ((got_ne (by decide)).symm.trans h)), fun h => (got_ne (by decide)).trans (c8_6 ((got_ne (by decide)).symm.trans h)), fun _ => (got_ne (by decide)).trans d6.out, fun _ => (got_ne (by decide)).trans d10.out⟩
          · obtain rfl := Option.some.inj ho
            obtain rfl := g9 (hd { on := 9, ground := .data } (by simp) rfl)
            have HB := hid hb; have HS := hid hbs; have HI := hid hi
            have GG := hid (And.intro g0 (And.intro g1 (And.intro g2 (And.intro g3 (And.intro g4 (And.intro g5 (And.intro g6 (And.intro g7 (And.intro g8 (And.intro g9 (And.intro g12 (And.intro g10 (And.intro c7_6 (And.intro c8_6 (And.intro c11_6 (c11_10))))))))))))))))
            clear ho hd hz hi hlt hb hbs g0 g1 g2 g3 g4 g5 g6 g7 g8 g9 g12 g10 c7_6 c8_6 c11_6 c11_10
            go_wp2_with fail
            obtain ⟨g0, g1, g2, g3, g4, g5, g6, g7, g8, g9, g12, g10, c7_6, c8_6, c11_6, c11_10⟩ := GG.out
            have hi := HI.out
            exact ⟨x13, x14, x15, x16, x17, x18, x19, x12, x20, _, x7, _, _, rfl, HB.out, HS.out, fun h => g0 ((got_ne (by decide)).symm.trans h), fun h => g1 ((got_ne (by decide)).symm.trans h), fun h => g2 ((got_ne (by decide)).symm.trans h), fun h => g3 ((got_ne (by decide)).symm.trans h), fun h => g4 ((got_ne (by decide)).symm.trans h), fun h => g5 ((got_ne (by decide)).symm.trans h), fun h => g6 ((got_ne (by decide)).symm.trans h), fun h => g7 ((got_ne (by decide)).symm.trans h), fun h => g8 ((got_ne (by decide)).symm.trans h), fun _ => rfl, fun _ => rfl, fun h => by obtain ⟨gb, e, le, D, hD, q⟩ := g10 ((got_ne (by decide)).symm.trans h); exact ⟨gb, e, le, D, hD, fun h => q ((got_ne (by decide)).symm.trans h)⟩, fun h => (got_ne (by decide)).trans (c7_6 ((got_ne (by decide)).symm.trans h)), fun h => (got_ne (by decide)).trans (c8_6 ((got_ne (by decide)).symm.trans h)), fun h => (got_ne (by decide)).trans (c11_6 ((got_ne (by decide)).symm.trans h)), fun h => (got_ne (by decide)).trans (c11_10 ((got_ne (by decide)).symm.trans h))⟩
        · rintro got a' wr ⟨x13, x14, x15, x16, x17, x18, x19, x12, x20, x21, x7, x8, F, rfl, hb, hbs, g0, g1, g2, g3, g4, g5, g6, g7, g8, g9, g12, g10, c7_6, c8_6, c11_6, c11_10⟩ hall
          have h10 := hall 10 (by decide)
          have h12 := hall 12 (by decide)
          obtain ⟨gq, rfl, le7, D, hD, _⟩ := g10 h10
          obtain rfl := g12 h12
          have HV := hid hD
          have HB := hid hb
          have LE := hid le7
          clear hb hbs hall hD le7 h10 h12 g0 g1 g2 g3 g4 g5 g6 g7 g8 g9 g12 g10 c7_6 c8_6 c11_6 c11_10
          dsimp only
          go_wp2_with fail
          go_meet
          exact ⟨gq, D, rfl, rfl, HV.out, LE.out, HB.out⟩
      case rest =>
        obtain ⟨gq, D, rfl, rfl, hbk, hle, hbw⟩ := hcut
        have Q1 := hid hbk
        have R1 := hid (KR.out.below hbw)
        have S1 := hid (KS.out.below hbw)
        have B1 := hid (bt KB.out hbw)
        have LQ := hid hle
        clear hbk hle hbw KR KS KB KP CB CF
        have QL := hid (fun (d : Nat) (os : Array Obj) => (blk_gr Q1.out d os).range0)
        have CWG := hid (fun (d : Nat) (os : Array Obj) => Calls.regrown_of ((CW.out (Go.Sort.grow (redrawn wc d) os)).mono fun e w' h => And.intro h.1 (h.2 ▸ Below.refl _ _)))
        go_upto_region 7 with fail
        refine wp_region_tail_below 6 (by kernel_rfl) (by kernel_rfl) ?_
        show wpQuiet _ _ _ _ [_, _, _, _, _, _] _
        repeat (first
          | (refine wpQuiet_load rfl 40 (.tmp 7) rfl gq 0 rfl (bcells 64 D).toList _ (fun w' hw' => by obtain ⟨⟨dq, osq⟩, hw''⟩ := hw'; subst hw''; exact QL.out dq osq) US.out rfl (NL.out _) ?_; simp only [Act.put, List.setIfInBounds_toArray, List.set_cons_succ, List.set_cons_zero, Array.toArray_toList])
          | go_big_quiet_step ((first | (go_at_call 60; exact CWG.out _ _) | fail)))
        refine wpQuiet_nil ?_
        intro _ hw'
        obtain ⟨⟨dq, osq⟩, hw''⟩ := hw'
        subst hw''
        have R2 := hid (blk_gr R1.out dq osq)
        have S2 := hid (blk_gr S1.out dq osq)
        have B2 := hid (bt B1.out (below_regrown wc dq osq))
        have TT := hid (S2.out.there_b (o := k * 64) (m := 64) (by omega))
        have NE := hid (show w.heap.size ≠ w.heap.size + 1 ∧ w.heap.size ≤ w.heap.size + 1 by omega)
        clear R1 S1 B1 Q1 QL CWG
        generalize Go.Sort.grow (redrawn wc dq) osq = w2 at R2 S2 B2 TT ⊢
        show wpList _ _ _ [_, _] _ _
        refine wpList_store_mid (op := ⟨none, .store 40 (.tmp 27) (.tmp 23), _, _, _, _⟩) rfl 40 (.tmp 27) (.tmp 23) rfl (w.heap.size + 1) (k * 64) (bcells 64 D) rfl rfl (by rw [bcells_size]; exact TT.out) (N.out _) bcells_one ?_
        have S3 := hid (S2.out.putm_b (o := k * 64) (m := 64) (h := D) (by have := HKL.out; omega))
        have R3 := hid (Blk.setCells_other (h := w.heap.size + 1) NE.out.1 (bcells 64 D).toList (k * 64) _ R2.out)
        have B3 := hid (below_setCells (g := w.heap.size + 1) NE.out.2 (bcells 64 D).toList (k * 64) _ B2.out)
        generalize w2.setCells (w.heap.size + 1) (k * 64) (bcells 64 D).toList = w3 at S3 R3 B3 ⊢
        clear R2 S2 B2 TT
        go_wp2_with fail
        go_roundw
        case rel => exact ⟨k + 1, by go_num, by omega, by rw [HN.out], R3, hid ⟨_, S3.out⟩, B3⟩
        case measure => simp [intOf]; omega
    · obtain rfl : k = 6 := by omega
      have c1 : ¬ (((6 : Nat) : Int) < 6) := by omega
      obtain ⟨V, hV⟩ : ∃ V, sixV f 6 = V := ⟨_, rfl⟩
      rw [hV]
      have HV := hid hV
      have U384 := hid (Tryz.underlying42)
      have N384 := hid (show ∀ f : Nat → Bool, (Tryz.prog.info? 42).map (·.size) = some (bcells 384 f).size from fun f => by rw [bcells_size]; kernel_rfl)
      have NL384 := hid (show ∀ f : Nat → Bool, (Tryz.prog.info? 42).map (·.size) = some (bcells 384 f).toList.length from fun f => by rw [bcells_len]; kernel_rfl)
      have TR := hid (KR.out.there_b (o := 0) (m := 384) (Nat.le_refl 384))
      have LS := hid KS.out.range0
      clear hV
      by_cases h1 : V = 1
      · subst h1
        go_wp2_with (first
          | (refine wpList_load_mid rfl 42 (.tmp 4) rfl (w.heap.size + 1) 0 rfl (bcells 384 G).toList _ LS.out U384.out rfl (NL384.out _) ?_)
          | (refine wpList_store_mid rfl 42 (.tmp 2) (.tmp 33) rfl w.heap.size 0 (bcells 384 G) rfl rfl (by rw [bcells_size]; exact TR.out) (N384.out _) bcells_one ?_
             have Z7 := hid (all_store (G := G) KR.out)
             have B7 := hid (below_setCells (g := w.heap.size) (Nat.le_refl _) (bcells 384 G).toList 0 _ KB.out)
             generalize wo.setCells w.heap.size 0 (bcells 384 G).toList = w7 at Z7 B7 ⊢))
        exact bodyPost_ret (results_row_tmp rfl _ _ w.heap.size 42 _ (0, 0) _ rfl Z7.out Tryz.underlying42 rfl (by rw [bcells_size]; kernel_rfl)) rfl ⟨⟨G, by rw [HV.out]; rfl⟩, B7.out⟩
      · have e1 : ((V : Int) != 1) = true := by rw [bne_iff_ne]; omega
        clear h1
        go_wp2_with (first
          | (refine wpList_buildTo rfl 42 #[] rfl (some 31) rfl (bcells 384 noF) built384 ?_)
          | (refine wpList_store_mid rfl 42 (.tmp 2) (.tmp 31) rfl w.heap.size 0 (bcells 384 noF) rfl rfl (by rw [bcells_size]; exact TR.out) (N384.out _) bcells_one ?_
             have Z7 := hid (all_store (G := noF) KR.out)
             have B7 := hid (below_setCells (g := w.heap.size) (Nat.le_refl _) (bcells 384 noF).toList 0 _ KB.out)
             generalize wo.setCells w.heap.size 0 (bcells 384 noF).toList = w7 at Z7 B7 ⊢))
        exact bodyPost_ret (results_row_tmp rfl _ _ w.heap.size 42 _ (0, 0) _ rfl Z7.out Tryz.underlying42 rfl (by rw [bcells_size]; kernel_rfl)) rfl ⟨⟨noF, by rw [HV.out]; rfl⟩, B7.out⟩
end Go.Proofs.YtomkhhpigpilfaaGreatDoor
