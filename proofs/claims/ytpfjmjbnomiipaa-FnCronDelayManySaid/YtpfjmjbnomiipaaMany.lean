/- The activations of a schedule of a constant delay, as the thin package lists them. Walked. -/
import Derived.Test.YtpfjmjbnomiipaaDelay
import Derived.Test.YtpfjmjbnomiipaaLoc
import Derived.Deep.RegionHeld3
import Derived.Deep.RegionWith
import Derived.Deep.DeepCutAuto
set_option linter.unusedVariables false
set_option linter.unusedSimpArgs false
namespace Go.Proofs.Ytpfjmjbnomiipaa
open Go.RowKit

/-- The cells of the first i activations behind the second s, k apart. -/
def acts (k s : Int) : Nat → List Value
  | 0 => []
  | i + 1 => acts k s i ++ [.int .i64 (s + ((i : Int) + 1) * k), .int .i64 0]

abbrev dcells (d : Int) : Array Value := #[.bool true, .int .i64 d, .int .u64 0, .int .u64 0, .int .u64 0, .int .u64 0, .int .u64 0, .int .u64 0]

theorem cellb {w w' : World} {a : Addr} {v : Value} (h : w.cell? a = some v) (hb : Below w.heap.size w w') : w'.cell? a = some v := (hb.cell (World.block_lt_of_cell? w _ h)).trans h

theorem below_set3 {B : Nat} {w w1 : World} (h : Below B w w1) {g : Nat} (hg : B ≤ g) (x y z : Value) : Below B w (((w1.setCell ⟨g, 0, none⟩ x).setCell ⟨g, 1, none⟩ y).setCell ⟨g, 2, none⟩ z) := below_set (below_set (below_set h hg 0 _) hg 1 _) hg 2 _

theorem own_low_base {w : World} {base b2 size n : Nat} {e : TypeId} {v : Value} {xs : List Value} (h : w.ownsRow base e size v n xs) (hb : b2 ≤ base) : w.ownsRow b2 e size v n xs := by
  refine ⟨h.1, ?_⟩
  rcases h.2 with h0 | ⟨g, cap, cur, h1, h2, h3⟩
  · exact .inl h0
  · exact .inr ⟨g, cap, cur, h1, Nat.le_trans hb h2, h3⟩
theorem own_below {w w' : World} {base size n : Nat} {e : TypeId} {v : Value} {xs : List Value} (h : w.ownsRow base e size v n xs) (hb : Below w.heap.size w w') : w'.ownsRow base e size v n xs := by
  refine ⟨h.1, ?_⟩
  rcases h.2 with h0 | ⟨g, cap, cur, h1, h2, h3, h4⟩
  · exact .inl h0
  · exact .inr ⟨g, cap, cur, h1, h2, (hb.block g (Array.getElem?_eq_some_iff.1 h3).1).trans h3, h4⟩
theorem own_set3 {w : World} {base size n b : Nat} {e : TypeId} {v : Value} {xs : List Value} (h : w.ownsRow base e size v n xs) (hb : b < base) (x y : Int) (p : Option Addr) : (w.setCells b 0 (tcells x y p).toList).ownsRow base e size v n xs :=
  own_other (own_other (own_other h hb 0 _) hb 1 _) hb 2 _

section
variable {P : Program} {ops : Array Oper} {rest : List Oper} {o : Oper} {a : Act} {Q : Exit → Act → World → Prop}
/-- 'append(v, ..)' to a row of the call's own, behind 'at_builtin', elements of whatever size. -/
theorem app_n {W : World} (base : Nat) (hgd : o.guard = none) (s x : Operand) (t e : TypeId) (z : Value) (size bytes : Nat)
    (ho : o.op = .call { callee := .builtin .append, args := #[s, x], argTypes := #[t, t] })
    (ht : P.underlying t = some (.slice e)) (hinfo : (P.info? e).map (fun i => (i.zero, i.size, i.bytes)) = some (some z, size, bytes)) (hz : z.cells.size = size) (hsz : 0 < size)
    (v : Value) (n : Nat) (xs : List Value) (hs : a.eval s = v) (hown : W.ownsRow base e size v n xs)
    (ad : Addr) (m c : Nat) (news : List Value) (hx : a.eval x = .slice (some ad) m c) (hl : news.length = m * size) (hnews : ∀ j u, news[j]? = some u → W.cell? (ad.add j) = some u) (h1 : ∀ u ∈ news, u.oneCell' = true)
    (b1 : n + m ≤ maxLen) (b2 : (n + m) * bytes ≤ 140737488355328) (hbase : base ≤ W.heap.size)
    (h : ∀ v' w', w'.ownsRow base e size v' (n + m) (xs ++ news) → W.grownBy w' v.ownBlock → wpList P ops Q rest (a.put o.dst v') w') : wpList P ops Q (o :: rest) a W := by
  obtain ⟨i0, hi, hzz⟩ := Option.map_eq_some_iff.1 hinfo
  simp only [Prod.mk.injEq] at hzz
  obtain ⟨hz0, hz1, hz2⟩ := hzz
  exact wpList_append_own W hgd s x t ho base e i0 z size bytes ht hi hz0 hz1 hz2 hz hsz v n xs hs hown ad m c news hx hl hnews h1 b1 b2 hbase fun v' w' h2 h3 _ => h v' w' h2 h3
end
theorem info_inst : (Try.prog.info? 23).map (fun i => (i.zero, i.size, i.bytes)) = some (some (.agg (icells 0 0)), 2, 16) := by kernel_rfl

theorem keepS {d s n : Int} {z0 z1 z2 z3 : Value} {b0 b1 b2 : Nat} {t0 t1 t2 : TypeId} {w w' : World} (h0 : Blk w b0 t0 (dcells d)) (h1 : Blk w b1 t1 (icells s n)) (h2 : Blk w b2 t2 #[z0, z1, z2, z3]) (hb : Below w.heap.size w w') :
    w'.cell? ⟨b0, 0, none⟩ = some (.bool true) ∧ w'.cell? ⟨b0, 1, none⟩ = some (.int .i64 d) ∧ w'.cell? ⟨b0, 2, none⟩ = some (.int .u64 0) ∧ w'.cell? ⟨b0, 3, none⟩ = some (.int .u64 0) ∧ w'.cell? ⟨b0, 4, none⟩ = some (.int .u64 0) ∧ w'.cell? ⟨b0, 5, none⟩ = some (.int .u64 0) ∧ w'.cell? ⟨b0, 6, none⟩ = some (.int .u64 0) ∧ w'.cell? ⟨b0, 7, none⟩ = some (.int .u64 0) ∧
    w'.cell? ⟨b1, 0, none⟩ = some (.int .i64 s) ∧ w'.cell? ⟨b1, 1, none⟩ = some (.int .i64 n) ∧ w'.cell? ⟨b2, 0, none⟩ = some z0 ∧ w'.cell? ⟨b2, 1, none⟩ = some z1 ∧ w'.cell? ⟨b2, 2, none⟩ = some z2 ∧ w'.cell? ⟨b2, 3, none⟩ = some z3 := by
  have k0 := h0.below hb
  have k1 := h1.below hb
  have k2 := h2.below hb
  exact ⟨k0.cell 0, k0.cell 1, k0.cell 2, k0.cell 3, k0.cell 4, k0.cell 5, k0.cell 6, k0.cell 7, k1.cell 0, k1.cell 1, k2.cell 0, k2.cell 1, k2.cell 2, k2.cell 3⟩

set_option maxHeartbeats 6400000 in
set_option maxRecDepth 100000 in
theorem many_any (k d s n e : Int) (N : Nat) (o dd h x : Option Addr) (n0 c0 n1 c1 n2 c2 n3 c3 : Nat) (w : World) (hd : k * 1000000000 = d) (hk : 1 ≤ k) (hk2 : k ≤ 2000) (hN : N ≤ 64) (ht : goodT s n) (he : s + 62135596800 = e)
    (hg : goodZ n0 n1 n2 n3) (hO : Sl w o n0 isI) (hD : Sl w dd n1 isB) (hH : Sl w h n2 isI) (hX : Sl w x n3 isI) :
    Calls Try.prog 8 #[.agg (dcells d), .agg (icells s n), .agg (zcells o dd h x n0 c0 n1 c1 n2 c2 n3 c3), .int .i64 N] w fun e' w' => (∃ v, e' = .returned v ∧ w'.ownsRow w.heap.size 23 2 v N (acts k s N)) ∧ Below w.heap.size w w' := by
  obtain ⟨t1, t2, t3, t4⟩ := ht
  have e0 : 0 ≤ e := by omega
  have e1 : e ≤ 315537897599 := by omega
  have s1 : (w.alloc (.cells (dcells d) 36)).heap.size = w.heap.size + 1 := by simp
  have s2 : ((w.alloc (.cells (dcells d) 36)).alloc (.cells (icells s n) 23)).heap.size = w.heap.size + 1 + 1 := by simp
  have B0 : Below w.heap.size w (((w.alloc (.cells (dcells d) 36)).alloc (.cells (icells s n) 23)).alloc (.cells (zcells o dd h x n0 c0 n1 c1 n2 c2 n3 c3) 28)) := by go_grown
  have B := hid B0
  have K4 := hid (((Blk.new w 36 (dcells d)).alloc (.cells (icells s n) 23)).alloc (.cells (zcells o dd h x n0 c0 n1 c1 n2 c2 n3 c3) 28))
  have K5 := hid ((Blk.new (w.alloc (.cells (dcells d) 36)) 23 (icells s n)).alloc (.cells (zcells o dd h x n0 c0 n1 c1 n2 c2 n3 c3) 28))
  have K6 := hid (Blk.new ((w.alloc (.cells (dcells d) 36)).alloc (.cells (icells s n) 23)) 28 (zcells o dd h x n0 c0 n1 c1 n2 c2 n3 c3))
  rw [s1] at K5
  rw [s2] at K6
  have CL := hid (fun (w1 X : World) (h1 : Below w.heap.size w w1) (hb : Below w1.heap.size w1 X) => location_any o dd h x n0 c0 n1 c1 n2 c2 n3 c3 X hg ((hO.below h1).below hb) ((hD.below h1).below hb) ((hH.below h1).below hb) ((hX.below h1).below hb))
  have CM := hid (fun (g : Nat) (b : Bool) (X : World) hl => moment_any s n e g b X hl t3 t4 he e0 (by omega))
  have HE := hid he
  have HT := hid (show goodT s n from ⟨t1, t2, t3, t4⟩)
  have E0 := hid e0
  have E1 := hid e1
  have HK := hid hk
  have HK2 := hid hk2
  have HN := hid hN
  have HD := hid hd
  clear s1 s2 B0 hg hO hD hH hX he t1 t2 t3 t4 e0 e1 hk hk2 hN hd
  go_enter Try.func8, Try.ntmps8
  go_upto_region 2 with fail
  generalize (((w.alloc (.cells (dcells d) 36)).alloc (.cells (icells s n) 23)).alloc (.cells (zcells o dd h x n0 c0 n1 c1 n2 c2 n3 c3) 28)) = w1 at B K4 K5 K6 ⊢
  go_cut [10, 11] (fun iv tv wx => ∃ (g : Nat) (p : Option Addr), iv = .iface 53 (.agg #[.int .i64 d]) ∧ tv = .pointer (some ⟨g, 0, none⟩) ∧ Blk wx g 45 (tcells n e p) ∧ w.heap.size ≤ g ∧ Below w.heap.size w wx)
  case first =>
    go_region_held3 (fun w' => w'.cell? ⟨w.heap.size, 0, none⟩ = some (.bool true) ∧ w'.cell? ⟨w.heap.size, 1, none⟩ = some (.int .i64 d) ∧ w'.cell? ⟨w.heap.size, 2, none⟩ = some (.int .u64 0) ∧ w'.cell? ⟨w.heap.size, 3, none⟩ = some (.int .u64 0) ∧ w'.cell? ⟨w.heap.size, 4, none⟩ = some (.int .u64 0) ∧ w'.cell? ⟨w.heap.size, 5, none⟩ = some (.int .u64 0) ∧ w'.cell? ⟨w.heap.size, 6, none⟩ = some (.int .u64 0) ∧ w'.cell? ⟨w.heap.size, 7, none⟩ = some (.int .u64 0) ∧
      w'.cell? ⟨w.heap.size + 1, 0, none⟩ = some (.int .i64 s) ∧ w'.cell? ⟨w.heap.size + 1, 1, none⟩ = some (.int .i64 n) ∧ w'.cell? ⟨w.heap.size + 1 + 1, 0, none⟩ = some (.slice o n0 c0) ∧ w'.cell? ⟨w.heap.size + 1 + 1, 1, none⟩ = some (.slice dd n1 c1) ∧ w'.cell? ⟨w.heap.size + 1 + 1, 2, none⟩ = some (.slice h n2 c2) ∧ w'.cell? ⟨w.heap.size + 1 + 1, 3, none⟩ = some (.slice x n3 c3))
      ((refine keepS K4.out K5.out K6.out ?_; first | (go_grown; done) | (exact H4.out; done) | (exact H4.out.alloc H4.out.size _; done) | (exact H3.out; done) | (exact H3.out.alloc H3.out.size _; done) | (exact H2.out; done) | (exact H2.out.alloc H2.out.size _; done) | (exact below_set3 H4.out (Nat.le_refl _) _ _ _; done) | (exact below_set3 H4.out H2.out.size _ _ _; done) | (exact below_set3 H4.out H3.out.size _ _ _; done) | (exact below_set3 (H4.out.alloc H4.out.size _) H4.out.size _ _ _; done)))
      (first
        | (go_at_call 11; refine (schedule_any d _).mono ?_; rintro e' w2 ⟨rfl, hb⟩; have H2 := hid (bt (X := w1) (by go_grown) hb); (first | have A := hid (Blk.below (w' := w2) (show Blk (w1.alloc (.cells (tcells 0 0 none) 45)).drew w1.heap.size 45 (tcells 0 0 none) from Blk.new w1 45 _) hb) | skip); clear hb)
        | (go_at_call 13; refine (CL.out w1 _ B.out (by first | exact H2.out | exact H2.out.alloc H2.out.size _)).mono ?_; rintro e' w3 ⟨⟨g, b, rfl, hl⟩, hb⟩; have H3 := hid (bt (X := w1) (by first | exact H2.out | exact H2.out.alloc H2.out.size _) hb); (first | have A := hid (Blk.below (Blk.new _ _ _) hb) | have A := hid (Blk.below A.out hb) | skip); have HL := hid hl; clear hb hl)
        | (go_at_call 12; refine (CM.out g b _ (by first | exact HL.out | exact cellb HL.out (by go_grown))).mono ?_; rintro e' w4 ⟨p, rfl, hb⟩; have H4 := hid (bt (X := w1) (by first | exact H3.out | exact H3.out.alloc H3.out.size _) hb); (first | have A := hid (Blk.below (Blk.new _ _ _) hb) | have A := hid (Blk.below A.out hb) | skip); (first | (have a0 := A.out.cell 0; have a1 := A.out.cell 1; have a2 := A.out.cell 2; have f0 := A.out.frozen 0; have f1 := A.out.frozen 1; have f2 := A.out.frozen 2) | skip); clear hb))
    all_goals
      go_wp2_with fail
      go_meet
      first
        | exact ⟨_, _, rfl, rfl, Blk.new w4 _ _, Nat.le_trans B.out.size H4.out.size, (bt B.out H4.out).alloc (Nat.le_trans B.out.size H4.out.size) _⟩
        | exact ⟨_, _, rfl, rfl, ((A.out.set 0 _).set 1 _).set 2 _, Nat.le_trans B.out.size H3.out.size, below_set3 (bt B.out H4.out) (Nat.le_trans B.out.size H3.out.size) _ _ _⟩
        | exact ⟨_, _, rfl, rfl, ((A.out.set 0 _).set 1 _).set 2 _, Nat.le_trans B.out.size H2.out.size, below_set3 (bt B.out H4.out) (Nat.le_trans B.out.size H2.out.size) _ _ _⟩
        | exact ⟨_, _, rfl, rfl, ((A.out.set 0 _).set 1 _).set 2 _, B.out.size, below_set3 (bt B.out H4.out) B.out.size _ _ _⟩
  case rest =>
    obtain ⟨g, p, rfl, rfl, hblk, hgw, hb⟩ := hcut
    have G := hid hblk
    have GW := hid hgw
    have B1 := hid hb
    have hgc := hid hblk.lt
    clear hblk hgw hb K4 K5 K6 CL CM B
    have hnx := delay_next
    go_wp2_with fail
    go_loopw [9] (fun v wr => ∃ (i : Nat) (nn ee : Int) (pp : Option Addr), i ≤ N ∧ wr.ownsRow (g + 1) 23 2 v i (acts k s i) ∧ Blk wr g 45 (tcells nn ee pp) ∧ 0 ≤ nn ∧ nn < 1000000000 ∧ ee = e + (i : Int) * k ∧ Below w.heap.size w wr) (fun v _ => match v with | .slice _ n _ => N - n | _ => N)
    case atStart => exact ⟨0, n, e, p, Nat.zero_le _, World.ownsRow_nil _ _ _ _, G.out, HT.out.2.2.1, HT.out.2.2.2, by simp, B1.out⟩
    case round =>
      obtain ⟨i, nn, ee, pp, hi, hown, hblk, q0, q1, hee, hb⟩ := hrel
      have HW := hid hown
      have G2 := hid hblk
      have HB := hid hb
      have Q0 := hid q0
      have Q1 := hid q1
      have HEE := hid hee
      clear hblk hb q0 q1 hee
      obtain ⟨ao, c, rfl⟩ : ∃ ao c, u9 = .slice ao i c := by
        rcases Go.Joins.ownsRow_forms hown with ⟨rfl, rfl⟩ | ⟨g', c', rfl⟩
        · exact ⟨none, 0, rfl⟩
        · exact ⟨_, _, rfl⟩
      clear hown
      by_cases hlt : i < N
      · have hik : (i : Int) * k ≤ 64 * 2000 := Int.mul_le_mul (by have := HN.out; omega) HK2.out (by have := HK.out; omega) (by omega)
        have hik0 : 0 ≤ (i : Int) * k := Int.mul_nonneg (by omega) (by have := HK.out; omega)
        have x1 := HEE.out
        have x2 := E0.out
        have x3 := E1.out
        have x4 := HK.out
        have x5 := HK2.out
        obtain ⟨f, hf⟩ : ∃ f, ee + k = f := ⟨_, rfl⟩
        obtain ⟨s', hs'⟩ : ∃ s', f + -62135596800 = s' := ⟨_, rfl⟩
        have CX := hid (fun X => next_any nn ee d k f pp X Q0.out Q1.out HK.out (by omega) HD.out (by omega) hf (by omega))
        have CA := hid (fun X => answer_any 0 f s' pp X (by omega) (by omega) hs' (by omega) (by omega))
        have HF := hid hf
        have HS := hid hs'
        have HL := hid hlt
        have u1 : (i : Int) < (N : Int) := by omega
        have k0 : wr.cell? ⟨g, 0, none⟩ = some (.int .u64 nn) := G2.out.cell 0
        have k1 : wr.cell? ⟨g, 1, none⟩ = some (.int .i64 ee) := G2.out.cell 1
        have k2 : wr.cell? ⟨g, 2, none⟩ = some (.pointer pp) := G2.out.cell 2
        clear hik hik0 x1 x2 x3 x4 x5 hf hs' hlt hi
        go_wp2_with fail
        go_at_call 48
        refine (CX.out _).mono ?_
        rintro e' w2 ⟨rfl, hb2⟩
        have G3 := hid (G2.out.below hb2)
        have W3 := hid (own_below HW.out hb2)
        have B3 := hid (bt HB.out hb2)
        have T0 := hid (there_blk G3.out 3 (Nat.le_refl 3))
        clear hb2 k0 k1 k2
        go_wp2_with (refine wpList_store_mid rfl 45 (.tmp 11) (.tmp 26) rfl g 0 (tcells 0 f pp) (by rfl) (by rfl) T0.out (by kernel_rfl) (by simp [Value.oneCell']) ?_; have G4 := hid (set3_blk G3.out rfl 0 f pp); have W4 := hid (own_set3 W3.out (Nat.lt_succ_self g) 0 f pp); have B4 := hid (set3_below B3.out GW.out 0 f pp); generalize w2.setCells g 0 (tcells 0 f pp).toList = w3 at G4 W4 B4 ⊢; have k0 : w3.cell? ⟨g, 0, none⟩ = some (.int .u64 0) := G4.out.cell 0; have k1 : w3.cell? ⟨g, 1, none⟩ = some (.int .i64 f) := G4.out.cell 1; have k2 : w3.cell? ⟨g, 2, none⟩ = some (.pointer pp) := G4.out.cell 2)
        go_at_call 14
        refine (CA.out _).mono ?_
        rintro e' w4 ⟨rfl, hb4⟩
        have G5 := hid (G4.out.below hb4)
        have W5 := hid (own_below W4.out hb4)
        have B5 := hid (bt B4.out hb4)
        clear hb4 k0 k1 k2
        go_upto_region 7 with fail
        have NC := hid (news_cells (w4.alloc (.cells (icells s' 0) 23)) 23 [.int .i64 s', .int .i64 0])
        go_wp2_with (at_builtin; refine app_n (g + 1) rfl (.tmp 34) (.tmp 36) _ _ (.agg (icells 0 0)) 2 16 rfl Try.underlying32 info_inst rfl (by decide) (.slice ao i c) i (acts k s i) rfl ((W5.out.alloc _).alloc _) ⟨(w4.alloc (.cells (icells s' 0) 23)).heap.size, 0, none⟩ 1 1 [.int .i64 s', .int .i64 0] (by simp [Act.eval]) rfl NC.out (by simp [Value.oneCell']) (by have := HL.out; have := HN.out; simp [maxLen]; omega) (by have := HL.out; have := HN.out; omega) (by have := G5.out.lt; simp; omega) ?_; intro v1 w5 hown hgrow; obtain ⟨g', c', rfl⟩ := Go.Joins.ownsRow_form hown (Nat.succ_pos i); have G6 := hid (Blk.grown ((G5.out.alloc _).alloc _) hgrow (fun j hj => by have := (W5.out.lt j hj).1; omega)); have B6 := hid (Below.grown ((B5.out.alloc B5.out.size _).alloc (by have := B5.out.size; simp; omega) _) hgrow (by have := B5.out.size; simp; omega) (fun j hj => by have := (W5.out.lt j hj).1; have := GW.out; omega)); have W6 := hid hown; clear hown hgrow)
        have hs'' : s + ((i : Int) + 1) * k = s' := by
          have h1 := HE.out
          have h2 := HS.out
          have h3 := HF.out
          have h4 := HEE.out
          rw [Int.add_mul]
          omega
        have hff : f = e + ((i : Int) + 1) * k := by
          have h3 := HF.out
          have h4 := HEE.out
          rw [Int.add_mul]
          omega
        have HL2 := HL.out
        go_roundw
        case rel => exact ⟨i + 1, 0, f, pp, by omega, by rw [acts, hs'']; exact W6.out, G6.out, by omega, by omega, by simpa using hff, B6.out⟩
        case measure => simp; omega
      · obtain rfl : N = i := by omega
        have u1 : ¬ (N : Int) < (N : Int) := by omega
        go_wp2_with fail
        go_ret
        exact ⟨⟨_, rfl, own_low_base HW.out (Nat.le_succ_of_le GW.out)⟩, HB.out⟩
end Go.Proofs.Ytpfjmjbnomiipaa
