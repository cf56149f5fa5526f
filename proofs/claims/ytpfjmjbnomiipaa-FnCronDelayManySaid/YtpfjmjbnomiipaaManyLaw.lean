/- The activations of a schedule of a constant delay are the delay apart, on whole seconds: the law's own walk. -/
import Derived.Test.YtpfjmjbnomiipaaMany
import Derived.Deep.Slices
set_option linter.unusedVariables false
set_option linter.unusedSimpArgs false
namespace Go.Proofs.Ytpfjmjbnomiipaa
open Go.RowKit

theorem cronWhole_any (q : Int) (w : World) : Calls Try.prog 10 #[.int .i64 q] w fun e w' => e = .returned (.agg (icells q 0)) ∧ Below w.heap.size w w' := by
  go_enter Try.func10, Try.ntmps10
  go_wp2
  go_returns
  exact ⟨rfl, by go_grown⟩

theorem acts_len (k s : Int) : ∀ i, (acts k s i).length = i * 2
  | 0 => rfl
  | i + 1 => by rw [acts, List.length_append, acts_len k s i]; simp; omega
theorem acts_get (k s : Int) : ∀ (N j : Nat), j < N → (acts k s N)[j * 2]? = some (.int .i64 (s + ((j : Int) + 1) * k)) ∧ (acts k s N)[j * 2 + 1]? = some (.int .i64 0)
  | 0, j, h => absurd h (Nat.not_lt_zero _)
  | N + 1, j, h => by
    rw [acts]
    by_cases hj : j < N
    · have h1 := acts_get k s N j hj
      have hl := acts_len k s N
      rw [List.getElem?_append_left (by omega), List.getElem?_append_left (by omega)]
      exact h1
    · obtain rfl : j = N := by omega
      have hl := acts_len k s j
      rw [List.getElem?_append_right (by omega), List.getElem?_append_right (by omega), hl]
      simp
theorem acts_at {w : World} {base N : Nat} {e : TypeId} {ao : Option Addr} {c : Nat} {k s : Int} (h : w.ownsRow base e 2 (.slice ao N c) N (acts k s N)) (j : Nat) (hj : j < N) : ∃ g, ao = some ⟨g, 0, none⟩ ∧ w.cell? ⟨g, j * 2, none⟩ = some (.int .i64 (s + ((j : Int) + 1) * k)) ∧ w.cell? ⟨g, j * 2 + 1, none⟩ = some (.int .i64 0) := by
  obtain ⟨g, c', hv⟩ := Go.Joins.ownsRow_form h (by omega)
  simp only [Value.slice.injEq] at hv
  obtain ⟨rfl, _, rfl⟩ := hv
  obtain ⟨h1, h2⟩ := acts_get k s N j hj
  refine ⟨g, rfl, ?_, ?_⟩
  · have := h.cells (g := g) rfl _ _ h1
    have e : (⟨g, 0, none⟩ : Addr).add (j * 2) = ⟨g, j * 2, none⟩ := by unfold Addr.add; split <;> simp_all
    rwa [e] at this
  · have := h.cells (g := g) rfl _ _ h2
    have e : (⟨g, 0, none⟩ : Addr).add (j * 2 + 1) = ⟨g, j * 2 + 1, none⟩ := by unfold Addr.add; split <;> simp_all
    rwa [e] at this

theorem keepL {s n : Int} {z0 z1 z2 z3 : Value} {b1 b2 : Nat} {t1 t2 : TypeId} {w w' : World} (h1 : Blk w b1 t1 (icells s n)) (h2 : Blk w b2 t2 #[z0, z1, z2, z3]) (hb : Below w.heap.size w w') :
    w'.cell? ⟨b1, 0, none⟩ = some (.int .i64 s) ∧ w'.cell? ⟨b1, 1, none⟩ = some (.int .i64 n) ∧ w'.cell? ⟨b2, 0, none⟩ = some z0 ∧ w'.cell? ⟨b2, 1, none⟩ = some z1 ∧ w'.cell? ⟨b2, 2, none⟩ = some z2 ∧ w'.cell? ⟨b2, 3, none⟩ = some z3 := by
  have k1 := h1.below hb
  have k2 := h2.below hb
  exact ⟨k1.cell 0, k1.cell 1, k2.cell 0, k2.cell 1, k2.cell 2, k2.cell 3⟩

set_option maxHeartbeats 6400000 in
set_option maxRecDepth 100000 in
theorem fnCronDelayMany_core (ns s n a : Int) (o dd h x : Option Addr) (n0 c0 n1 c1 n2 c2 n3 c3 : Nat) (w : World) (hns : ns ≤ 9223372036854775807)
    (hO : Sl w o n0 isI) (hD : Sl w dd n1 isB) (hH : Sl w h n2 isI) (hX : Sl w x n3 isI) :
    Calls Try.prog 3 #[.int .i64 ns, .agg (icells s n), .agg (zcells o dd h x n0 c0 n1 c1 n2 c2 n3 c3), .int .i64 a] w fun e w' => e = .returned (.bool true) ∧ Below w.heap.size w w' := by
  have s1 : (w.alloc (.cells (icells s n) 23)).heap.size = w.heap.size + 1 := by simp
  have B := hid (show Below w.heap.size w ((w.alloc (.cells (icells s n) 23)).alloc (.cells (zcells o dd h x n0 c0 n1 c1 n2 c2 n3 c3) 28)) by go_grown)
  have K5 := hid ((Blk.new w 23 (icells s n)).alloc (.cells (zcells o dd h x n0 c0 n1 c1 n2 c2 n3 c3) 28))
  have K6 := hid (Blk.new (w.alloc (.cells (icells s n) 23)) 28 (zcells o dd h x n0 c0 n1 c1 n2 c2 n3 c3))
  rw [s1] at K6
  have HO := hid hO
  have HD := hid hD
  have HH := hid hH
  have HX := hid hX
  have HNS := hid hns
  clear s1 hO hD hH hX hns
  go_enter Try.func3, Try.ntmps3
  go_wp2_with fail
  generalize ((w.alloc (.cells (icells s n) 23)).alloc (.cells (zcells o dd h x n0 c0 n1 c1 n2 c2 n3 c3) 28)) = w1 at B K5 K6 ⊢
  go_at_call 4
  refine (fits_any o dd h x n0 c0 n1 c1 n2 c2 n3 c3 w1).mono ?_
  rintro e w2 ⟨⟨b, rfl⟩, hb⟩
  have B2 := hid (bt B.out hb)
  have K52 := hid (K5.out.below hb)
  have K62 := hid (K6.out.below hb)
  clear hb B K5 K6
  cases b
  · go_wp2_with fail
    go_ret
    exact ⟨rfl, B2.out⟩
  have k0 : w2.cell? ⟨w.heap.size, 0, none⟩ = some (.int .i64 s) := K52.out.cell 0
  have k1 : w2.cell? ⟨w.heap.size, 1, none⟩ = some (.int .i64 n) := K52.out.cell 1
  go_wp2_with fail
  go_at_call 5
  refine (cronGood_any s n w2).mono ?_
  rintro e w3 ⟨⟨b, rfl, hgt⟩, hb⟩
  have B3 := hid (bt B2.out hb)
  have K53 := hid (K52.out.below hb)
  have K63 := hid (K62.out.below hb)
  clear hb B2 K52 K62 k0 k1
  cases b
  · clear hgt
    go_wp2_with fail
    go_ret
    exact ⟨rfl, B3.out⟩
  have GT := hid (hgt rfl)
  clear hgt
  have k0 : w3.cell? ⟨w.heap.size + 1, 0, none⟩ = some (.slice o n0 c0) := K63.out.cell 0
  have k1 : w3.cell? ⟨w.heap.size + 1, 1, none⟩ = some (.slice dd n1 c1) := K63.out.cell 1
  have k2 : w3.cell? ⟨w.heap.size + 1, 2, none⟩ = some (.slice h n2 c2) := K63.out.cell 2
  have k3 : w3.cell? ⟨w.heap.size + 1, 3, none⟩ = some (.slice x n3 c3) := K63.out.cell 3
  go_wp2_with fail
  go_at_call 6
  refine (goodZone_any o dd h x n0 c0 n1 c1 n2 c2 n3 c3 w3 (HO.out.below B3.out) (HH.out.below B3.out) (HX.out.below B3.out)).mono ?_
  rintro e w4 ⟨⟨b, rfl, hgz⟩, hb⟩
  have B4 := hid (bt B3.out hb)
  have K54 := hid (K53.out.below hb)
  have K64 := hid (K63.out.below hb)
  clear hb B3 K53 K63 k0 k1 k2 k3
  cases b
  · clear hgz
    go_wp2_with fail
    go_ret
    exact ⟨rfl, B4.out⟩
  have GZ := hid (hgz rfl)
  clear hgz
  by_cases ha0 : a < 0
  · go_wp2_with fail
    go_ret
    exact ⟨rfl, B4.out⟩
  by_cases ha1 : 64 < a
  · go_wp2_with fail
    go_ret
    exact ⟨rfl, B4.out⟩
  by_cases hd1 : 1099511627776 < ns
  · go_wp2_with fail
    go_ret
    exact ⟨rfl, B4.out⟩
  obtain ⟨N, rfl⟩ := Int.eq_ofNat_of_zero_le (Int.not_lt.1 ha0)
  obtain ⟨d, hd⟩ : ∃ d, everyD ns = d := ⟨_, rfl⟩
  have hdr : 1000000000 ≤ d ∧ d ≤ 1099511627776 ∧ d % 1000000000 = 0 := by
    rw [← hd]
    unfold everyD
    split <;> omega
  obtain ⟨k, hk⟩ : ∃ k, d / 1000000000 = k := ⟨_, rfl⟩
  have hkd : k * 1000000000 = d := by omega
  have hk1 : 1 ≤ k := by omega
  have hk2 : k ≤ 2000 := by omega
  have q1 : d.tdiv 1000000000 = k := by rw [Int.tdiv_eq_ediv_of_nonneg (by omega)]; omega
  have e5 : wrap64 k = k := by unfold wrap64; omega
  have HK1 := hid hk1
  have HK2 := hid hk2
  have HN := hid (show N ≤ 64 by omega)
  have CD := hid (fun X => cronDelay_any ns X HNS.out)
  have CE := hid (fun X => implEvery_any ns X HNS.out)
  rw [hd] at CD CE
  have CM := hid (fun (w5 X : World) (h5 : Below w.heap.size w w5) (hb : Below w5.heap.size w5 X) => many_any k d s n (s + 62135596800) N o dd h x n0 c0 n1 c1 n2 c2 n3 c3 X hkd hk1 hk2 HN.out GT.out rfl GZ.out ((HO.out.below h5).below hb) ((HD.out.below h5).below hb) ((HH.out.below h5).below hb) ((HX.out.below h5).below hb))
  clear hdr hkd hk1 hk2 hd
  go_wp2_with (go_at_call 7; refine (CD.out _).mono ?_; rintro e w' ⟨rfl, rfl⟩)
  go_region_held3 (fun w' => w'.cell? ⟨w.heap.size, 0, none⟩ = some (.int .i64 s) ∧ w'.cell? ⟨w.heap.size, 1, none⟩ = some (.int .i64 n) ∧ w'.cell? ⟨w.heap.size + 1, 0, none⟩ = some (.slice o n0 c0) ∧ w'.cell? ⟨w.heap.size + 1, 1, none⟩ = some (.slice dd n1 c1) ∧ w'.cell? ⟨w.heap.size + 1, 2, none⟩ = some (.slice h n2 c2) ∧ w'.cell? ⟨w.heap.size + 1, 3, none⟩ = some (.slice x n3 c3))
    ((refine keepL K54.out K64.out ?_; first | (go_grown; done) | (exact H6.out; done) | (exact H5.out; done)))
    (first
      | (go_at_call 9; refine (CE.out _).mono ?_; rintro e w5 ⟨rfl, hb⟩; have H5 := hid (bt (X := w4) (by go_grown) hb); clear hb)
      | (go_at_call 8; refine (CM.out w4 _ B4.out (by first | exact H5.out | go_grown)).mono ?_; rintro e w6 ⟨⟨v, rfl, hv⟩, hb⟩; have H6 := hid (bt (X := w4) (by first | exact H5.out | go_grown) hb); have HV := hid hv; clear hb hv))
  obtain ⟨ao, c, rfl⟩ : ∃ ao c, v = .slice ao N c := by
    rcases Go.Joins.ownsRow_forms HV.out with ⟨rfl, rfl⟩ | ⟨g', c', rfl⟩
    · exact ⟨none, 0, rfl⟩
    · exact ⟨_, _, rfl⟩
  have B6 := hid (bt B4.out H6.out)
  have K56 := hid (K54.out.below H6.out)
  clear CD CE CM B4 K54 K64 H5 H6
  go_wp2_with fail
  go_loopw [47] (fun iv wr => ∃ j : Nat, j ≤ N ∧ iv = .int .i64 j ∧ Below w6.heap.size w6 wr) (fun iv _ => N - (intOf iv).toNat)
  case atStart => exact ⟨0, Nat.zero_le _, rfl, Below.refl _ _⟩
  case round =>
    obtain ⟨j, hj, rfl, hb⟩ := hrel
    have HB := hid hb
    clear hb
    by_cases hlt : j < N
    · obtain ⟨g, hao, y0, y1⟩ := acts_at (own_below HV.out HB.out) j hlt
      subst hao
      have u0 : (0 : Int) ≤ (j : Int) := by omega
      have u1 : (j : Int) < (N : Int) := by omega
      have u2 : ¬ (N : Int) ≤ (j : Int) := by omega
      have hw : IntKind.i64.wrap ((j : Int) + 1) = (j : Int) + 1 := IntWalk.i64_in _ (by omega)
      have hjk : ((j : Int) + 1) * k ≤ 64 * 2000 := Int.mul_le_mul (by have := HN.out; omega) HK2.out (by have := HK1.out; omega) (by omega)
      have hjk0 : 0 ≤ ((j : Int) + 1) * k := Int.mul_nonneg (by omega) (by have := HK1.out; omega)
      obtain ⟨m, hm⟩ : ∃ m, ((j : Int) + 1) * k = m := ⟨_, rfl⟩
      have w1' : IntKind.i64.wrap (((j : Int) + 1) * k) = m := by rw [hm]; exact IntWalk.i64_in _ (by omega)
      have hg1 := GT.out.1
      have hg2 := GT.out.2.1
      have w2' : IntKind.i64.wrap (s + m) = s + m := IntWalk.i64_in _ (by omega)
      rw [hm] at y0
      obtain ⟨q, hq⟩ : ∃ q, s + m = q := ⟨_, rfl⟩
      rw [hq] at y0 w2'
      have k0 : wr.cell? ⟨w.heap.size, 0, none⟩ = some (.int .i64 s) := (K56.out.below HB.out).cell 0
      have KW := hid (K56.out.below HB.out)
      have CW := hid (fun X => cronWhole_any q X)
      have v1 : wrap64 m = m := by unfold wrap64; omega
      have v2 : wrap64 q = q := by unfold wrap64; omega
      have v3 : IntKind.i64.wrap m = m := IntWalk.i64_in _ (by omega)
      have v4 : IntKind.i64.wrap q = q := IntWalk.i64_in _ (by omega)
      clear hjk hjk0 hg1 hg2
      go_wp2_with fail
      have R := hid (Blk.new wr 23 (icells q 0))
      have K := hid (KW.out.alloc (.cells (icells q 0) 23))
      have BW := hid (HB.out.alloc HB.out.size (.cells (icells q 0) 23))
      generalize wr.alloc (.cells (icells q 0) 23) = wq at R K BW ⊢
      have r0 : ∀ d os, (Go.Sort.grow (redrawn wq d) os).cell? ⟨wr.heap.size, 0, none⟩ = some (.int .i64 q) := fun d os => (blk_gr R.out d os).cell 0
      have r1 : ∀ d os, (Go.Sort.grow (redrawn wq d) os).cell? ⟨wr.heap.size, 1, none⟩ = some (.int .i64 0) := fun d os => (blk_gr R.out d os).cell 1
      have r2 : ∀ d os, (Go.Sort.grow (redrawn wq d) os).cell? ⟨w.heap.size, 0, none⟩ = some (.int .i64 s) := fun d os => (blk_gr K.out d os).cell 0
      have C1 := hid (fun d os => Calls.regrown_of (CW.out (Go.Sort.grow (redrawn wq d) os)))
      clear k0 y0 y1
      refine wp_region_quiet_below (by kernel_rfl) (by kernel_rfl) ?_
      repeat (go_big_quiet_step ((first | (go_at_call 10; exact C1.out _ _) | fail)))
      refine wpQuiet_nil ?_
      intro _ hw'
      obtain ⟨⟨dq, osq⟩, hw''⟩ := hw'
      subst hw''
      have BW2 := hid (bt BW.out (below_regrown wq dq osq))
      clear r0 r1 r2
      generalize Go.Sort.grow (redrawn wq dq) osq = wz at BW2 ⊢
      go_wp2_with fail
      go_roundw
      case rel => exact ⟨j + 1, by omega, by go_num, BW2.out⟩
      case measure => simp [intOf]; omega
    · obtain rfl : N = j := by omega
      have u1 : ¬ (N : Int) < (N : Int) := by omega
      go_wp2_with fail
      go_ret
      exact ⟨rfl, bt B6.out HB.out⟩

section
open Go.ChangeShapes Go.WideShapes Go.Deep
variable {H : Type} {enc : TypeId × Value → H} {P : Program} {w : World} {base : Nat} {spare : Nat → Bool} {held : Bool}
/-- A slice among a struct's fields, of whatever elements of one cell each. -/
theorem open_sl {t e : TypeId} {fuel : Nat} {c : Value} {x : DataW H × List MemPlace} (ok : Value → Prop) (ht : P.underlying t = some (.slice e)) (hc : P.cellsOf e = 1)
    (hok : ∀ n v y, DataW.trod enc P w base spare held n e [v] = some y → ok v) (h : DataW.trod enc P w base spare held fuel t [c] = some x) : ∃ ao n k, [c] = [.slice ao n k] ∧ Sl w ao n ok := by
  rcases open_slice1 ht hc h with ⟨h0, _⟩ | ⟨a, len, cap, m, n, V, D, Pl, h0, _, _, _, hm, _, hx⟩
  · exact ⟨none, 0, 0, h0, fun i hi => absurd hi (Nat.not_lt_zero _)⟩
  · refine ⟨some a, len, cap, h0, fun i hi => ?_⟩
    have hle : len ≤ m := by rw [hm]; split <;> first | omega | assumption | exact Nat.le_refl _
    obtain ⟨h1, h2⟩ := hx i (by omega)
    exact ⟨a, V i, rfl, h1, hok _ _ _ h2⟩
end

theorem fnCronDelayMany_walk (ns s n : Int) (o : Option Addr) (n0 c0 : Nat) (dd : Option Addr) (n1 c1 : Nat) (h : Option Addr) (n2 c2 : Nat) (x : Option Addr) (n3 c3 : Nat) (a : Int) (w : World) (h0 : (Lit.int .i64 ns).wf = true) (_ : (Lit.int .i64 s).wf = true) (_ : (Lit.int .i64 n).wf = true)
    (hO : Sl w o n0 isI) (hD : Sl w dd n1 isB) (hH : Sl w h n2 isI) (hX : Sl w x n3 isI) (_ : (Lit.int .i64 a).wf = true) :
    Calls Try.prog 3 #[.int .i64 ns, .agg #[.int .i64 s, .int .i64 n], .agg #[.slice o n0 c0, .slice dd n1 c1, .slice h n2 c2, .slice x n3 c3], .int .i64 a] w fun e w' => e = .returned (.bool true) ∧ Below w.heap.size w w' :=
  fnCronDelayMany_core ns s n a o dd h x n0 c0 n1 c1 n2 c2 n3 c3 w (wf_i64 h0).2 hO hD hH hX
end Go.Proofs.Ytpfjmjbnomiipaa
