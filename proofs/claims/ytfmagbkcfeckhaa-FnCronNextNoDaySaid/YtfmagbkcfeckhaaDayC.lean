/- impl.CronDayMatches: the answer is a function of the day that the zone's clocks show. Walked. -/
import Derived.Test.YtfmagbkcfeckhaaDayM
import Derived.Deep.RegionHeld3
set_option linter.unusedVariables false
set_option linter.unusedSimpArgs false
namespace Go.Proofs.Ytfmagbkcfeckhaa
open Go.RowKit

theorem loc_any (o d h x : Option Addr) (n0 c0 n1 c1 n2 c2 n3 c3 : Nat) (s : Int) (w : World) (O : Nat → Int) (D : Nat → Bool) (W I : Nat → Int) (hz : ZIn w o d h x n0 n1 n2 n3 O D W I) : Calls Try.prog 28 #[.agg (zcells o d h x n0 c0 n1 c1 n2 c2 n3 c3)] w fun e w' => (∃ g b, e = .returned (.pointer (some ⟨g, 0, none⟩)) ∧ w'.cell? ⟨g, 0, none⟩ = some (.bool b) ∧ At w' (locOf b g) s (scan O W I s n2)) ∧ Below w.heap.size w w' := by
  rcases hz.good with ⟨h0, h1, h2, h3⟩ | ⟨h0, h1, h2, h3, h4, h5⟩
  · refine (location_utc o d h x n0 c0 n1 c1 n2 c2 n3 c3 w h0).mono ?_
    rintro e w' ⟨⟨g, he, hc⟩, hb⟩
    refine ⟨⟨g, true, he, hc, .inl ⟨rfl, ?_⟩⟩, hb⟩
    rw [h2]; rfl
  · refine (location_zone o d h x n0 c0 n1 c1 n2 c2 n3 c3 w O D W I h0 h2 h5 h1 h4 h3 hz).mono ?_
    rintro e w' ⟨⟨g, gz, gt, cz, ct, he, hl⟩, hb⟩
    exact ⟨⟨g, false, he, hl.loc.cell 0, .inr ⟨g, gz, gt, n0, n2, cz, ct, O, D, W, I, rfl, hl, hz.cont, h0, h3, h1, h4, rfl⟩⟩, hb⟩

theorem keepC {s n : Int} {z0 z1 z2 z3 : Value} {b1 b2 : Nat} {t1 t2 : TypeId} {w w' : World} (h1 : Blk w b1 t1 (icells s n)) (h2 : Blk w b2 t2 #[z0, z1, z2, z3]) (hb : Below w.heap.size w w') :
    w'.cell? ⟨b1, 0, none⟩ = some (.int .i64 s) ∧ w'.cell? ⟨b1, 1, none⟩ = some (.int .i64 n) ∧ w'.cell? ⟨b2, 0, none⟩ = some z0 ∧ w'.cell? ⟨b2, 1, none⟩ = some z1 ∧ w'.cell? ⟨b2, 2, none⟩ = some z2 ∧ w'.cell? ⟨b2, 3, none⟩ = some z3 := by
  have k1 := h1.below hb
  have k2 := h2.below hb
  exact ⟨k1.cell 0, k1.cell 1, k2.cell 0, k2.cell 1, k2.cell 2, k2.cell 3⟩
theorem cellb {w w' : World} {a : Addr} {v : Value} (h : w.cell? a = some v) (hb : Below w.heap.size w w') : w'.cell? a = some v := (hb.cell (World.block_lt_of_cell? w _ h)).trans h

set_option maxHeartbeats 3200000 in
set_option maxRecDepth 100000 in
theorem cdm_any (dom dow s n : Int) (o d h x : Option Addr) (n0 c0 n1 c1 n2 c2 n3 c3 : Nat) (w : World) (O : Nat → Int) (D : Nat → Bool) (W I : Nat → Int) (A dd : Nat) (hz : ZIn w o d h x n0 n1 n2 n3 O D W I) (hg : goodT s n) (ha : s + scan O W I s n2 + 9223372028741760000 = (A : Int)) (ha2 : A < 18446744073709551616) (hd : A / 86400 = dd) :
    Calls Try.prog 20 #[.int .u64 dom, .int .u64 dow, .agg (icells s n), .agg (zcells o d h x n0 c0 n1 c1 n2 c2 n3 c3)] w fun e w' => e = .returned (.bool (dmB dom dow (mdN (ydN dd)) ((dd + 3) % 7))) ∧ Below w.heap.size w w' := by
  obtain ⟨g1, g2, g3, g4⟩ := hg
  have s1 : (w.alloc (.cells (icells s n) 26)).heap.size = w.heap.size + 1 := by simp
  have B0 : Below w.heap.size w ((w.alloc (.cells (icells s n) 26)).alloc (.cells (zcells o d h x n0 c0 n1 c1 n2 c2 n3 c3) 34)) := by go_grown
  have B := hid B0
  have K5 := hid ((Blk.new w 26 (icells s n)).alloc (.cells (zcells o d h x n0 c0 n1 c1 n2 c2 n3 c3) 34))
  have K6 := hid (Blk.new (w.alloc (.cells (icells s n) 26)) 34 (zcells o d h x n0 c0 n1 c1 n2 c2 n3 c3))
  rw [s1] at K6
  have CL := hid (fun (w1 X : World) (h1 : Below w.heap.size w w1) (hb : Below w1.heap.size w1 X) => loc_any o d h x n0 c0 n1 c1 n2 c2 n3 c3 s X O D W I ((hz.below h1).below hb))
  obtain ⟨off, hoff⟩ : ∃ off, scan O W I s n2 = off := ⟨_, rfl⟩
  rw [hoff] at CL ha
  obtain ⟨e, he⟩ : ∃ e, s + 62135596800 = e := ⟨_, rfl⟩
  have CM := hid (fun g b X (hl : X.cell? ⟨g, 0, none⟩ = some (.bool b)) => moment_any s n e g b X hl g3 g4 he (by omega) (by omega))
  have CZ := hid (fun p X (hp : At X p s off) => zzDayMatches_any dom dow n e s off p A dd X g3 (by omega) (by omega) (by omega) (by omega) hp ha ha2 hd)
  obtain ⟨r, hr⟩ : ∃ r, dmB dom dow (mdN (ydN dd)) ((dd + 3) % 7) = r := ⟨_, rfl⟩
  rw [hr] at CZ ⊢
  clear B0 s1 hz hoff g1 g2 g3 g4 hr ha ha2 hd he
  go_enter Try.func20, Try.ntmps20
  go_upto_region 1 with fail
  generalize ((w.alloc (.cells (icells s n) 26)).alloc (.cells (zcells o d h x n0 c0 n1 c1 n2 c2 n3 c3) 34)) = w1 at B K5 K6 ⊢
  go_region_held3 (fun w' => w'.cell? ⟨w.heap.size, 0, none⟩ = some (.int .i64 s) ∧ w'.cell? ⟨w.heap.size, 1, none⟩ = some (.int .i64 n) ∧ w'.cell? ⟨w.heap.size + 1, 0, none⟩ = some (.slice o n0 c0) ∧ w'.cell? ⟨w.heap.size + 1, 1, none⟩ = some (.slice d n1 c1) ∧ w'.cell? ⟨w.heap.size + 1, 2, none⟩ = some (.slice h n2 c2) ∧ w'.cell? ⟨w.heap.size + 1, 3, none⟩ = some (.slice x n3 c3))
    ((refine keepC K5.out K6.out ?_; first | (go_grown; done) | (exact H4.out; done) | (exact H3.out; done) | (exact H2.out; done)))
    (first
      | (go_at_call 28; refine (CL.out w1 _ B.out (by go_grown)).mono ?_; rintro e' w2 ⟨⟨g, b, rfl, hl, hat⟩, hb⟩; have H2 := hid (bt (X := w1) (by go_grown) hb); have HL := hid hl; have HA := hid hat; clear hb hl hat)
      | (go_at_call 27; refine (CM.out g b _ (by first | exact HL.out | exact cellb HL.out (by go_grown))).mono ?_; rintro e' w3 ⟨rfl, hb⟩; have H3 := hid (bt (X := w1) (by first | exact H2.out | go_grown) hb); have HA3 := hid (HA.out.below hb); clear hb)
      | (go_at_call 36; refine (CZ.out _ _ HA3.out).mono ?_; rintro e' w4 ⟨rfl, hb⟩; have H4 := hid (bt (X := w1) H3.out hb); clear hb))
  all_goals
    go_wp2_with fail
    go_ret
    exact ⟨rfl, bt B.out H4.out⟩
end Go.Proofs.Ytfmagbkcfeckhaa
