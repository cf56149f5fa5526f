/- laws.FnCronDaySame: the sets of the two fields of days allow all instants of one day on a zone's clocks, or none. Walked. -/
import Derived.Test.YtcaabeocflfboaaDayC
import Derived.Test.YtcaabeocflfboaaInv
import Derived.Handed
import Derived.Lay
import Derived.Deep.Slices
set_option linter.unusedVariables false
set_option linter.unusedSimpArgs false
namespace Go.Proofs.Ytcaabeocflfboaa
open Go.RowKit

theorem all_day : ∀ D, D < 32 → ∀ W, W < 7 → 1 ≤ D → dmB ((gb 1 31 1 ||| 9223372036854775808 : Nat) : Int) ((gb 0 6 1 ||| 9223372036854775808 : Nat) : Int) D W = true := by decide +kernel

theorem keepL {s n s' n' : Int} {z0 z1 z2 z3 : Value} {b0 b1 b2 : Nat} {t1 t2 : TypeId} {w w' : World} (h0 : Blk w b0 t1 (icells s n)) (h1 : Blk w b1 t1 (icells s' n')) (h2 : Blk w b2 t2 #[z0, z1, z2, z3]) (hb : Below w.heap.size w w') :
    w'.cell? ⟨b0, 0, none⟩ = some (.int .i64 s) ∧ w'.cell? ⟨b0, 1, none⟩ = some (.int .i64 n) ∧ w'.cell? ⟨b1, 0, none⟩ = some (.int .i64 s') ∧ w'.cell? ⟨b1, 1, none⟩ = some (.int .i64 n') ∧ w'.cell? ⟨b2, 0, none⟩ = some z0 ∧ w'.cell? ⟨b2, 1, none⟩ = some z1 ∧ w'.cell? ⟨b2, 2, none⟩ = some z2 ∧ w'.cell? ⟨b2, 3, none⟩ = some z3 := by
  have k0 := h0.below hb
  have k1 := h1.below hb
  have k2 := h2.below hb
  exact ⟨k0.cell 0, k0.cell 1, k1.cell 0, k1.cell 1, k2.cell 0, k2.cell 1, k2.cell 2, k2.cell 3⟩

/-- A date and time of day that shows a day. -/
def CivIs (x : Value) (day n : Int) : Prop := ∃ Y M D h m s d, x = .agg (vcells8 Y M D h m s n d) ∧ dateIs day Y M D

/-- A block for a date and time of day, laid already or not. -/
def Lies (w : World) (B0 g : Nat) (T : TypeId) (b : Bool) (day n : Int) : Prop :=
  B0 ≤ g ∧ (∃ y0 y1 y2 y3 y4 y5 y6 y7, Blk w g T #[y0, y1, y2, y3, y4, y5, y6, y7]) ∧ (b = true → ∃ cs, CivIs (.agg cs) day n ∧ Blk w g T cs)
theorem Lies.keep {w w' : World} {B0 g : Nat} {T : TypeId} {b b' : Bool} {day n : Int} (h : Lies w B0 g T b day n) (hbb : b' = b) (hk : ∀ cs, Blk w g T cs → Blk w' g T cs) : Lies w' B0 g T b' day n := by
  subst hbb
  obtain ⟨h1, ⟨y0, y1, y2, y3, y4, y5, y6, y7, h2⟩, h3⟩ := h
  exact ⟨h1, ⟨y0, y1, y2, y3, y4, y5, y6, y7, hk _ h2⟩, fun e => by obtain ⟨cs, c1, c2⟩ := h3 e; exact ⟨cs, c1, hk _ c2⟩⟩
theorem Lies.lt {w : World} {B0 g : Nat} {T : TypeId} {b : Bool} {day n : Int} (h : Lies w B0 g T b day n) : g < w.heap.size := by
  obtain ⟨h1, ⟨y0, y1, y2, y3, y4, y5, y6, y7, h2⟩, h3⟩ := h
  exact h2.lt
theorem blk_far8 {w : World} {g h : Nat} {t : TypeId} {cs : Array Value} (hb : Blk w g t cs) (hne : g ≠ h) (Y M D h' m s n d : Int) : Blk (w.setCells h 0 (vcells8 Y M D h' m s n d).toList) g t cs :=
  (((((((hb.other hne 0 _).other hne 1 _).other hne 2 _).other hne 3 _).other hne 4 _).other hne 5 _).other hne 6 _).other hne 7 _
theorem size_far8 {w : World} (h : Nat) (Y M D h' m s n d : Int) : (w.setCells h 0 (vcells8 Y M D h' m s n d).toList).heap.size = w.heap.size := by
  simp [World.setCells, World.setCell]
theorem got_new {got : Array Bool} {i : Nat} (h : got[i]? = some false) : (got.setIfInBounds i true).getD i false = true := by
  have : i < got.size := (Array.getElem?_eq_some_iff.1 h).1
  simp [Array.getD_eq_getD_getElem?, Array.getElem?_setIfInBounds, this]
theorem got_not {got : Array Bool} {i : Nat} (h : got[i]? = some false) (h2 : got.getD i false = true) : False := by
  rw [Array.getD_eq_getD_getElem?, h] at h2
  cases h2

/-- The region of two calls whose results are laid into memory: what holds behind each of its operations. -/
def J5 (F : Value → Value → Value → Value → Value → Value → Value → Value → Act) (B0 : Nat) (W0 : World) (ti ui : Array Value) (zi : Array Value) (day day' n n' : Int) (T : TypeId) (a0 : Act) (w0 : World) (got : Array Bool) (a : Act) (w : World) : Prop :=
  ∃ x30 x31 x32 x33 x34 x35 x11 x12 : Value,
    a = F x30 x31 x32 x33 x34 x35 x11 x12 ∧
    Below B0 W0 w ∧ B0 ≤ w.heap.size ∧
    (got.getD 0 false = true → x30 = .agg ti) ∧ (got.getD 1 false = true → x31 = .agg zi) ∧ (got.getD 2 false = true → CivIs x32 day n) ∧
    (got.getD 3 false = true → x33 = .agg ui) ∧ (got.getD 4 false = true → x34 = .agg zi) ∧ (got.getD 5 false = true → CivIs x35 day' n') ∧
    (got.getD 6 false = true → ∃ g1, x11 = .pointer (some ⟨g1, 0, none⟩) ∧ Lies w B0 g1 T (got.getD 8 false) day n) ∧
    (got.getD 7 false = true → ∃ g2, x12 = .pointer (some ⟨g2, 0, none⟩) ∧ Lies w B0 g2 T (got.getD 9 false) day' n') ∧
    (got.getD 6 false = true → got.getD 7 false = true → x11 ≠ x12) ∧ (got.getD 8 false = true → got.getD 6 false = true) ∧ (got.getD 9 false = true → got.getD 7 false = true)

set_option maxHeartbeats 6400000 in
set_option maxRecDepth 100000 in
theorem daySame_core (dom dow s n s' n' : Int) (o d hh x : Option Addr) (n0 c0 n1 c1 n2 c2 n3 c3 : Nat) (w : World) (hO : Sl w o n0 isI) (hD : Sl w d n1 isB) (hH : Sl w hh n2 isI) (hX : Sl w x n3 isI) :
    Calls Try.prog 3 #[.int .u64 dom, .int .u64 dow, .agg (icells s n), .agg (icells s' n'), .agg (zcells o d hh x n0 c0 n1 c1 n2 c2 n3 c3)] w fun e w' => e = .returned (.bool true) ∧ Below w.heap.size w w' := by
  obtain ⟨O, hO'⟩ := ints_of hO
  obtain ⟨D, hD'⟩ := bols_of hD
  obtain ⟨W, hH'⟩ := ints_of hH
  obtain ⟨I, hX'⟩ := ints_of hX
  have HO := hid hO'
  have HD := hid hD'
  have HH := hid hH'
  have HX := hid hX'
  clear hO hD hH hX hO' hD' hH' hX'
  have s1 : (w.alloc (.cells (icells s n) 24)).heap.size = w.heap.size + 1 := by simp
  have s2 : ((w.alloc (.cells (icells s n) 24)).alloc (.cells (icells s' n') 24)).heap.size = w.heap.size + 1 + 1 := by simp
  have B := hid (show Below w.heap.size w (((w.alloc (.cells (icells s n) 24)).alloc (.cells (icells s' n') 24)).alloc (.cells (zcells o d hh x n0 c0 n1 c1 n2 c2 n3 c3) 29)) by go_grown)
  have K4 := hid (((Blk.new w 24 (icells s n)).alloc (.cells (icells s' n') 24)).alloc (.cells (zcells o d hh x n0 c0 n1 c1 n2 c2 n3 c3) 29))
  have K5 := hid ((Blk.new (w.alloc (.cells (icells s n) 24)) 24 (icells s' n')).alloc (.cells (zcells o d hh x n0 c0 n1 c1 n2 c2 n3 c3) 29))
  have K6 := hid (Blk.new ((w.alloc (.cells (icells s n) 24)).alloc (.cells (icells s' n') 24)) 29 (zcells o d hh x n0 c0 n1 c1 n2 c2 n3 c3))
  rw [s1] at K5
  rw [s2] at K6
  clear s1 s2
  go_enter Try.func3, Try.ntmps3
  go_upto_region 1 with fail
  generalize (((w.alloc (.cells (icells s n) 24)).alloc (.cells (icells s' n') 24)).alloc (.cells (zcells o d hh x n0 c0 n1 c1 n2 c2 n3 c3) 29)) = w1 at B K4 K5 K6 ⊢
  have k0 := K6.out.cell 0
  have k1 := K6.out.cell 1
  have k2 := K6.out.cell 2
  have k3 := K6.out.cell 3
  go_wp2_with fail
  go_at_call 4
  refine (fits_any o d hh x n0 c0 n1 c1 n2 c2 n3 c3 w1).mono ?_
  rintro e w2 ⟨⟨b, rfl⟩, hb⟩
  have B2 := hid (bt B.out hb)
  have K42 := hid (K4.out.below hb)
  have K52 := hid (K5.out.below hb)
  have K62 := hid (K6.out.below hb)
  clear hb B K4 K5 K6 k0 k1 k2 k3
  cases b
  · go_wp2_with fail
    go_ret
    exact ⟨rfl, B2.out⟩
  have j0 := K42.out.cell 0
  have j1 := K42.out.cell 1
  go_wp2_with fail
  go_at_call 5
  refine (cronGood_any s n w2).mono ?_
  rintro e w3 ⟨⟨b, rfl, hgt⟩, hb⟩
  have B3 := hid (bt B2.out hb)
  have K43 := hid (K42.out.below hb)
  have K53 := hid (K52.out.below hb)
  have K63 := hid (K62.out.below hb)
  clear hb B2 K42 K52 K62 j0 j1
  cases b
  · clear hgt
    go_wp2_with fail
    go_ret
    exact ⟨rfl, B3.out⟩
  have GT := hid (hgt rfl)
  clear hgt
  have j0 := K53.out.cell 0
  have j1 := K53.out.cell 1
  go_wp2_with fail
  go_at_call 5
  refine (cronGood_any s' n' w3).mono ?_
  rintro e w4 ⟨⟨b, rfl, hgt⟩, hb⟩
  have B4 := hid (bt B3.out hb)
  have K44 := hid (K43.out.below hb)
  have K54 := hid (K53.out.below hb)
  have K64 := hid (K63.out.below hb)
  clear hb B3 K43 K53 K63 j0 j1
  cases b
  · clear hgt
    go_wp2_with fail
    go_ret
    exact ⟨rfl, B4.out⟩
  have GU := hid (hgt rfl)
  clear hgt
  have k0 := K64.out.cell 0
  have k1 := K64.out.cell 1
  have k2 := K64.out.cell 2
  have k3 := K64.out.cell 3
  go_wp2_with fail
  go_at_call 6
  refine (goodZoneC_any o d hh x n0 c0 n1 c1 n2 c2 n3 c3 w4 O W I (HO.out.below B4.out) (HH.out.below B4.out) (HX.out.below B4.out)).mono ?_
  rintro e w5 ⟨⟨b, rfl, hgz⟩, hb⟩
  have B5 := hid (bt B4.out hb)
  have K45 := hid (K44.out.below hb)
  have K55 := hid (K54.out.below hb)
  have K65 := hid (K64.out.below hb)
  clear hb B4 K44 K54 K64 k0 k1 k2 k3
  cases b
  · clear hgz
    go_wp2_with fail
    go_ret
    exact ⟨rfl, B5.out⟩
  obtain ⟨gz1, gz2⟩ := hgz rfl
  have ZI := hid (show ZIn w o d hh x n0 n1 n2 n3 O D W I from ⟨gz1, gz2, HO.out, HD.out, HH.out, HX.out⟩)
  clear hgz gz1 gz2 HO HD HH HX
  go_upto_region 5 with fail
  have CC := hid (fun X (h : Below w5.heap.size w5 X) => civil_any s n o d hh x n0 c0 n1 c1 n2 c2 n3 c3 X O D W I ((ZI.out.below B5.out).below h) GT.out)
  have CD := hid (fun X (h : Below w5.heap.size w5 X) => civil_any s' n' o d hh x n0 c0 n1 c1 n2 c2 n3 c3 X O D W I ((ZI.out.below B5.out).below h) GU.out)
  refine wp_region_inv (J5 (fun x30 x31 x32 x33 x34 x35 x11 x12 => { tmps := #[Value.int .u64 dom, Value.int .u64 dow, Value.agg (icells s n), Value.agg (icells s' n'), Value.agg (zcells o d hh x n0 c0 n1 c1 n2 c2 n3 c3), undef, undef, Value.pointer (some ⟨w.heap.size, 0, none⟩), Value.pointer (some ⟨w.heap.size + 1, 0, none⟩), Value.pointer (some ⟨w.heap.size + 1 + 1, 0, none⟩), Value.bool false, x11, x12, undef, Value.agg (zcells o d hh x n0 c0 n1 c1 n2 c2 n3 c3), Value.bool true, Value.bool false, Value.agg (icells s n), Value.bool true, Value.bool false, Value.bool false, Value.agg (icells s' n'), Value.bool true, Value.bool false, Value.bool false, Value.bool false, Value.agg (zcells o d hh x n0 c0 n1 c1 n2 c2 n3 c3), Value.bool true, Value.bool false, Value.bool false, x30, x31, x32, x33, x34, x35, undef, undef, undef, undef, undef, undef, undef, undef, undef, undef, undef, undef, undef, undef, undef, undef, undef, undef, undef, undef, undef, undef, undef, undef, undef, undef, undef, undef, undef, undef, undef, undef, undef, undef, undef, undef, undef, undef], defers := [] }) w5.heap.size w5 (icells s n) (icells s' n') (zcells o d hh x n0 c0 n1 c1 n2 c2 n3 c3) ((s + scan O W I s n2) / 86400) ((s' + scan O W I s' n2) / 86400) n n' 33) (by kernel_rfl) (by kernel_rfl) ?_ ?_ ?_
  · refine ⟨undef, undef, undef, undef, undef, undef, undef, undef, ?_, ?_, Nat.le_refl _, ?_⟩
    · rfl
    · exact ⟨rfl, rfl, rfl, Nat.le_refl _, fun k _ => rfl⟩
    · simp [Array.getD_eq_getD_getElem?]
  · rintro got a' wr i op ⟨x30, x31, x32, x33, x34, x35, x11, x12, rfl, hb, hbs, g0, g1, g2, g3, g4, g5, g6, g7, g67, g86, g97⟩ hz ho hi hd
    dsimp only
    have hlt : i < 10 := (List.getElem?_eq_some_iff.1 ho).1
    have k4 := hid (K45.out.below hb)
    have k5 := hid (K55.out.below hb)
    have k6 := hid (K65.out.below hb)
    rcases (by omega : i = 0 ∨ i = 1 ∨ i = 2 ∨ i = 3 ∨ i = 4 ∨ i = 5 ∨ i = 6 ∨ i = 7 ∨ i = 8 ∨ i = 9) with rfl | rfl | rfl | rfl | rfl | rfl | rfl | rfl | rfl | rfl
    · obtain rfl := Option.some.inj ho
      have l0 := k4.out.cell 0
      have l1 := k4.out.cell 1
      have HB := hid hb; have HS := hid hbs; have HI := hid hi; have GG := hid (And.intro g0 (And.intro g1 (And.intro g2 (And.intro g3 (And.intro g4 (And.intro g5 (And.intro g6 (And.intro g7 (And.intro g67 (And.intro g86 g97))))))))))
      clear ho hd hz hi hlt g0 g1 g2 g3 g4 g5 g6 g7 g67 g86 g97 hb hbs
      go_wp2_with fail
      obtain ⟨g0, g1, g2, g3, g4, g5, g6, g7, g67, g86, g97⟩ := GG.out
      have hi := HI.out
      exact ⟨_, x31, x32, x33, x34, x35, x11, x12, rfl, HB.out, HS.out, fun _ => rfl, fun h => g1 ((got_ne (by decide)).symm.trans h), fun h => g2 ((got_ne (by decide)).symm.trans h), fun h => g3 ((got_ne (by decide)).symm.trans h), fun h => g4 ((got_ne (by decide)).symm.trans h), fun h => g5 ((got_ne (by decide)).symm.trans h), fun h => by obtain ⟨g, e1, e2⟩ := g6 ((got_ne (by decide)).symm.trans h); exact ⟨g, e1, e2.keep (got_ne (by decide)) (fun _ h => h)⟩, fun h => by obtain ⟨g, e1, e2⟩ := g7 ((got_ne (by decide)).symm.trans h); exact ⟨g, e1, e2.keep (got_ne (by decide)) (fun _ h => h)⟩, fun h6 h7 => g67 ((got_ne (by decide)).symm.trans h6) ((got_ne (by decide)).symm.trans h7), fun h => (got_ne (by decide)).trans (g86 ((got_ne (by decide)).symm.trans h)), fun h => (got_ne (by decide)).trans (g97 ((got_ne (by decide)).symm.trans h))⟩
    · obtain rfl := Option.some.inj ho
      have l0 := k6.out.cell 0
      have l1 := k6.out.cell 1
      have l2 := k6.out.cell 2
      have l3 := k6.out.cell 3
      have HB := hid hb; have HS := hid hbs; have HI := hid hi; have GG := hid (And.intro g0 (And.intro g1 (And.intro g2 (And.intro g3 (And.intro g4 (And.intro g5 (And.intro g6 (And.intro g7 (And.intro g67 (And.intro g86 g97))))))))))
      clear ho hd hz hi hlt g0 g1 g2 g3 g4 g5 g6 g7 g67 g86 g97 hb hbs
      go_wp2_with fail
      obtain ⟨g0, g1, g2, g3, g4, g5, g6, g7, g67, g86, g97⟩ := GG.out
      have hi := HI.out
      exact ⟨x30, _, x32, x33, x34, x35, x11, x12, rfl, HB.out, HS.out, fun h => g0 ((got_ne (by decide)).symm.trans h), fun _ => rfl, fun h => g2 ((got_ne (by decide)).symm.trans h), fun h => g3 ((got_ne (by decide)).symm.trans h), fun h => g4 ((got_ne (by decide)).symm.trans h), fun h => g5 ((got_ne (by decide)).symm.trans h), fun h => by obtain ⟨g, e1, e2⟩ := g6 ((got_ne (by decide)).symm.trans h); exact ⟨g, e1, e2.keep (got_ne (by decide)) (fun _ h => h)⟩, fun h => by obtain ⟨g, e1, e2⟩ := g7 ((got_ne (by decide)).symm.trans h); exact ⟨g, e1, e2.keep (got_ne (by decide)) (fun _ h => h)⟩, fun h6 h7 => g67 ((got_ne (by decide)).symm.trans h6) ((got_ne (by decide)).symm.trans h7), fun h => (got_ne (by decide)).trans (g86 ((got_ne (by decide)).symm.trans h)), fun h => (got_ne (by decide)).trans (g97 ((got_ne (by decide)).symm.trans h))⟩
    · obtain rfl := Option.some.inj ho
      obtain rfl := g0 (hd { on := 0, ground := .data } (by simp) rfl)
      obtain rfl := g1 (hd { on := 1, ground := .data } (by simp) rfl)
      have HB := hid hb; have HS := hid hbs; have HI := hid hi; have GG := hid (And.intro g0 (And.intro g1 (And.intro g2 (And.intro g3 (And.intro g4 (And.intro g5 (And.intro g6 (And.intro g7 (And.intro g67 (And.intro g86 g97))))))))))
      clear ho hd hz hi hlt g0 g1 g2 g3 g4 g5 g6 g7 g67 g86 g97 hb hbs
      go_wp2_with (go_at_call 7; refine (CC.out wr HB.out).mono ?_; rintro e w6 ⟨⟨Y, M, D0, hr, mi, sc, wd, rfl, hdt⟩, hb6⟩; have DT := hid hdt; have H6 := hid hb6; clear hb6 hdt)
      obtain ⟨g0, g1, g2, g3, g4, g5, g6, g7, g67, g86, g97⟩ := GG.out
      have hi := HI.out
      exact ⟨_, _, _, x33, x34, x35, x11, x12, rfl, bt (X := w5) HB.out H6.out, Nat.le_trans HS.out H6.out.size, fun _ => rfl, fun _ => rfl, fun _ => ⟨_, _, _, _, _, _, _, rfl, DT.out⟩, fun h => g3 ((got_ne (by decide)).symm.trans h), fun h => g4 ((got_ne (by decide)).symm.trans h), fun h => g5 ((got_ne (by decide)).symm.trans h), fun h => by obtain ⟨g, e1, e2⟩ := g6 ((got_ne (by decide)).symm.trans h); exact ⟨g, e1, e2.keep (got_ne (by decide)) (fun _ h => h.below H6.out)⟩, fun h => by obtain ⟨g, e1, e2⟩ := g7 ((got_ne (by decide)).symm.trans h); exact ⟨g, e1, e2.keep (got_ne (by decide)) (fun _ h => h.below H6.out)⟩, fun h6 h7 => g67 ((got_ne (by decide)).symm.trans h6) ((got_ne (by decide)).symm.trans h7), fun h => (got_ne (by decide)).trans (g86 ((got_ne (by decide)).symm.trans h)), fun h => (got_ne (by decide)).trans (g97 ((got_ne (by decide)).symm.trans h))⟩
    · obtain rfl := Option.some.inj ho
      have l0 := k5.out.cell 0
      have l1 := k5.out.cell 1
      have HB := hid hb; have HS := hid hbs; have HI := hid hi; have GG := hid (And.intro g0 (And.intro g1 (And.intro g2 (And.intro g3 (And.intro g4 (And.intro g5 (And.intro g6 (And.intro g7 (And.intro g67 (And.intro g86 g97))))))))))
      clear ho hd hz hi hlt g0 g1 g2 g3 g4 g5 g6 g7 g67 g86 g97 hb hbs
      go_wp2_with fail
      obtain ⟨g0, g1, g2, g3, g4, g5, g6, g7, g67, g86, g97⟩ := GG.out
      have hi := HI.out
      exact ⟨x30, x31, x32, _, x34, x35, x11, x12, rfl, HB.out, HS.out, fun h => g0 ((got_ne (by decide)).symm.trans h), fun h => g1 ((got_ne (by decide)).symm.trans h), fun h => g2 ((got_ne (by decide)).symm.trans h), fun _ => rfl, fun h => g4 ((got_ne (by decide)).symm.trans h), fun h => g5 ((got_ne (by decide)).symm.trans h), fun h => by obtain ⟨g, e1, e2⟩ := g6 ((got_ne (by decide)).symm.trans h); exact ⟨g, e1, e2.keep (got_ne (by decide)) (fun _ h => h)⟩, fun h => by obtain ⟨g, e1, e2⟩ := g7 ((got_ne (by decide)).symm.trans h); exact ⟨g, e1, e2.keep (got_ne (by decide)) (fun _ h => h)⟩, fun h6 h7 => g67 ((got_ne (by decide)).symm.trans h6) ((got_ne (by decide)).symm.trans h7), fun h => (got_ne (by decide)).trans (g86 ((got_ne (by decide)).symm.trans h)), fun h => (got_ne (by decide)).trans (g97 ((got_ne (by decide)).symm.trans h))⟩
    · obtain rfl := Option.some.inj ho
      have l0 := k6.out.cell 0
      have l1 := k6.out.cell 1
      have l2 := k6.out.cell 2
      have l3 := k6.out.cell 3
      have HB := hid hb; have HS := hid hbs; have HI := hid hi; have GG := hid (And.intro g0 (And.intro g1 (And.intro g2 (And.intro g3 (And.intro g4 (And.intro g5 (And.intro g6 (And.intro g7 (And.intro g67 (And.intro g86 g97))))))))))
      clear ho hd hz hi hlt g0 g1 g2 g3 g4 g5 g6 g7 g67 g86 g97 hb hbs
      go_wp2_with fail
      obtain ⟨g0, g1, g2, g3, g4, g5, g6, g7, g67, g86, g97⟩ := GG.out
      have hi := HI.out
      exact ⟨x30, x31, x32, x33, _, x35, x11, x12, rfl, HB.out, HS.out, fun h => g0 ((got_ne (by decide)).symm.trans h), fun h => g1 ((got_ne (by decide)).symm.trans h), fun h => g2 ((got_ne (by decide)).symm.trans h), fun h => g3 ((got_ne (by decide)).symm.trans h), fun _ => rfl, fun h => g5 ((got_ne (by decide)).symm.trans h), fun h => by obtain ⟨g, e1, e2⟩ := g6 ((got_ne (by decide)).symm.trans h); exact ⟨g, e1, e2.keep (got_ne (by decide)) (fun _ h => h)⟩, fun h => by obtain ⟨g, e1, e2⟩ := g7 ((got_ne (by decide)).symm.trans h); exact ⟨g, e1, e2.keep (got_ne (by decide)) (fun _ h => h)⟩, fun h6 h7 => g67 ((got_ne (by decide)).symm.trans h6) ((got_ne (by decide)).symm.trans h7), fun h => (got_ne (by decide)).trans (g86 ((got_ne (by decide)).symm.trans h)), fun h => (got_ne (by decide)).trans (g97 ((got_ne (by decide)).symm.trans h))⟩
    · obtain rfl := Option.some.inj ho
      obtain rfl := g3 (hd { on := 3, ground := .data } (by simp) rfl)
      obtain rfl := g4 (hd { on := 4, ground := .data } (by simp) rfl)
      have HB := hid hb; have HS := hid hbs; have HI := hid hi; have GG := hid (And.intro g0 (And.intro g1 (And.intro g2 (And.intro g3 (And.intro g4 (And.intro g5 (And.intro g6 (And.intro g7 (And.intro g67 (And.intro g86 g97))))))))))
      clear ho hd hz hi hlt g0 g1 g2 g3 g4 g5 g6 g7 g67 g86 g97 hb hbs
      go_wp2_with (go_at_call 7; refine (CD.out wr HB.out).mono ?_; rintro e w6 ⟨⟨Y, M, D0, hr, mi, sc, wd, rfl, hdt⟩, hb6⟩; have DT := hid hdt; have H6 := hid hb6; clear hb6 hdt)
      obtain ⟨g0, g1, g2, g3, g4, g5, g6, g7, g67, g86, g97⟩ := GG.out
      have hi := HI.out
      exact ⟨x30, x31, x32, _, _, _, x11, x12, rfl, bt (X := w5) HB.out H6.out, Nat.le_trans HS.out H6.out.size, fun h => g0 ((got_ne (by decide)).symm.trans h), fun h => g1 ((got_ne (by decide)).symm.trans h), fun h => g2 ((got_ne (by decide)).symm.trans h), fun _ => rfl, fun _ => rfl, fun _ => ⟨_, _, _, _, _, _, _, rfl, DT.out⟩, fun h => by obtain ⟨g, e1, e2⟩ := g6 ((got_ne (by decide)).symm.trans h); exact ⟨g, e1, e2.keep (got_ne (by decide)) (fun _ h => h.below H6.out)⟩, fun h => by obtain ⟨g, e1, e2⟩ := g7 ((got_ne (by decide)).symm.trans h); exact ⟨g, e1, e2.keep (got_ne (by decide)) (fun _ h => h.below H6.out)⟩, fun h6 h7 => g67 ((got_ne (by decide)).symm.trans h6) ((got_ne (by decide)).symm.trans h7), fun h => (got_ne (by decide)).trans (g86 ((got_ne (by decide)).symm.trans h)), fun h => (got_ne (by decide)).trans (g97 ((got_ne (by decide)).symm.trans h))⟩
    · obtain rfl := Option.some.inj ho
      have HB := hid hb; have HS := hid hbs; have HI := hid hi; have GG := hid (And.intro g0 (And.intro g1 (And.intro g2 (And.intro g3 (And.intro g4 (And.intro g5 (And.intro g6 (And.intro g7 (And.intro g67 (And.intro g86 g97))))))))))
      clear ho hd hz hi hlt g0 g1 g2 g3 g4 g5 g6 g7 g67 g86 g97 hb hbs
      go_wp2_with fail
      obtain ⟨g0, g1, g2, g3, g4, g5, g6, g7, g67, g86, g97⟩ := GG.out
      have hi := HI.out
      exact ⟨x30, x31, x32, x33, x34, x35, _, x12, rfl, HB.out.alloc HS.out _, by rw [World.size_alloc]; exact Nat.le_succ_of_le HS.out, fun h => g0 ((got_ne (by decide)).symm.trans h), fun h => g1 ((got_ne (by decide)).symm.trans h), fun h => g2 ((got_ne (by decide)).symm.trans h), fun h => g3 ((got_ne (by decide)).symm.trans h), fun h => g4 ((got_ne (by decide)).symm.trans h), fun h => g5 ((got_ne (by decide)).symm.trans h), fun _ => ⟨wr.heap.size, rfl, HS.out, ⟨_, _, _, _, _, _, _, _, Blk.new wr _ _⟩, fun h => (got_not hi (g86 ((got_ne (by decide)).symm.trans h))).elim⟩, fun h => by obtain ⟨g, e1, e2⟩ := g7 ((got_ne (by decide)).symm.trans h); exact ⟨g, e1, e2.keep (got_ne (by decide)) (fun _ h => h.alloc _)⟩, fun _ h7 => by obtain ⟨g, e1, e2⟩ := g7 ((got_ne (by decide)).symm.trans h7); rw [e1]; intro he; have := e2.lt; simp at he <;> omega, fun _ => got_new hi, fun h => (got_ne (by decide)).trans (g97 ((got_ne (by decide)).symm.trans h))⟩
    · obtain rfl := Option.some.inj ho
      have HB := hid hb; have HS := hid hbs; have HI := hid hi; have GG := hid (And.intro g0 (And.intro g1 (And.intro g2 (And.intro g3 (And.intro g4 (And.intro g5 (And.intro g6 (And.intro g7 (And.intro g67 (And.intro g86 g97))))))))))
      clear ho hd hz hi hlt g0 g1 g2 g3 g4 g5 g6 g7 g67 g86 g97 hb hbs
      go_wp2_with fail
      obtain ⟨g0, g1, g2, g3, g4, g5, g6, g7, g67, g86, g97⟩ := GG.out
      have hi := HI.out
      exact ⟨x30, x31, x32, x33, x34, x35, x11, _, rfl, HB.out.alloc HS.out _, by rw [World.size_alloc]; exact Nat.le_succ_of_le HS.out, fun h => g0 ((got_ne (by decide)).symm.trans h), fun h => g1 ((got_ne (by decide)).symm.trans h), fun h => g2 ((got_ne (by decide)).symm.trans h), fun h => g3 ((got_ne (by decide)).symm.trans h), fun h => g4 ((got_ne (by decide)).symm.trans h), fun h => g5 ((got_ne (by decide)).symm.trans h), fun h => by obtain ⟨g, e1, e2⟩ := g6 ((got_ne (by decide)).symm.trans h); exact ⟨g, e1, e2.keep (got_ne (by decide)) (fun _ h => h.alloc _)⟩, fun _ => ⟨wr.heap.size, rfl, HS.out, ⟨_, _, _, _, _, _, _, _, Blk.new wr _ _⟩, fun h => (got_not hi (g97 ((got_ne (by decide)).symm.trans h))).elim⟩, fun h6 _ => by obtain ⟨g, e1, e2⟩ := g6 ((got_ne (by decide)).symm.trans h6); rw [e1]; intro he; have := e2.lt; simp at he <;> omega, fun h => (got_ne (by decide)).trans (g86 ((got_ne (by decide)).symm.trans h)), fun _ => got_new hi⟩
    · obtain rfl := Option.some.inj ho
      have d6 := hd { on := 6, ground := .data } (by simp) rfl
      obtain ⟨Y, M, D0, hr, mi, sc, wd, hx, hdt⟩ := g2 (hd { on := 2, ground := .data } (by simp) rfl)
      obtain ⟨gg, hp, gl, ⟨y0, y1, y2, y3, y4, y5, y6, y7, hbl⟩, _⟩ := g6 d6
      have hne : ∀ g, x12 = .pointer (some ⟨g, 0, none⟩) → got.getD 7 false = true → g ≠ gg := fun g hg h7 he => g67 d6 h7 (by rw [hg, hp, he])
      have hne2 := hid hne; have HX := hid hx; have HP := hid hp
      have t0 := hid (there_b hbl 8 (Nat.le_refl 8)); have BL := hid hbl; have DT := hid hdt; have GL := hid gl
      clear hne
      have HB := hid hb; have HS := hid hbs; have HI := hid hi; have D6 := hid d6; have GG := hid (And.intro g0 (And.intro g1 (And.intro g2 (And.intro g3 (And.intro g4 (And.intro g5 (And.intro g6 (And.intro g7 (And.intro g67 (And.intro g86 g97))))))))))
      clear ho hd hz hi hlt g0 g1 g2 g3 g4 g5 g6 g7 g67 g86 g97 hb hbs d6 hbl gl hdt
      refine wpList_store_mid rfl 33 (.tmp 11) (.tmp 32) rfl gg 0 (vcells8 Y M D0 hr mi sc n wd) (by simp [Act.eval, Act.put, hp]) (by simp [Act.eval, Act.put, hx]) t0.out (by kernel_rfl) (by simp [Value.oneCell']) ?_
      refine wpList_nil ?_
      obtain ⟨g0, g1, g2, g3, g4, g5, g6, g7, g67, g86, g97⟩ := GG.out
      have hi := HI.out; have d6 := D6.out
      exact ⟨x30, x31, x32, x33, x34, x35, x11, x12, rfl, below_b8 HB.out GL.out Y M D0 hr mi sc n wd, by rw [size_far8]; exact HS.out, fun h => g0 ((got_ne (by decide)).symm.trans h), fun h => g1 ((got_ne (by decide)).symm.trans h), fun h => g2 ((got_ne (by decide)).symm.trans h), fun h => g3 ((got_ne (by decide)).symm.trans h), fun h => g4 ((got_ne (by decide)).symm.trans h), fun h => g5 ((got_ne (by decide)).symm.trans h), fun _ => ⟨gg, hp, GL.out, ⟨_, _, _, _, _, _, _, _, set_b8 BL.out Y M D0 hr mi sc n wd⟩, fun _ => ⟨_, ⟨Y, M, D0, hr, mi, sc, wd, rfl, DT.out⟩, set_b8 BL.out Y M D0 hr mi sc n wd⟩⟩, fun h => by obtain ⟨g, e1, e2⟩ := g7 ((got_ne (by decide)).symm.trans h); exact ⟨g, e1, e2.keep (got_ne (by decide)) (fun _ hk => blk_far8 hk (hne2.out g e1 ((got_ne (by decide)).symm.trans h)) Y M D0 hr mi sc n wd)⟩, fun h6 h7 => g67 ((got_ne (by decide)).symm.trans h6) ((got_ne (by decide)).symm.trans h7), fun _ => (got_ne (by decide)).trans d6, fun h => (got_ne (by decide)).trans (g97 ((got_ne (by decide)).symm.trans h))⟩
    · obtain rfl := Option.some.inj ho
      have d7 := hd { on := 7, ground := .data } (by simp) rfl
      obtain ⟨Y, M, D0, hr, mi, sc, wd, hx, hdt⟩ := g5 (hd { on := 5, ground := .data } (by simp) rfl)
      obtain ⟨gg, hp, gl, ⟨y0, y1, y2, y3, y4, y5, y6, y7, hbl⟩, _⟩ := g7 d7
      have hne : ∀ g, x11 = .pointer (some ⟨g, 0, none⟩) → got.getD 6 false = true → g ≠ gg := fun g hg h7 he => g67 h7 d7 (by rw [hg, hp, he])
      have hne2 := hid hne; have HX := hid hx; have HP := hid hp
      have t0 := hid (there_b hbl 8 (Nat.le_refl 8)); have BL := hid hbl; have DT := hid hdt; have GL := hid gl
      clear hne
      have HB := hid hb; have HS := hid hbs; have HI := hid hi; have D7 := hid d7; have GG := hid (And.intro g0 (And.intro g1 (And.intro g2 (And.intro g3 (And.intro g4 (And.intro g5 (And.intro g6 (And.intro g7 (And.intro g67 (And.intro g86 g97))))))))))
      clear ho hd hz hi hlt g0 g1 g2 g3 g4 g5 g6 g7 g67 g86 g97 hb hbs d7 hbl gl hdt
      refine wpList_store_mid rfl 33 (.tmp 12) (.tmp 35) rfl gg 0 (vcells8 Y M D0 hr mi sc n' wd) (by simp [Act.eval, Act.put, hp]) (by simp [Act.eval, Act.put, hx]) t0.out (by kernel_rfl) (by simp [Value.oneCell']) ?_
      refine wpList_nil ?_
      obtain ⟨g0, g1, g2, g3, g4, g5, g6, g7, g67, g86, g97⟩ := GG.out
      have hi := HI.out; have d7 := D7.out
      exact ⟨x30, x31, x32, x33, x34, x35, x11, x12, rfl, below_b8 HB.out GL.out Y M D0 hr mi sc n' wd, by rw [size_far8]; exact HS.out, fun h => g0 ((got_ne (by decide)).symm.trans h), fun h => g1 ((got_ne (by decide)).symm.trans h), fun h => g2 ((got_ne (by decide)).symm.trans h), fun h => g3 ((got_ne (by decide)).symm.trans h), fun h => g4 ((got_ne (by decide)).symm.trans h), fun h => g5 ((got_ne (by decide)).symm.trans h), fun h => by obtain ⟨g, e1, e2⟩ := g6 ((got_ne (by decide)).symm.trans h); exact ⟨g, e1, e2.keep (got_ne (by decide)) (fun _ hk => blk_far8 hk (hne2.out g e1 ((got_ne (by decide)).symm.trans h)) Y M D0 hr mi sc n' wd)⟩, fun _ => ⟨gg, hp, GL.out, ⟨_, _, _, _, _, _, _, _, set_b8 BL.out Y M D0 hr mi sc n' wd⟩, fun _ => ⟨_, ⟨Y, M, D0, hr, mi, sc, wd, rfl, DT.out⟩, set_b8 BL.out Y M D0 hr mi sc n' wd⟩⟩, fun h6 h7 => g67 ((got_ne (by decide)).symm.trans h6) ((got_ne (by decide)).symm.trans h7), fun h => (got_ne (by decide)).trans (g86 ((got_ne (by decide)).symm.trans h)), fun _ => (got_ne (by decide)).trans d7⟩
  · rintro got a' wr ⟨x30, x31, x32, x33, x34, x35, x11, x12, rfl, hb, hbs, g0, g1, g2, g3, g4, g5, g6, g7, g67, g86, g97⟩ hall
    obtain ⟨p1, rfl, _, _, e1⟩ := g6 (hall 6 (by decide))
    obtain ⟨p2, rfl, _, _, e2⟩ := g7 (hall 7 (by decide))
    obtain ⟨cs1, ⟨Y, M, D1, h1, m1, sc1, wd1, hq, dt1⟩, bl1⟩ := e1 (hall 8 (by decide))
    obtain ⟨cs2, ⟨Y2, M2, D2, h2, m2, sc2, wd2, hq2, dt2⟩, bl2⟩ := e2 (hall 9 (by decide))
    obtain rfl := Value.agg.inj hq
    obtain rfl := Value.agg.inj hq2
    have B6 := hid (bt B5.out hb)
    have K46 := hid (K45.out.below hb)
    have K56 := hid (K55.out.below hb)
    have K66 := hid (K65.out.below hb)
    have DT1 := hid dt1
    have DT2 := hid dt2
    have q0 := bl1.cell 0
    have q1 := bl1.cell 1
    have q2 := bl1.cell 2
    have r0 := bl2.cell 0
    have r1 := bl2.cell 1
    have r2 := bl2.cell 2
    clear hb hbs g0 g1 g2 g3 g4 g5 g6 g7 g67 g86 g97 hall e1 e2 hq hq2 dt1 dt2 CC CD B5 K45 K55 K65 bl1 bl2
    dsimp only
    by_cases hY : Y = Y2
    case neg =>
      have hY' : (Y != Y2) = true := by simp [hY]
      go_wp2_with fail
      go_ret
      exact ⟨rfl, B6.out⟩
    subst hY
    have hY' : (Y != Y) = false := by simp
    by_cases hM : M = M2
    case neg =>
      have hM' : (M != M2) = true := by simp [hM]
      go_wp2_with fail
      go_ret
      exact ⟨rfl, B6.out⟩
    subst hM
    have hM' : (M != M) = false := by simp
    by_cases hD : D1 = D2
    case neg =>
      have hD' : (D1 != D2) = true := by simp [hD]
      go_wp2_with fail
      go_ret
      exact ⟨rfl, B6.out⟩
    subst hD
    have hD' : (D1 != D1) = false := by simp
    have hday : (s + scan O W I s n2) / 86400 = (s' + scan O W I s' n2) / 86400 := DT1.out.trans DT2.out.symm
    obtain ⟨o1, o2⟩ := scan_bound (sec := s) ZI.out.cont n2 (Nat.le_refl _)
    obtain ⟨o3, o4⟩ := scan_bound (sec := s') ZI.out.cont n2 (Nat.le_refl _)
    obtain ⟨gt1, gt2, gt3, gt4⟩ := GT.out
    obtain ⟨gu1, gu2, gu3, gu4⟩ := GU.out
    obtain ⟨A, hA⟩ := Int.eq_ofNat_of_zero_le (show 0 ≤ s + scan O W I s n2 + 9223372028741760000 by omega)
    obtain ⟨A', hA'⟩ := Int.eq_ofNat_of_zero_le (show 0 ≤ s' + scan O W I s' n2 + 9223372028741760000 by omega)
    have hA2 : A < 18446744073709551616 := by omega
    have hA2' : A' < 18446744073709551616 := by omega
    obtain ⟨dd, hdd⟩ : ∃ dd, A / 86400 = dd := ⟨_, rfl⟩
    have hdd' : A' / 86400 = dd := by omega
    have HZ := hid (fun X (h : Below w.heap.size w X) => ZI.out.below h)
    have CA := hid (fun a b X (h : Below w.heap.size w X) => cdm_any a b s n o d hh x n0 c0 n1 c1 n2 c2 n3 c3 X O D W I A dd (ZI.out.below h) GT.out hA hA2 hdd)
    have CB := hid (fun a b X (h : Below w.heap.size w X) => cdm_any a b s' n' o d hh x n0 c0 n1 c1 n2 c2 n3 c3 X O D W I A' dd (ZI.out.below h) GU.out hA' hA2' hdd')
    obtain ⟨md1, md2⟩ := mdN_le (ydN dd)
    have hall := all_day (mdN (ydN dd)) (by omega) ((dd + 3) % 7) (by omega) md1
    obtain ⟨al3, hal3⟩ : ∃ a : Nat, gb 1 31 1 ||| 9223372036854775808 = a := ⟨_, rfl⟩
    obtain ⟨al5, hal5⟩ : ∃ a : Nat, gb 0 6 1 ||| 9223372036854775808 = a := ⟨_, rfl⟩
    have C3 := hid (fun X => cronAll3 X)
    have C5 := hid (fun X => cronAll5 X)
    rw [hal3] at C3 hall
    rw [hal5] at C5 hall
    have CW := hid (fun X (h : Below w.heap.size w X) => CA.out (al3 : Int) (al5 : Int) X h)
    rw [hall] at CW
    obtain ⟨r, hr⟩ : ∃ r, dmB dom dow (mdN (ydN dd)) ((dd + 3) % 7) = r := ⟨_, rfl⟩
    replace CA := hid (fun X (h : Below w.heap.size w X) => CA.out dom dow X h)
    replace CB := hid (fun X (h : Below w.heap.size w X) => CB.out dom dow X h)
    rw [hr] at CA CB
    clear hday o1 o2 o3 o4 gt1 gt2 gt3 gt4 gu1 gu2 gu3 gu4 hA hA' hA2 hA2' hdd hdd' md1 md2 hall hal3 hal5 hr DT1 DT2 GT GU ZI HZ
    go_upto_region 8 with fail
    clear q0 q1 q2 r0 r1 r2 hY' hM' hD'
    have j0 : ∀ d os, (Go.Sort.grow (redrawn wr d) os).cell? ⟨w.heap.size, 0, none⟩ = some (.int .i64 s) := fun d os => (blk_gr K46.out d os).cell 0
    have j1 : ∀ d os, (Go.Sort.grow (redrawn wr d) os).cell? ⟨w.heap.size, 1, none⟩ = some (.int .i64 n) := fun d os => (blk_gr K46.out d os).cell 1
    have k0 : ∀ d' os, (Go.Sort.grow (redrawn wr d') os).cell? ⟨w.heap.size + 1 + 1, 0, none⟩ = some (.slice o n0 c0) := fun d' os => (blk_gr K66.out d' os).cell 0
    have k1 : ∀ d' os, (Go.Sort.grow (redrawn wr d') os).cell? ⟨w.heap.size + 1 + 1, 1, none⟩ = some (.slice d n1 c1) := fun d' os => (blk_gr K66.out d' os).cell 1
    have k2 : ∀ d' os, (Go.Sort.grow (redrawn wr d') os).cell? ⟨w.heap.size + 1 + 1, 2, none⟩ = some (.slice hh n2 c2) := fun d' os => (blk_gr K66.out d' os).cell 2
    have k3 : ∀ d' os, (Go.Sort.grow (redrawn wr d') os).cell? ⟨w.heap.size + 1 + 1, 3, none⟩ = some (.slice x n3 c3) := fun d' os => (blk_gr K66.out d' os).cell 3
    have E3 := hid (fun d os => Calls.regrown_of (C3.out (Go.Sort.grow (redrawn wr d) os)))
    have E5 := hid (fun d os => Calls.regrown_of (C5.out (Go.Sort.grow (redrawn wr d) os)))
    have E8 := hid (fun d os => Calls.regrown_of (CW.out (Go.Sort.grow (redrawn wr d) os) (bt B6.out (below_regrown wr d os))))
    refine wp_region_quiet_below (by kernel_rfl) (by kernel_rfl) ?_
    repeat (go_big_quiet_step ((first | (go_at_call_of 9 (Value.int .i64 3); exact E3.out _ _) | (go_at_call_of 9 (Value.int .i64 5); exact E5.out _ _) | (go_at_call 8; exact E8.out _ _) | fail)))
    refine wpQuiet_nil ?_
    intro _ hw'
    obtain ⟨⟨dq, osq⟩, hw''⟩ := hw'
    subst hw''
    have B7 := hid (bt B6.out (below_regrown wr dq osq))
    have K47 := hid (blk_gr K46.out dq osq)
    have K57 := hid (blk_gr K56.out dq osq)
    have K67 := hid (blk_gr K66.out dq osq)
    clear j0 j1 k0 k1 k2 k3 E3 E5 E8 B6 K46 K56 K66 CW C3 C5
    generalize Go.Sort.grow (redrawn wr dq) osq = wy at B7 K47 K57 K67 ⊢
    go_upto_region 9 with fail
    have j0 : ∀ d os, (Go.Sort.grow (redrawn wy d) os).cell? ⟨w.heap.size, 0, none⟩ = some (.int .i64 s) := fun d os => (blk_gr K47.out d os).cell 0
    have j1 : ∀ d os, (Go.Sort.grow (redrawn wy d) os).cell? ⟨w.heap.size, 1, none⟩ = some (.int .i64 n) := fun d os => (blk_gr K47.out d os).cell 1
    have i0 : ∀ d os, (Go.Sort.grow (redrawn wy d) os).cell? ⟨w.heap.size + 1, 0, none⟩ = some (.int .i64 s') := fun d os => (blk_gr K57.out d os).cell 0
    have i1 : ∀ d os, (Go.Sort.grow (redrawn wy d) os).cell? ⟨w.heap.size + 1, 1, none⟩ = some (.int .i64 n') := fun d os => (blk_gr K57.out d os).cell 1
    have k0 : ∀ d' os, (Go.Sort.grow (redrawn wy d') os).cell? ⟨w.heap.size + 1 + 1, 0, none⟩ = some (.slice o n0 c0) := fun d' os => (blk_gr K67.out d' os).cell 0
    have k1 : ∀ d' os, (Go.Sort.grow (redrawn wy d') os).cell? ⟨w.heap.size + 1 + 1, 1, none⟩ = some (.slice d n1 c1) := fun d' os => (blk_gr K67.out d' os).cell 1
    have k2 : ∀ d' os, (Go.Sort.grow (redrawn wy d') os).cell? ⟨w.heap.size + 1 + 1, 2, none⟩ = some (.slice hh n2 c2) := fun d' os => (blk_gr K67.out d' os).cell 2
    have k3 : ∀ d' os, (Go.Sort.grow (redrawn wy d') os).cell? ⟨w.heap.size + 1 + 1, 3, none⟩ = some (.slice x n3 c3) := fun d' os => (blk_gr K67.out d' os).cell 3
    have E1 := hid (fun d os => Calls.regrown_of (CA.out (Go.Sort.grow (redrawn wy d) os) (bt B7.out (below_regrown wy d os))))
    have E2 := hid (fun d os => Calls.regrown_of (CB.out (Go.Sort.grow (redrawn wy d) os) (bt B7.out (below_regrown wy d os))))
    refine wp_region_quiet_below (by kernel_rfl) (by kernel_rfl) ?_
    repeat (go_big_quiet_step ((first | (go_at_call_of 8 (Value.int .i64 s); exact E1.out _ _) | (go_at_call_of 8 (Value.int .i64 s'); exact E2.out _ _) | fail)))
    refine wpQuiet_nil ?_
    intro _ hw'
    obtain ⟨⟨dq, osq⟩, hw''⟩ := hw'
    subst hw''
    have B8 := hid (bt B7.out (below_regrown wy dq osq))
    clear j0 j1 i0 i1 k0 k1 k2 k3 E1 E2
    generalize Go.Sort.grow (redrawn wy dq) osq = wz at B8 ⊢
    go_wp2_with fail
    go_ret
    exact ⟨rfl, B8.out⟩

section
open Go.ChangeShapes Go.WideShapes Go.Deep
variable {H : Type} {enc : TypeId × Value → H} {P : Program} {w : World} {base : Nat} {spare : Nat → Bool} {held : Bool}
/-- A slice among a struct's fields, of whatever elements of one cell each. -/
theorem open_sl {t e : TypeId} {fuel : Nat} {c : Value} {x : DataW H × List MemPlace} (ok : Value → Prop) (ht : P.underlying t = some (.slice e)) (hc : P.cellsOf e = 1)
    (hok : ∀ n v y, DataW.trod enc P w base spare held n e [v] = some y → ok v) (h : DataW.trod enc P w base spare held fuel t [c] = some x) : ∃ ao n k, [c] = [.slice ao n k] ∧ Sl w ao n ok := by
  rcases open_slice1 ht hc h with ⟨h0, _⟩ | ⟨a, len, cap, m, n, V, D, Pl, h0, _, _, _, hm, _, hx⟩
  · exact ⟨none, 0, 0, h0, fun i hi => absurd hi (Nat.not_lt_zero _)⟩
  · refine ⟨some a, len, cap, h0, fun i hi => ?_⟩
    have hle : len ≤ m := by rw [hm]; split <;> first | omega | assumption | exact Nat.le_refl _
    obtain ⟨h1, h2⟩ := hx i (by omega)
    exact ⟨a, V i, rfl, h1, hok _ _ _ h2⟩
end

theorem fnCronDaySame_walk (a b s n s' n' : Int) (o : Option Addr) (n0 c0 : Nat) (dd : Option Addr) (n1 c1 : Nat) (h : Option Addr) (n2 c2 : Nat) (x : Option Addr) (n3 c3 : Nat) (w : World) (_ : (Lit.int .u64 a).wf = true) (_ : (Lit.int .u64 b).wf = true) (_ : (Lit.int .i64 s).wf = true) (_ : (Lit.int .i64 n).wf = true) (_ : (Lit.int .i64 s').wf = true) (_ : (Lit.int .i64 n').wf = true)
    (hO : Sl w o n0 isI) (hD : Sl w dd n1 isB) (hH : Sl w h n2 isI) (hX : Sl w x n3 isI) :
    Calls Try.prog 3 #[.int .u64 a, .int .u64 b, .agg #[.int .i64 s, .int .i64 n], .agg #[.int .i64 s', .int .i64 n'], .agg #[.slice o n0 c0, .slice dd n1 c1, .slice h n2 c2, .slice x n3 c3]] w fun e w' => e = .returned (.bool true) ∧ Below w.heap.size w w' :=
  daySame_core a b s n s' n' o dd h x n0 c0 n1 c1 n2 c2 n3 c3 w hO hD hH hX
end Go.Proofs.Ytcaabeocflfboaa
