/- The absolute second of a moment on the clocks of its location; its day of the month and of the week. Walked. -/
import Derived.Test.YtjbafphoemibaaaGreatDoorLook
set_option linter.unusedVariables false
set_option linter.unusedSimpArgs false
namespace Go.Proofs.YtjbafphoemibaaaGreatDoor
open Go.RowKit

/-- The offset of a location at a second: none for UTC. -/
def At (w : World) (p : Option Addr) (s off : Int) : Prop :=
  (p = none ∧ off = 0) ∨ ∃ g gz gt n0 n2 cz ct O D W I, p = some ⟨g, 0, none⟩ ∧ ZLoc w g gz gt n0 n2 cz ct O D W I ∧ goodC n0 n2 O W I ∧ 0 < n0 ∧ 0 < n2 ∧ n0 ≤ 64 ∧ n2 ≤ 4096 ∧ off = scan O W I s n2
theorem At.below {w w' : World} {p : Option Addr} {s off : Int} (h : At w p s off) (hb : Below w.heap.size w w') : At w' p s off := by
  rcases h with h | ⟨g, gz, gt, n0, n2, cz, ct, O, D, W, I, h1, h2, h3⟩
  · exact .inl h
  · exact .inr ⟨g, gz, gt, n0, n2, cz, ct, O, D, W, I, h1, h2.below hb, h3⟩

theorem abs_utc (n e s : Int) (a : Nat) (w : World) (h0 : 0 ≤ n) (h1 : n < 1073741824) (hs : e + -62135596800 = s) (b1 : -1000000000000 ≤ s) (b2 : s ≤ 1000000000000) (ha : s + 9223372028741760000 = (a : Int)) :
    Calls Tryz.prog 128 #[.agg (tcells n e none)] w fun e' w' => e' = .returned (.int .u64 a) ∧ Below w.heap.size w w' := by
  have B := hid (show Below w.heap.size w (w.alloc (.cells (tcells n e none) 52)) by go_grown)
  have R := hid (Blk.new w 52 (tcells n e none))
  have CG := hid (fun w => get_none w)
  have CU := hid (fun X hg => unixSec_any w.heap.size n e s none X hg h0 h1 hs (by omega) (by omega))
  obtain ⟨z, hz⟩ : ∃ z, IntKind.i64.wrap (s + 9223372028741760000) = z := ⟨_, rfl⟩
  have hu : IntKind.u64.wrap z = (a : Int) := by rw [← hz, IntKind.wrap_i64, IntKind.wrap_u64]; omega
  have hz' : wrap64 (s + 9223372028741760000) = z := by unfold wrap64; rw [← hz, IntKind.wrap_i64]
  clear hs b1 b2 ha h0 h1 hz
  go_enter Tryz.func128, Tryz.ntmps128
  go_wp2_with (first
    | (go_at_call 143; refine (CG.out _).mono ?_; rintro e' w1 ⟨⟨g, rfl, hc⟩, hb⟩; have HC := hid hc; have HB := hid (bt B.out hb); have R1 := hid (R.out.below hb); have c0 := HC.out; clear hb hc)
    | (go_at_call 71; refine (CU.out _ R1.out).mono ?_; rintro e' w2 ⟨rfl, rfl⟩))
  go_ret
  exact ⟨rfl, HB.out⟩

theorem abs_zone (g gz gt n0 n2 cz ct : Nat) (n e s off : Int) (a : Nat) (w : World) (O : Nat → Int) (D : Nat → Bool) (W I : Nat → Int) (z : ZLoc w g gz gt n0 n2 cz ct O D W I) (hc : goodC n0 n2 O W I) (p0 : 0 < n0) (p2 : 0 < n2) (hn0 : n0 ≤ 64) (hn2 : n2 ≤ 4096) (h0 : 0 ≤ n) (h1 : n < 1073741824) (hs : e + -62135596800 = s) (b1 : -1000000000000 ≤ s) (b2 : s ≤ 1000000000000) (ho : off = scan O W I s n2) (ha : s + off + 9223372028741760000 = (a : Int)) :
    Calls Tryz.prog 128 #[.agg (tcells n e (some ⟨g, 0, none⟩))] w fun e' w' => e' = .returned (.int .u64 a) ∧ Below w.heap.size w w' := by
  have B0 : Below w.heap.size w (w.alloc (.cells (tcells n e (some ⟨g, 0, none⟩)) 52)) := by go_grown
  have z1 := z.below B0
  have B := hid B0
  have R := hid (Blk.new w 52 (tcells n e (some ⟨g, 0, none⟩)))
  have c0 := z1.loc.cell 0
  have c7 := z1.loc.cell 7
  have CU := hid (fun X hg => unixSec_any w.heap.size n e s (some ⟨g, 0, none⟩) X hg h0 h1 hs (by omega) (by omega))
  have CL := hid (lookup_zone g gz gt n0 n2 cz ct s _ O D W I z1 hc p0 p2 hn0 hn2 (by omega) (by omega))
  obtain ⟨o1, o2⟩ := scan_bound (sec := s) hc n2 (Nat.le_refl _)
  rw [← ho] at o1 o2
  have HO := hid ho
  obtain ⟨l, hl⟩ : ∃ l, s + off = l := ⟨_, rfl⟩
  rw [hl] at ha
  have hl1 : IntKind.i64.wrap (s + off) = l := by rw [hl]; exact IntWalk.i64_in _ (by omega)
  have hl2 : wrap64 (s + off) = l := by rw [hl]; exact IntWalk.wrap64_in _ (by omega)
  obtain ⟨y, hy⟩ : ∃ y, IntKind.i64.wrap (l + 9223372028741760000) = y := ⟨_, rfl⟩
  have hu : IntKind.u64.wrap y = (a : Int) := by clear hl1 hl2; rw [← hy, IntKind.wrap_i64, IntKind.wrap_u64]; omega
  have hy' : wrap64 (l + 9223372028741760000) = y := by unfold wrap64; rw [← hy, IntKind.wrap_i64]
  clear hs b1 b2 ha h0 h1 ho z z1 hc p0 p2 hn0 hn2 B0 o1 o2 hl hy
  go_enter Tryz.func128, Tryz.ntmps128
  go_wp2_with (first
    | (go_at_call 71; refine (CU.out _ R.out).mono ?_; rintro e' w2 ⟨rfl, rfl⟩)
    | (go_at_call 138; refine CL.out.mono ?_; rintro e' w3 ⟨⟨nm, o', st, en, b', lo, rfl, ho', _⟩, hb⟩; have HB := hid (bt B.out hb); obtain rfl : o' = off := ho'.trans HO.out.symm; clear hb ho'))
  go_ret
  exact ⟨rfl, HB.out⟩

theorem absSec_any (n e s off : Int) (p : Option Addr) (a : Nat) (w : World) (h0 : 0 ≤ n) (h1 : n < 1073741824) (hs : e + -62135596800 = s) (b1 : -1000000000000 ≤ s) (b2 : s ≤ 1000000000000) (hp : At w p s off) (ha : s + off + 9223372028741760000 = (a : Int)) :
    Calls Tryz.prog 128 #[.agg (tcells n e p)] w fun e' w' => e' = .returned (.int .u64 a) ∧ Below w.heap.size w w' := by
  rcases hp with ⟨rfl, rfl⟩ | ⟨g, gz, gt, n0, n2, cz, ct, O, D, W, I, rfl, z, hc, p0, p2, hn0, hn2, ho⟩
  · exact abs_utc n e s a w h0 h1 hs b1 b2 (by omega)
  · exact abs_zone g gz gt n0 n2 cz ct n e s off a w O D W I z hc p0 p2 hn0 hn2 h0 h1 hs b1 b2 ho ha

theorem day_any (n e s off : Int) (p : Option Addr) (a d : Nat) (w : World) (h0 : 0 ≤ n) (h1 : n < 1073741824) (hs : e + -62135596800 = s) (b1 : -1000000000000 ≤ s) (b2 : s ≤ 1000000000000) (hp : At w p s off) (ha : s + off + 9223372028741760000 = (a : Int)) (ha2 : a < 18446744073709551616) (hd : a / 86400 = d) :
    Calls Tryz.prog 115 #[.agg (tcells n e p)] w fun e' w' => e' = .returned (.int .i64 (mdN (ydN d) : Nat)) ∧ Below w.heap.size w w' := by
  have B := hid (show Below w.heap.size w (w.alloc (.cells (tcells n e p) 52)) by go_grown)
  have CA := hid (absSec_any n e s off p a _ h0 h1 hs b1 b2 (hp.below B.out) ha)
  have CD := hid (fun w => adays_any a d w ha2 hd)
  have db : d < 1000000000000000000 := by omega
  have CS := hid (fun w => asplit_any d w db)
  have yb := ydN_lt d
  have CY := hid (fun w => ysplit_any (ydN d) w (by omega))
  obtain ⟨y, hy⟩ : ∃ y, ydN d = y := ⟨_, rfl⟩
  obtain ⟨v, hv⟩ : ∃ v, mdN (ydN d) = v := ⟨_, rfl⟩
  rw [hv] at CY ⊢
  rw [hy] at CS CY
  clear hy hv yb db hd ha2 ha hp hs h0 h1 b1 b2
  go_enter Tryz.func115, Tryz.ntmps115
  go_wp2_with (first
    | (go_at_call 128; refine CA.out.mono ?_; rintro e' w2 ⟨rfl, hb⟩; have HB := hid (bt B.out hb); clear hb)
    | (go_at_call 129; refine (CD.out _).mono ?_; rintro e' w3 ⟨rfl, rfl⟩)
    | (go_at_call 130; refine (CS.out _).mono ?_; rintro e' w4 ⟨rfl, rfl⟩)
    | (go_at_call 131; refine (CY.out _).mono ?_; rintro e' w5 ⟨rfl, rfl⟩))
  go_ret
  exact ⟨rfl, HB.out⟩

theorem wday_any (n e s off : Int) (p : Option Addr) (a d : Nat) (w : World) (h0 : 0 ≤ n) (h1 : n < 1073741824) (hs : e + -62135596800 = s) (b1 : -1000000000000 ≤ s) (b2 : s ≤ 1000000000000) (hp : At w p s off) (ha : s + off + 9223372028741760000 = (a : Int)) (ha2 : a < 18446744073709551616) (hd : a / 86400 = d) :
    Calls Tryz.prog 141 #[.agg (tcells n e p)] w fun e' w' => e' = .returned (.int .i64 ((d + 3) % 7 : Nat)) ∧ Below w.heap.size w w' := by
  have B := hid (show Below w.heap.size w (w.alloc (.cells (tcells n e p) 52)) by go_grown)
  have CA := hid (absSec_any n e s off p a _ h0 h1 hs b1 b2 (hp.below B.out) ha)
  have CD := hid (fun w => adays_any a d w ha2 hd)
  have db : d < 1000000000000000000 := by omega
  obtain ⟨v, hv⟩ : ∃ v, (d + 3) % 7 = v := ⟨_, rfl⟩
  have CS := hid (fun w => aweek_any d v w db hv)
  rw [hv]
  clear hv db hd ha2 ha hp hs h0 h1 b1 b2
  go_enter Tryz.func141, Tryz.ntmps141
  go_wp2_with (first
    | (go_at_call 128; refine CA.out.mono ?_; rintro e' w2 ⟨rfl, hb⟩; have HB := hid (bt B.out hb); clear hb)
    | (go_at_call 129; refine (CD.out _).mono ?_; rintro e' w3 ⟨rfl, rfl⟩)
    | (go_at_call 148; refine (CS.out _).mono ?_; rintro e' w4 ⟨rfl, rfl⟩))
  go_ret
  exact ⟨rfl, HB.out⟩
end Go.Proofs.YtjbafphoemibaaaGreatDoor
