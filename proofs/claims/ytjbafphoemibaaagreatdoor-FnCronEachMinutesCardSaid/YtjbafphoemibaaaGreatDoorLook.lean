/- The look-up of a second in a location that a zone's lists made: the offset is the one that the reference scans for. Walked. -/
import Derived.Test.YtjbafphoemibaaaGreatDoorLocC
import Derived.Test.YtjbafphoemibaaaGreatDoorAbs
import Derived.BigQuiet
set_option linter.unusedVariables false
set_option linter.unusedSimpArgs false
namespace Go.Proofs.YtjbafphoemibaaaGreatDoor
open Go.RowKit

/-- The transition in use. -/
structure Span (W : Nat → Int) (n : Nat) (s st en : Int) (lo : Nat) : Prop where
  lt : lo < n
  start : st = W lo
  low : W lo ≤ s
  high : lo + 1 < n → s < W (lo + 1)
  fin : lo + 1 < n → en = W (lo + 1)
  last : lo + 1 = n → en = 9223372036854775807

/-- What a look-up gives. -/
def Looks (e : Ending) (O W I : Nat → Int) (n : Nat) (s : Int) : Prop := ∃ nm off st en b lo, e = .returned (.tuple #[.string nm, .int .i64 off, .int .i64 st, .int .i64 en, .bool b]) ∧ off = scan O W I s n ∧ Span W n s st en lo

theorem when_mono {W : Nat → Int} {n : Nat} (h : ∀ i, i + 1 < n → W i < W (i + 1)) (i : Nat) : ∀ j, i < j → j < n → W i < W j
  | 0, h1, _ => absurd h1 (Nat.not_lt_zero _)
  | j + 1, h1, h2 => by
    have hj := h j h2
    by_cases e : i = j
    · rw [e]; exact hj
    · have := when_mono h i j (by omega) (by omega)
      omega
theorem scan_span {O W I : Nat → Int} {n : Nat} {s st en : Int} {lo : Nat} (h : ∀ i, i + 1 < n → W i < W (i + 1)) (p : Span W n s st en lo) : ∀ k, lo < k → k ≤ n → scan O W I s k = O (I lo).toNat
  | 0, h1, _ => absurd h1 (Nat.not_lt_zero _)
  | k + 1, h1, h2 => by
    unfold scan
    by_cases e : lo = k
    · subst e
      rw [if_pos p.low]
    · have h3 : ¬ W k ≤ s := by
        have a1 := p.high (by omega)
        by_cases e2 : lo + 1 = k
        · rw [← e2]; omega
        · have := when_mono h (lo + 1) k (by omega) (by omega)
          omega
      rw [if_neg h3]
      exact scan_span h p k (by omega) (by omega)

theorem get_some (p : Addr) (w : World) : Calls Tryz.prog 143 #[.pointer (some p)] w fun e w' => e = .returned (.pointer (some p)) ∧ w = w' := by
  go_enter Tryz.func143, Tryz.ntmps143
  go_wp2
  go_ret
  exact ⟨rfl, rfl⟩
theorem get_none (w : World) : Calls Tryz.prog 143 #[.pointer none] w fun e w' => (∃ g, e = .returned (.pointer (some ⟨g, 0, none⟩)) ∧ w'.cell? ⟨g, 0, none⟩ = some (.bool true)) ∧ Below w.heap.size w w' := by
  have C := hid (utc_any w)
  go_enter Tryz.func143, Tryz.ntmps143
  go_wp2_with (go_at_call 26; refine C.out.mono ?_; rintro e w' ⟨⟨g, rfl, hc⟩, hb⟩; replace hb := hid hb; replace hc := hid hc)
  go_ret
  exact ⟨⟨_, rfl, hc.out⟩, hb.out⟩

set_option maxHeartbeats 3200000 in
set_option maxRecDepth 100000 in
theorem lookup_zone (g gz gt n0 n2 cz ct : Nat) (s : Int) (w : World) (O : Nat → Int) (D : Nat → Bool) (W I : Nat → Int) (z : ZLoc w g gz gt n0 n2 cz ct O D W I) (hc : goodC n0 n2 O W I) (p0 : 0 < n0) (p2 : 0 < n2) (hn0 : n0 ≤ 64) (hn2 : n2 ≤ 4096) (hs1 : -9223372036854775808 ≤ s) (hs2 : s ≤ 9223372036854775807) :
    Calls Tryz.prog 138 #[.pointer (some ⟨g, 0, none⟩), .int .i64 s] w fun e w' => Looks e O W I n2 s ∧ Below w.heap.size w w' := by
  have HZ := hid z
  have HC := hid hc
  have c2 := z.loc.cell 2
  have c3 := z.loc.cell 3
  have c7 := z.loc.cell 7
  have q0 : ((n0 : Int) == 0) = false := by rw [beq_eq_false_iff_ne]; omega
  have q2 : ((n2 : Int) == 0) = false := by rw [beq_eq_false_iff_ne]; omega
  have i0 : (0 : Int) < (n2 : Int) := by omega
  have i1 : ¬ (n2 : Int) ≤ 0 := by omega
  have t0 := (z.trs 0 p2).1
  rw [hc.2.1 p2] at t0
  have hs1' : ¬ s < -9223372036854775808 := by omega
  have hw0 : W 0 ≤ s := by rw [hc.2.1 p2]; exact hs1
  have HW0 := hid hw0
  clear z hc hw0
  go_enter Tryz.func138, Tryz.ntmps138
  go_wp2_with (go_at_call 143; refine (get_some _ _).mono ?_; rintro e w' ⟨rfl, rfl⟩)
  go_loop [7, 12, 13] (fun ev lv hv => ∃ (en : Int) (a b : Nat), ev = .int .i64 en ∧ lv = .int .i64 a ∧ hv = .int .i64 b ∧ a < b ∧ b ≤ n2 ∧ W a ≤ s ∧ (b < n2 → s < W b ∧ en = W b) ∧ (b = n2 → en = 9223372036854775807)) (fun _ lv hv => (intOf hv - intOf lv).toNat)
  case atStart => exact ⟨_, 0, n2, rfl, rfl, rfl, p2, Nat.le_refl _, HW0.out, fun h => absurd h (Nat.lt_irrefl _), fun _ => rfl⟩
  case round =>
    obtain ⟨en, a, b, rfl, rfl, rfl, hab, hb, hwa, hlt, heq⟩ := hrel
    have HWA := hid hwa
    have HLT := hid hlt
    have HEQ := hid heq
    clear hwa hlt heq
    have d0 : IntKind.i64.wrap ((b : Int) - (a : Int)) = (b : Int) - (a : Int) := IntWalk.i64_in _ (by omega)
    by_cases hgt : 1 < (b : Int) - (a : Int)
    · obtain ⟨x, hx⟩ : ∃ x, a + b = x := ⟨_, rfl⟩
      obtain ⟨m, hm⟩ : ∃ m, x / 2 = m := ⟨_, rfl⟩
      have x1 : (a : Int) + (b : Int) = (x : Int) := by omega
      have xb : x ≤ 9223372036854775807 := by omega
      have xb' : x ≤ 18446744073709551615 := by omega
      have m1 : a < m := by omega
      have m2 : m < b := by omega
      have m3 : m < n2 := by omega
      have mb : m ≤ 9223372036854775807 := by omega
      have mb' : m ≤ 18446744073709551615 := by omega
      have u1 : (m : Int) < (n2 : Int) := by omega
      have u2 : ¬ (n2 : Int) ≤ (m : Int) := by omega
      have y1 : (x : Int) / 2 = (m : Int) := divN hm
      have w1 := wi xb
      have w2 := wj xb
      have w3 := wv xb'
      have w4 := wv mb'
      have w5 := wi mb
      have w6 := wj mb
      obtain ⟨v, hv⟩ : ∃ v, W m = v := ⟨_, rfl⟩
      have tm := (HZ.out.trs m m3).1
      rw [hv, Nat.mul_comm] at tm
      have HV := hid hv
      clear hx hm hv xb xb' mb mb'
      by_cases hlt : s < v
      · go_wp2_with fail
        go_round
        case rel => clear w1 w2 w3 w4 w5 w6; exact ⟨v, a, m, rfl, rfl, rfl, m1, by omega, HWA.out, fun _ => by rw [HV.out]; exact ⟨hlt, rfl⟩, fun h => by omega⟩
        case measure => clear w1 w2 w3 w4 w5 w6; simp [intOf]; omega
      · go_wp2_with fail
        go_round
        case rel => clear w1 w2 w3 w4 w5 w6; exact ⟨en, m, b, rfl, rfl, rfl, m2, hb, by rw [HV.out]; omega, HLT.out, HEQ.out⟩
        case measure => clear w1 w2 w3 w4 w5 w6; simp [intOf]; omega
    · obtain rfl : b = a + 1 := by omega
      have a1 : a < n2 := by omega
      obtain ⟨e1, e2⟩ := HC.out.2.2.1 a a1
      obtain ⟨j, hj⟩ := Int.eq_ofNat_of_zero_le e1
      have j1 : j < n0 := by omega
      have j2 : (j : Int) < (n0 : Int) := by omega
      have j3 : ¬ (n0 : Int) ≤ (j : Int) := by omega
      have a2 : (a : Int) < (n2 : Int) := by omega
      have a3 : ¬ (n2 : Int) ≤ (a : Int) := by omega
      obtain ⟨f0, f1⟩ := HZ.out.trs a a1
      obtain ⟨g0, g1, g2⟩ := HZ.out.zones j j1
      rw [hj] at f1
      rw [Nat.mul_comm] at f0 f1 g0 g1 g2
      have HSC := hid (show O j = scan O W I s n2 ∧ Span W n2 s (W a) en a by
        have sp : Span W n2 s (W a) en a := ⟨a1, rfl, HWA.out, fun h => (HLT.out h).1, fun h => (HLT.out h).2, HEQ.out⟩
        refine ⟨?_, sp⟩
        rw [scan_span HC.out.2.2.2 sp n2 a1 (Nat.le_refl _), hj]
        rfl)
      obtain ⟨ov, hov⟩ : ∃ ov, O j = ov := ⟨_, rfl⟩
      obtain ⟨wv, hwv⟩ : ∃ wv, W a = wv := ⟨_, rfl⟩
      rw [hov] at g1 HSC
      rw [hwv] at f0 HSC
      have R := hid HZ.out.loc
      clear hj hov hwv HWA HLT HEQ HW0 HC
      go_upto_region 35 with fail
      have r2 : ∀ d os, (Go.Sort.grow (redrawn w d) os).cell? ⟨g, 2, none⟩ = some (.slice (some ⟨gz, 0, none⟩) n0 cz) := fun d os => (blk_gr R.out d os).cell 2
      have rx : ∀ d os, (Go.Sort.grow (redrawn w d) os).cell? ⟨gt, a * 4 + 1, none⟩ = some (.int .u8 (j : Int)) := fun d os => cell_gr f1 d os
      refine wp_region_quiet_below (by kernel_rfl) (by kernel_rfl) ?_
      repeat (go_big_quiet_step (fail))
      refine wpQuiet_nil ?_
      intro _ hw'
      obtain ⟨⟨dq, osq⟩, hw''⟩ := hw'
      subst hw''
      have B2 := hid (below_regrown w dq osq)
      have s0 := cell_gr f0 dq osq
      have z0 := cell_gr g0 dq osq
      have z1 := cell_gr g1 dq osq
      have z2 := cell_gr g2 dq osq
      clear r2 rx f0 f1 g0 g1 g2 c2 c3 c7 t0
      generalize Go.Sort.grow (redrawn w dq) osq = w3 at B2 s0 z0 z1 z2 ⊢
      go_wp2_with fail
      go_returns
      exact ⟨⟨_, _, _, _, _, _, rfl, HSC.out.1, HSC.out.2⟩, B2.out⟩
end Go.Proofs.YtjbafphoemibaaaGreatDoor
