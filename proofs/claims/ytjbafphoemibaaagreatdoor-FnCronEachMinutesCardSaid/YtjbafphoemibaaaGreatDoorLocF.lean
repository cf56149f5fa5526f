/- A location whose clocks keep one offset, as a block of memory; its look-ups. Walked. -/
import Derived.Test.YtjbafphoemibaaaGreatDoorDtad
set_option linter.unusedVariables false
set_option linter.unusedSimpArgs false
namespace Go.Proofs.YtjbafphoemibaaaGreatDoor
open Go.RowKit

abbrev ucells : Array Value := lcells true ⟨#[85, 84, 67]⟩ (.slice none 0 0) (.slice none 0 0)
/-- UTC's location, or one with one transition. -/
def LocB (w : World) (g : Nat) (b : Bool) (off : Int) : Prop :=
  (b = true ∧ off = 0 ∧ Blk w g 109 ucells) ∨
  (b = false ∧ ∃ gz gt n0 cz ct O D W I, ZLoc w g gz gt n0 1 cz ct O D W I ∧ goodC n0 1 O W I ∧ 0 < n0 ∧ n0 ≤ 64 ∧ off = O (I 0).toNat)
theorem LocB.below {w w' : World} {g : Nat} {b : Bool} {off : Int} (h : LocB w g b off) (hb : Below w.heap.size w w') : LocB w' g b off := by
  rcases h with ⟨h1, h2, h3⟩ | ⟨h1, gz, gt, n0, cz, ct, O, D, W, I, h2, h3⟩
  · exact .inl ⟨h1, h2, h3.below hb⟩
  · exact .inr ⟨h1, gz, gt, n0, cz, ct, O, D, W, I, h2.below hb, h3⟩
theorem LocB.cell {w : World} {g : Nat} {b : Bool} {off : Int} (h : LocB w g b off) : w.cell? ⟨g, 0, none⟩ = some (.bool b) := by
  rcases h with ⟨rfl, h2, h3⟩ | ⟨rfl, gz, gt, n0, cz, ct, O, D, W, I, h2, h3⟩
  · exact h3.cell 0
  · exact h2.loc.cell 0
theorem scan_one {O W I : Nat → Int} {s : Int} (h : W 0 = -9223372036854775808) (hs : -1000000000000 ≤ s) : scan O W I s 1 = O (I 0).toNat := by
  have h2 : W 0 ≤ s := by rw [h]; omega
  unfold scan
  rw [if_pos h2]
theorem LocB.fx {w : World} {g : Nat} {b : Bool} {off : Int} (h : LocB w g b off) : Fx w (locOf b g) off := by
  intro s h1 h2
  rcases h with ⟨rfl, h2, h3⟩ | ⟨rfl, gz, gt, n0, cz, ct, O, D, W, I, h2, h3, h4, h5, h6⟩
  · exact .inl ⟨rfl, h2⟩
  · exact .inr ⟨g, gz, gt, n0, 1, cz, ct, O, D, W, I, rfl, h2, h3, h4, by decide, h5, by decide, by rw [scan_one (h3.2.1 (by decide)) h1, h6]⟩

/-- What a look-up gives there. -/
def LooksF (e : Ending) (off : Int) : Prop := ∃ nm b, e = .returned (.tuple #[.string nm, .int .i64 off, .int .i64 (-9223372036854775808), .int .i64 9223372036854775807, .bool b])

set_option maxHeartbeats 1600000 in
set_option maxRecDepth 100000 in
theorem lookF_any (g : Nat) (b : Bool) (off s : Int) (w : World) (h : LocB w g b off) (h1 : -1000000000000 ≤ s) (h2 : s ≤ 1000000000000) :
    Calls Tryz.prog 138 #[.pointer (some ⟨g, 0, none⟩), .int .i64 s] w fun e w' => LooksF e off ∧ Below w.heap.size w w' := by
  rcases h with ⟨rfl, rfl, hb⟩ | ⟨rfl, gz, gt, n0, cz, ct, O, D, W, I, hz, hc, hn, hn2, ho⟩
  · have c2 := hb.cell 2
    clear hb
    go_enter Tryz.func138, Tryz.ntmps138
    go_wp2_with (go_at_call 143; refine (get_some _ _).mono ?_; rintro e w' ⟨rfl, rfl⟩)
    go_returns
    exact ⟨⟨_, _, rfl⟩, Below.refl _ _⟩
  · refine (lookup_zone g gz gt n0 1 cz ct s w O D W I hz hc hn (by decide) hn2 (by decide) (by omega) (by omega)).mono ?_
    rintro e w' ⟨⟨nm, o, st, en, b', lo, he, ho', sp⟩, hb⟩
    refine ⟨⟨nm, b', ?_⟩, hb⟩
    have l0 : lo = 0 := by have := sp.lt; omega
    rw [he, ho', scan_one (hc.2.1 (by decide)) h1, ← ho, sp.start, l0, hc.2.1 (by decide), sp.last (by omega)]

theorem utcB_any (w : World) : Calls Tryz.prog 26 #[] w fun e w' => (∃ g, e = .returned (.pointer (some ⟨g, 0, none⟩)) ∧ Blk w' g 109 ucells ∧ w.heap.size ≤ g) ∧ Below w.heap.size w w' := by
  go_enter Tryz.func26, Tryz.ntmps26
  go_wp2
  go_ret
  exact ⟨⟨_, rfl, Blk.new w 109 _, Nat.le_refl _⟩, by go_grown⟩

/-- Time.Location: the location that is set, or UTC's. -/
theorem locationT_any (n e off : Int) (g0 : Nat) (b : Bool) (w : World) (h : LocB w g0 b off) : Calls Tryz.prog 117 #[.agg (tcells n e (locOf b g0))] w fun e' w' => (∃ g, e' = .returned (.pointer (some ⟨g, 0, none⟩)) ∧ LocB w' g b off ∧ locOf b g = locOf b g0 ∧ (b = true → w.heap.size ≤ g ∧ Blk w' g 109 ucells) ∧ (b = false → g = g0)) ∧ Below w.heap.size w w' := by
  cases b
  · have B := hid (show Below w.heap.size w (w.alloc (.cells (tcells n e (some ⟨g0, 0, none⟩)) 52)) by go_grown)
    have L := hid (h.below B.out)
    clear h
    show Calls _ _ #[.agg (tcells n e (some ⟨g0, 0, none⟩))] _ _
    go_enter Tryz.func117, Tryz.ntmps117
    go_wp2_with fail
    go_ret
    exact ⟨⟨_, rfl, L.out, rfl, fun e => (by cases e), fun _ => rfl⟩, B.out⟩
  · have B := hid (show Below w.heap.size w (w.alloc (.cells (tcells n e none) 52)) by go_grown)
    have hoff : off = 0 := by
      rcases h with ⟨_, h2, _⟩ | ⟨h1, _⟩
      · exact h2
      · cases h1
    subst hoff
    clear h
    have CU := hid (fun w => utcB_any w)
    show Calls _ _ #[.agg (tcells n e none)] _ _
    go_enter Tryz.func117, Tryz.ntmps117
    go_wp2_with (go_at_call 26; refine (CU.out _).mono ?_; rintro e' w1 ⟨⟨g, rfl, hc, hge⟩, hb⟩; have HC := hid hc; have HG := hid (Nat.le_trans B.out.size hge); have HB := hid (bt B.out hb); clear hb hc hge)
    go_ret
    exact ⟨⟨_, rfl, .inl ⟨rfl, rfl, HC.out⟩, rfl, fun _ => ⟨HG.out, HC.out⟩, fun e => (by cases e)⟩, HB.out⟩
end Go.Proofs.YtjbafphoemibaaaGreatDoor
