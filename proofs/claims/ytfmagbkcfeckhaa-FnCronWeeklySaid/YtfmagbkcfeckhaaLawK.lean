/- What the laws of CronNext share: answers that are one alone; the case, UTC's zone, a zone of one offset. -/
import Derived.Test.YtfmagbkcfeckhaaSNext
set_option linter.unusedVariables false
set_option linter.unusedSimpArgs false
namespace Go.Proofs.Ytfmagbkcfeckhaa
open Go.RowKit

/-- The answer behind second l1 of the clocks: instant x and whether there is one. -/
def IsAns (S : Sets) (l1 off x : Int) (b : Bool) : Prop :=
  (b = true ∧ ∃ l, x = l - off ∧ Found S (l1 + 1) (yP ((l1 + 1) / 86400) + 5) l) ∨ (b = false ∧ x = 0 ∧ Nothing S (l1 + 1) (yP ((l1 + 1) / 86400) + 5))
theorem found_one {S : Sets} {a lim l l' : Int} (h : Found S a lim l) (h' : Found S a lim l') : l = l' := by
  rcases Int.lt_trichotomy l l' with g | g | g
  · exact absurd h.2.2.2.1 (h'.2.2.2.2 l h.1 g)
  · exact g
  · exact absurd h'.2.2.2.1 (h.2.2.2.2 l' h'.1 g)
theorem found_some {S : Sets} {a lim l : Int} (h : Found S a lim l) : ¬ Nothing S a lim := fun hn => hn l h.1 (Int.le_trans h.2.1 (by decide)) h.2.2.1 h.2.2.2.1
theorem ans_of {e : Ending} {S : Sets} {l1 off x : Int} {b : Bool} (h : IsAns S l1 off x b) (he : NextOut e S l1 off) : e = .returned (.tuple #[.agg (icells x 0), .bool b]) := by
  rcases h with ⟨rfl, l, rfl, hf⟩ | ⟨rfl, rfl, hn⟩
  · rcases he with ⟨l', rfl, hf'⟩ | ⟨rfl, hn⟩
    · rw [found_one hf hf']
    · exact absurd hn (found_some hf)
  · rcases he with ⟨l', rfl, hf'⟩ | ⟨rfl, hn'⟩
    · exact absurd hn (found_some hf')
    · rfl
theorem least (P : Int → Prop) (a : Int) : ∀ k : Nat, (∃ l, a ≤ l ∧ l < a + k ∧ P l) → ∃ l, a ≤ l ∧ l < a + k ∧ P l ∧ ∀ l', a ≤ l' → l' < l → ¬ P l'
  | 0, ⟨l, h1, h2, _⟩ => by omega
  | k + 1, ⟨l, h1, h2, h3⟩ => by
    by_cases h : ∃ l, a ≤ l ∧ l < a + k ∧ P l
    · obtain ⟨m, p, q, r⟩ := least P a k h
      exact ⟨m, p, by omega, r⟩
    · refine ⟨l, h1, h2, h3, fun l' p q r => h ⟨l', p, by omega, r⟩⟩
theorem ans_ex (S : Sets) (l1 off : Int) (h1 : -62200000000 ≤ l1) (h2 : l1 ≤ 253402500000) : ∃ x b, IsAns S l1 off x b := by
  obtain ⟨a, ha⟩ : ∃ a, l1 + 1 = a := ⟨_, rfl⟩
  have y := year_10000 (day := a / 86400) (by omega) (by omega)
  unfold IsAns
  rw [ha]
  obtain ⟨lim, hlim⟩ : ∃ lim, yP (a / 86400) + 5 = lim := ⟨_, rfl⟩
  rw [hlim]
  by_cases h : ∃ l, a ≤ l ∧ l < a + (400000000000 : Nat) ∧ (l ≤ 330000000000 ∧ yP (l / 86400) ≤ lim ∧ fits S l)
  · obtain ⟨l, p, q, ⟨r, s, t⟩, u⟩ := least (fun l => l ≤ 330000000000 ∧ yP (l / 86400) ≤ lim ∧ fits S l) a _ h
    refine ⟨l - off, true, .inl ⟨rfl, l, rfl, p, r, s, t, fun l' h1 h2 h3 => u l' h1 h2 ⟨by omega, ?_, h3⟩⟩⟩
    exact Int.le_trans (year_mono (a := l' / 86400) (b := l / 86400) (by omega) (by omega) (by omega)) s
  · refine ⟨0, false, .inr ⟨rfl, rfl, fun l p q r s => h ⟨l, p, ?_, ?_, r, s⟩⟩⟩
    · have := year_3000000 (day := l / 86400) (by omega) (by omega) (by omega)
      omega
    · have := year_3000000 (day := l / 86400) (by omega) (by omega) (by omega)
      omega

theorem outF_next {e : Ending} {S : Sets} {l1 off : Int} (h1 : -1000000 ≤ (l1 + 1) / 86400) (h : OutF e (fldB S) l1 off) : NextOut e S l1 off := by
  rcases h with ⟨l, he, hf⟩ | ⟨he, hn⟩
  · exact .inl ⟨l, he, (found_iff S _ _ _ h1).1 hf⟩
  · exact .inr ⟨he, (nothing_iff S _ _ h1).1 hn⟩
theorem ref_ans (S : Sets) (s n off x : Int) (b : Bool) (o d h y : Option Addr) (n0 c0 n1 c1 n2 c2 n3 c3 : Nat) (w : World) (hg : goodT s n) (o1 : -86400 ≤ off) (o2 : off ≤ 86400) (ha : IsAns S (s + off) off x b)
    (hz : ZC (zcells o d h y n0 c0 n1 c1 n2 c2 n3 c3) off w) :
    Calls Try.prog 15 #[.agg (bcells 384 (fldB S)), .agg (icells s n), .agg (zcells o d h y n0 c0 n1 c1 n2 c2 n3 c3)] w fun e w' => e = .returned (.tuple #[.agg (icells x 0), .bool b]) ∧ Below w.heap.size w w' := by
  refine (specRef_any (fldB S) s n off (s + off) o d h y n0 c0 n1 c1 n2 c2 n3 c3 w hg.1 hg.2.1 o1 o2 rfl hz).mono ?_
  rintro e w' ⟨ho, hb⟩
  have := hg.1
  exact ⟨ans_of ha (outF_next (by omega) ho), hb⟩
def SetsOk6 (S : Sets) : Prop := setsAll S
theorem SetsOk6.ok {S : Sets} (h : setsAll S) : setsOk S := ⟨h 0 (by omega), h 1 (by omega), h 2 (by omega), h 4 (by omega)⟩
theorem impl_utc (dl : Int) (S : Sets) (s n x : Int) (b : Bool) (w : World) (hS : setsAll S) (hg : goodT s n) (ha : IsAns S s 0 x b) :
    Calls Try.prog 9 #[.agg (schCells dl S), .agg (icells s n), .agg (zcells none none none none 0 0 0 0 0 0 0 0)] w fun e w' => e = .returned (.tuple #[.agg (icells x 0), .bool b]) ∧ Below w.heap.size w w' := by
  refine (implNext_any dl S s n 0 true none none none none 0 0 0 0 0 0 0 0 w (SetsOk6.ok hS) ⟨by omega, by omega⟩ (by omega) hg (fun X _ => locB_utc none none none none 0 0 0 0 0 0 0 X)).mono ?_
  rintro e w' ⟨ho, hb⟩
  rw [Int.add_zero] at ho
  exact ⟨ans_of ha ho, hb⟩
theorem ref_utc (S : Sets) (s n x : Int) (b : Bool) (w : World) (hg : goodT s n) (ha : IsAns S s 0 x b) :
    Calls Try.prog 15 #[.agg (bcells 384 (fldB S)), .agg (icells s n), .agg (zcells none none none none 0 0 0 0 0 0 0 0)] w fun e w' => e = .returned (.tuple #[.agg (icells x 0), .bool b]) ∧ Below w.heap.size w w' :=
  ref_ans S s n 0 x b none none none none 0 0 0 0 0 0 0 0 w hg (by omega) (by omega) (by rw [Int.add_zero]; exact ha) (zc_utc 0 0 0 0 w)

theorem setsAll_wf {a0 a1 a2 a3 a4 a5 : Int} (h0 : (Lit.int .u64 a0).wf = true) (h1 : (Lit.int .u64 a1).wf = true) (h2 : (Lit.int .u64 a2).wf = true) (h3 : (Lit.int .u64 a3).wf = true) (h4 : (Lit.int .u64 a4).wf = true) (h5 : (Lit.int .u64 a5).wf = true) : setsAll ⟨a0, a1, a2, a3, a4, a5⟩ := fun k hk => by
  have r0 := wf_u64 h0
  have r1 := wf_u64 h1
  have r2 := wf_u64 h2
  have r3 := wf_u64 h3
  have r4 := wf_u64 h4
  have r5 := wf_u64 h5
  rcases (by omega : k = 0 ∨ k = 1 ∨ k = 2 ∨ k = 3 ∨ k = 4 ∨ k = 5) with rfl | rfl | rfl | rfl | rfl | rfl
  · exact ⟨r0.1, by show a0 < _; omega⟩
  · exact ⟨r1.1, by show a1 < _; omega⟩
  · exact ⟨r2.1, by show a2 < _; omega⟩
  · exact ⟨r3.1, by show a3 < _; omega⟩
  · exact ⟨r4.1, by show a4 < _; omega⟩
  · exact ⟨r5.1, by show a5 < _; omega⟩

/-- A schedule's cells, of either kind. -/
abbrev schE (e : Bool) (dl : Int) (S : Sets) : Array Value := #[.bool e, .int .i64 dl, .int .u64 S.sec, .int .u64 S.min, .int .u64 S.hour, .int .u64 S.dom, .int .u64 S.month, .int .u64 S.dow]
theorem case_true (dl : Int) (S : Sets) (s n : Int) (w : World) : Calls Try.prog 8 #[.agg (schE true dl S), .agg (icells s n)] w fun e w' => e = .returned (.bool false) ∧ Below w.heap.size w w' := by
  go_enter Try.func8, Try.ntmps8
  go_wp2_with fail
  go_ret
  exact ⟨rfl, by go_grown⟩
theorem case_false (dl : Int) (S : Sets) (s n : Int) (w : World) : Calls Try.prog 8 #[.agg (schCells dl S), .agg (icells s n)] w fun e w' => Says e (goodT s n) ∧ Below w.heap.size w w' := by
  have B := hid (show Below w.heap.size w ((w.alloc (.cells (schCells dl S) 24)).alloc (.cells (icells s n) 26)) by go_grown)
  have C := hid (fun X => cronGood_any s n X)
  go_enter Try.func8, Try.ntmps8
  go_wp2_with (go_at_call 17; refine (C.out _).mono ?_; rintro e w2 ⟨⟨b, rfl, hg⟩, hb⟩; have HG := hid hg; have B2 := hid (bt B.out hb); clear hb hg)
  go_ret
  exact ⟨⟨b, rfl, HG.out⟩, B2.out⟩
theorem cutc_any (w : World) : Calls Try.prog 10 #[] w fun e w' => e = .returned (.agg (zcells none none none none 0 0 0 0 0 0 0 0)) ∧ Below w.heap.size w w' := by
  have B := hid (show Below w.heap.size w (w.alloc (.cells (zcells none none none none 0 0 0 0 0 0 0 0) 34)) by go_grown)
  have R := hid (Blk.new w 34 (zcells none none none none 0 0 0 0 0 0 0 0))
  go_enter Try.func10, Try.ntmps10
  go_wp2_with fail
  exact bodyPost_ret (results_cell_row rfl _ _ w.heap.size 34 _ (0, 0) _ rfl R.out Try.underlying34 rfl (by kernel_rfl)) rfl ⟨rfl, B.out⟩
end Go.Proofs.Ytfmagbkcfeckhaa
