/- FnMatchRange. Walked. -/
import Derived.Test.YtjddckigiinjgaaDoorMatL
import Derived.Deep.RegionWith
import Derived.Laws.IdiomStrings
set_option linter.unusedVariables false
set_option linter.unusedSimpArgs false
namespace Go.Proofs.YtjddckigiinjgaaDoor
open Go.RowKit

theorem conv_one (c : Nat) (hc : c < 128) (X : World) (g : Nat) (h : X.cell? ⟨g, 0, none⟩ = some (.int .u8 c)) : (convert 24 9 (.slice (some ⟨g, 0, none⟩) 1 1)).run Tryd.prog X = .ok (.string (bt [UInt8.ofNat c])) X := by
  have hu : (UInt8.ofNat c).toNat = c := by simp; omega
  exact run_convert_bytes_back (P := Tryd.prog) X _ _ _ ⟨g, 0, none⟩ 1 [UInt8.ofNat c] Tryd.underlying24 (by kernel_rfl) Tryd.underlying9 (fun j hj => by
    obtain rfl : j = 0 := by simpa using hj
    rw [Addr.add_zero', h]
    simp [hu])
set_option maxHeartbeats 3200000 in
set_option maxRecDepth 100000 in
theorem range_core (lo hi : Nat) (s : ByteArray) (w : World) (hs : s.size ≤ 2147483647) (hlo : lo < 128) (hhi : hi < 128) : Calls Tryd.prog 3 #[.int .u8 lo, .int .u8 hi, .string s] w fun e w' => e = .returned (.bool true) ∧ Below w.heap.size w w' := by
  have CA := hid (fun X => asked_any s X hs)
  have CF := hid (fun X => first_slash s X hs)
  have l1 : ¬ (128 : Int) ≤ (lo : Int) := by omega
  have l2 : ¬ (128 : Int) ≤ (hi : Int) := by omega
  obtain ⟨q, hq⟩ : ∃ q, askedB s = q := ⟨_, rfl⟩
  rw [hq] at CA
  have HQ := hid hq
  clear hq
  cases q
  · go_enter Tryd.func3, Tryd.ntmps3
    go_wp2_with (go_at_call 4; refine (CA.out _).mono ?_; rintro e w' ⟨rfl, rfl⟩)
    go_ret
    exact ⟨rfl, Below.refl _ _⟩
  · rcases fst_ex 47 s with ⟨n, hn⟩
    have CF := hid (show ∀ X, Calls Tryd.prog 5 #[.string s, .int .u8 47] X fun e w' => e = .returned (.int .i64 n) ∧ X = w' from fun X => (CF.out X).mono (fun e w' h => by
      obtain ⟨m, rfl, h2, h3⟩ := h
      rw [h3.same hn]
      exact ⟨rfl, h2⟩))
    by_cases h0 : 0 ≤ n
    · go_enter Tryd.func3, Tryd.ntmps3
      go_wp2_with (first
        | (go_at_call 4; refine (CA.out _).mono ?_; rintro e w' ⟨rfl, rfl⟩)
        | (go_at_call 5; refine (CF.out _).mono ?_; rintro e w' ⟨rfl, rfl⟩))
      go_ret
      exact ⟨rfl, Below.refl _ _⟩
    · have v1 := conv_one lo hlo
      have v2 := conv_one hi hhi
      have hq := HQ.out
      unfold askedB at hq
      rw [Bool.and_eq_true, Bool.and_eq_true] at hq
      obtain ⟨_, q2, q3⟩ := hq
      have y0 : 0 < s.size := by
        rcases Nat.eq_zero_or_pos s.size with h | h
        · exfalso
          have : s.toList = [] := List.length_eq_zero_iff.1 (by rw [size_list, h])
          rw [this] at q2
          cases q2
        · exact h
      obtain ⟨r, y1⟩ : ∃ r, s[0].toNat = r := ⟨_, rfl⟩
      have hr : r < 128 := by
        unfold plainB at q3
        rw [List.all_eq_true] at q3
        have := q3 s[0] (List.mem_of_getElem? (at_list s 0 y0))
        rw [y1] at this
        exact of_decide_eq_true this
      have V3 := hid (pat_in lo hi)
      have V4 := hid (pat_out lo hi)
      have CI := hid (fun X => in_any lo hi r s X hlo hhi hr y0 y1)
      have CO := hid (fun X => out_any lo hi r s X hlo hhi hr y0 y1)
      have hone : (s.size = 1 ∧ ¬ (1 : Int) < s.size) ∨ (s.size ≠ 1 ∧ (1 : Int) < s.size) := by omega
      have hin : (inR lo hi r = true ∧ (lo : Int) ≤ r ∧ (r : Int) ≤ hi) ∨ (inR lo hi r = false ∧ (lo : Int) ≤ r ∧ ¬ (r : Int) ≤ hi) ∨ (inR lo hi r = false ∧ ¬ (lo : Int) ≤ r) := by
        unfold inR
        by_cases h1 : (lo : Int) ≤ r
        · by_cases h2 : (r : Int) ≤ hi
          · exact .inl ⟨by rw [decide_eq_true h1, decide_eq_true h2]; rfl, h1, h2⟩
          · exact .inr (.inl ⟨by rw [decide_eq_true h1, decide_eq_false h2]; rfl, h1, h2⟩)
        · exact .inr (.inr ⟨by rw [decide_eq_false h1]; rfl, h1⟩)
      clear q2 q3 hlo hhi hr
      rcases hone with ⟨g1, g2⟩ | ⟨g1, g2⟩
      · rw [decide_eq_true g1] at CI CO
        rcases hin with ⟨e, g3, g4⟩ | ⟨e, g3, g4⟩ | ⟨e, g3⟩
        all_goals
          rw [e] at CI CO
          clear e g1
          go_enter Tryd.func3, Tryd.ntmps3
          go_wp2_with (first
            | (go_at_call 4; refine (CA.out _).mono ?_; rintro e w' ⟨rfl, rfl⟩)
            | (go_at_call 5; refine (CF.out _).mono ?_; rintro e w' ⟨rfl, rfl⟩)
            | (go_at_call 6; rw [V3.out]; refine (CI.out _).mono ?_; rintro e w2 ⟨rfl, hb⟩; have B2 := hid (mbt (X := w) (by go_grown) hb); clear hb)
            | (go_at_call 6; rw [V4.out]; refine (CO.out _).mono ?_; rintro e w3 ⟨rfl, hb⟩; have B3 := hid (mbt (X := w) (by first | exact B2.out | exact mbt B2.out (by go_grown)) hb); clear hb))
          go_ret
          first
            | exact ⟨rfl, B3.out⟩
            | exact ⟨by show Ending.returned (Value.bool (!decide (r ≤ hi))) = _; rw [decide_eq_false (show ¬ r ≤ hi by clear CI CO CA CF HQ V3 V4; omega)]; rfl, B3.out⟩
      · rw [decide_eq_false g1, Bool.and_false] at CI CO
        clear hin g1
        go_enter Tryd.func3, Tryd.ntmps3
        go_wp2_with (first
          | (go_at_call 4; refine (CA.out _).mono ?_; rintro e w' ⟨rfl, rfl⟩)
          | (go_at_call 5; refine (CF.out _).mono ?_; rintro e w' ⟨rfl, rfl⟩)
          | (go_at_call 6; rw [V3.out]; refine (CI.out _).mono ?_; rintro e w2 ⟨rfl, hb⟩; have B2 := hid (mbt (X := w) (by go_grown) hb); clear hb)
          | (go_at_call 6; rw [V4.out]; refine (CO.out _).mono ?_; rintro e w3 ⟨rfl, hb⟩; have B3 := hid (mbt (X := w) (by first | exact B2.out | exact mbt B2.out (by go_grown)) hb); clear hb))
        go_ret
        exact ⟨rfl, B3.out⟩
end Go.Proofs.YtjddckigiinjgaaDoor
