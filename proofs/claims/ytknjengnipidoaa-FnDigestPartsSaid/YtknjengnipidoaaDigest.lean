/- The law FnDigestParts, walked: the algorithm of a digest is what stands ahead of the first colon, its encoded part what stands behind it. -/
import Derived.Test.YtknjengnipidoaaFst
import Derived.Recover
import Derived.Defers
import Derived.Laws.Pointers
set_option linter.unusedVariables false
set_option linter.unusedSimpArgs false
namespace Go.Proofs.Ytknjengnipidoaa
open Go.RowKit

theorem sep_any (s : ByteArray) (k : Nat) (w : World) (hs : s.size ≤ 2147483647) (hF : Fst 58 s k) : Calls Try.prog 30 #[.string s] w fun e w' =>
    e = .returned (.int .i64 k) ∧ w = w' := by
  have hk : ¬ (k : Int) < 0 := by omega
  have HF := hid hF
  clear hF
  go_enter Try.func30, Try.ntmps30
  go_wp2_with (go_at_call 34; refine (dindex_any s _ hs).mono ?_; rintro e w' ⟨n, rfl, rfl, h⟩; obtain rfl := h.same HF.out; clear h)
  go_ret
  exact ⟨rfl, rfl⟩

theorem algorithm_any (s : ByteArray) (k : Nat) (w : World) (hs : s.size ≤ 2147483647) (hF : Fst 58 s k) : Calls Try.prog 23 #[.string s] w fun e w' =>
    e = .returned (.string (s.extract 0 k)) ∧ w = w' := by
  have hk := hF.range
  have hsl := slice_to 45 Try.underlying45 s k (by omega)
  have HF := hid hF
  clear hF
  go_enter Try.func23, Try.ntmps23
  go_wp2_with (go_at_call 30; refine (sep_any s k _ hs HF.out).mono ?_; rintro e w' ⟨rfl, rfl⟩)
  go_ret
  exact ⟨rfl, rfl⟩

theorem encoded_any (s : ByteArray) (k : Nat) (w : World) (hs : s.size ≤ 2147483647) (hF : Fst 58 s k) : Calls Try.prog 24 #[.string s] w fun e w' =>
    e = .returned (.string (s.extract (k + 1) s.size)) ∧ w = w' := by
  have hk := hF.range
  have hsl := slice_from 45 Try.underlying45 s k (by omega)
  have hw : IntKind.i64.wrap ((k : Int) + 1) = (k : Int) + 1 := IntWalk.i64_in _ (by omega)
  have HF := hid hF
  clear hF
  go_enter Try.func24, Try.ntmps24
  go_wp2_with (go_at_call 30; refine (sep_any s k _ hs HF.out).mono ?_; rintro e w' ⟨rfl, rfl⟩)
  go_ret
  exact ⟨rfl, rfl⟩

theorem parts_spec (s : ByteArray) (k : Nat) (w : World) (hs : s.size ≤ 2147483647) (hF : Fst 58 s k) : Calls Try.prog 13 #[.string s] w fun e w' =>
    e = .returned (.tuple #[.string (s.extract 0 k), .string (s.extract (k + 1) s.size), .bool true]) ∧ w' = w.drew := by
  have hk := hF.range
  have hk0 : ¬ (k : Int) < 0 := by omega
  have hsl := slice_from 9 Try.underlying9 s k (by omega)
  have hsm := slice_to 9 Try.underlying9 s k (by omega)
  have hw : IntKind.i64.wrap ((k : Int) + 1) = (k : Int) + 1 := IntWalk.i64_in _ (by omega)
  have HF := hid hF
  clear hF
  go_enter Try.func13, Try.ntmps13
  go_wp2_with (go_at_call 11; refine (first_colon s _ hs).mono ?_; rintro e w' ⟨n, rfl, rfl, h⟩; obtain rfl := h.same HF.out; clear h)
  go_region
  go_wp2
  go_returns
  exact ⟨rfl, rfl⟩

theorem catch_idle (p q r : Addr) (w : World) :
    CallsD Try.prog 22 #[.pointer (some p), .pointer (some q), .pointer (some r)] .returning w fun e u' w' => e = .returned (.tuple #[]) ∧ u' = .returning ∧ w' = w := by
  refine callsD_of_wpS Try.func22 rfl fun c₀ cs hu => ?_
  apply wpS_seq
  apply wpS_region
  simp [wpOpsS, go_sem, recoverD, hu, Try.ntmps22, Exit.thenS]
  refine wpS_cond (t := false) (by simp [Act.eval, Array.replicate]) ?_
  simp only [Bool.false_eq_true, if_false]
  refine wpS_of_wp (wp_skip ?_)
  cases c₀
  simp_all [bodyPostS, results, Try.results22]

theorem parts_any (s : ByteArray) (k : Nat) (w : World) (hs : s.size ≤ 2147483647) (hF : Fst 58 s k) : Calls Try.prog 12 #[.string s] w fun e w' =>
    e = .returned (.tuple #[.string (s.extract 0 k), .string (s.extract (k + 1) s.size), .bool true]) ∧ Below w.heap.size w w' := by
  have hmf : ∀ (fn : Fn) (first cap : Array Value) (w : World), (Instr.makeFunc fn first cap).run Try.prog w = .ok (.func fn first cap) w := fun _ _ _ _ => rfl
  have HF := hid hF
  clear hF
  go_enter_defers Try.func12, Try.ntmps12
  go_wp2_with (first | (go_at_call 23; refine (algorithm_any s k _ hs HF.out).mono ?_; rintro e w' ⟨rfl, rfl⟩) | (go_at_call 24; refine (encoded_any s k _ hs HF.out).mono ?_; rintro e w' ⟨rfl, rfl⟩))
  refine leaves_cons (f := 22) (args := #[.pointer (some ⟨w.heap.size, 0, none⟩), .pointer (some ⟨w.heap.size + 1, 0, none⟩), .pointer (some ⟨w.heap.size + 2, 0, none⟩)]) (by simp) (by simp [go_sem]) ?_
  refine (catch_idle _ _ _ _).mono ?_
  rintro e u' w'' ⟨rfl, rfl, rfl⟩
  simp [Leaves, settle, results, Try.results12, go_sem]
  go_grown

/-- No colon, or one as the first byte: the law asks nothing. -/
theorem digest_none (s : ByteArray) (n : Int) (w : World) (hs : s.size ≤ 2147483647) (hF : Fst 58 s n) (hn : n < 1 ∨ 65536 < s.size) : Calls Try.prog 5 #[.string s] w fun e w' => e = .returned (.bool true) ∧ Below w.heap.size w w' := by
  have h0 : ¬ (2147483647 : Int) < (s.size : Int) := by omega
  have HF := hid hF
  clear hF
  by_cases h1 : s.size ≤ 65536
  · have h2 : n < 1 := by omega
    have h3 : ¬ (65536 : Int) < (s.size : Int) := by omega
    have hs2 := hid hs
    clear hs hn h1
    go_enter Try.func5, Try.ntmps5
    go_wp2_with (go_at_call 11; refine (first_colon s _ hs2.out).mono ?_; rintro e w' ⟨n, rfl, rfl, h⟩; obtain rfl := h.same HF.out; clear h)
    go_ret
    exact ⟨rfl, Below.refl _ _⟩
  · have h3 : (65536 : Int) < (s.size : Int) := by omega
    clear hs hn h1
    go_enter Try.func5, Try.ntmps5
    go_wp2_with fail
    go_ret
    exact ⟨rfl, Below.refl _ _⟩

theorem digest_some (s : ByteArray) (k : Nat) (w : World) (hs : s.size ≤ 65536) (hF : Fst 58 s k) (hk : 1 ≤ k) : Calls Try.prog 5 #[.string s] w fun e w' => e = .returned (.bool true) ∧ Below w.heap.size w w' := by
  have h0 : ¬ (2147483647 : Int) < (s.size : Int) := by omega
  have h3 : ¬ (65536 : Int) < (s.size : Int) := by omega
  have h2 : ¬ (k : Int) < 1 := by omega
  have hs2 : Hid (s.size ≤ 2147483647) := hid (by omega)
  have HF := hid hF
  clear hF hs hk
  go_enter Try.func5, Try.ntmps5
  go_wp2_with (first | (go_at_call 11; refine (first_colon s _ hs2.out).mono ?_; rintro e w' ⟨n, rfl, rfl, h⟩; obtain rfl := h.same HF.out; clear h) | (go_at_call 12; refine (parts_any s k _ hs2.out HF.out).mono ?_; rintro e w1 ⟨rfl, hb⟩; replace hb := hid hb) | (go_at_call 13; refine (parts_spec s k _ hs2.out HF.out).mono ?_; rintro e w2 ⟨rfl, rfl⟩))
  go_ret
  exact ⟨ret_b (by simp), hb.out.drew⟩

theorem digest_big (s : ByteArray) (w : World) (hs : 2147483647 < s.size) : Calls Try.prog 5 #[.string s] w fun e w' => e = .returned (.bool true) ∧ Below w.heap.size w w' := by
  have h0 : (2147483647 : Int) < (s.size : Int) := by omega
  clear hs
  go_enter Try.func5, Try.ntmps5
  go_wp2_with fail
  go_ret
  exact ⟨rfl, Below.refl _ _⟩

theorem fnDigestParts_walk (s : ByteArray) (w : World) (_hm : s.size ≤ maxLen) : Calls Try.prog 5 #[.string s] w fun e w' => e = .returned (.bool true) ∧ Below w.heap.size w w' := by
  obtain ⟨n, hF⟩ : ∃ n, Fst 58 s n := fst_ex 58 s
  by_cases hs : s.size ≤ 2147483647
  · by_cases h : n < 1 ∨ 65536 < s.size
    · exact digest_none s n w hs hF h
    · obtain ⟨k, rfl⟩ : ∃ k : Nat, n = k := ⟨n.toNat, by omega⟩
      exact digest_some s k w (by omega) hF (by omega)
  · exact digest_big s w (by omega)
end Go.Proofs.Ytknjengnipidoaa
