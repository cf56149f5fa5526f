/- FnSetFindOf's guards over the list of encoded parts, and spec.SetMeantIn, walked. -/
import Derived.Test.YtekjeagcncfmmaaDoorFst
import Derived.Test.YtekjeagcncfmmaaDoorSetP
import Derived.Test.YtekjeagcncfmmaaDoorApp
import Derived.IntWalk
set_option linter.unusedVariables false
set_option linter.unusedSimpArgs false
namespace Go.Proofs.YtekjeagcncfmmaaDoor
open Go.RowKit

/-- A slice's texts. -/
def Strs (w : World) (ao : Option Addr) (n : Nat) (f : Nat → ByteArray) : Prop := ∀ i, i < n → ∃ a, ao = some a ∧ w.cell? (a.add i) = some (.string (f i))
theorem Strs.below {w w' : World} {ao : Option Addr} {n : Nat} {f : Nat → ByteArray} (h : Strs w ao n f) (hb : Below w.heap.size w w') : Strs w' ao n f := fun i hi => by
  obtain ⟨a, h1, h2⟩ := h i hi
  exact ⟨a, h1, (hb.cell (World.block_lt_of_cell? w _ h2)).trans h2⟩
/-- A Bool, true only where p. -/
def Says (e : Ending) (p : Prop) : Prop := ∃ b : Bool, e = .returned (.bool b) ∧ (b = true → p)

theorem fits_any (ao : Option Addr) (n c : Nat) (f : Nat → ByteArray) (w : World) (hS : Strs w ao n f) : Calls Tryd.prog 4 #[.slice ao n c] w fun e w' => Says e (n ≤ 2147483647) ∧ w' = w := by
  have HS := hid hS
  clear hS
  go_enter Tryd.func4, Tryd.ntmps4
  by_cases hm : n ≤ 2147483647
  · have u0 : ¬ (2147483647 : Int) < (n : Int) := by omega
    go_wp2_with fail
    go_loop [10] (fun i => ∃ k : Nat, k ≤ n ∧ i = .int .i64 k) (fun i => n - (intOf i).toNat)
    case atStart => exact ⟨0, Nat.zero_le _, rfl⟩
    case round =>
      obtain ⟨k, hk, rfl⟩ := hrel
      by_cases hlt : k < n
      · obtain ⟨a, rfl, hc⟩ := HS.out k hlt
        generalize f k = s at hc
        have hw : IntKind.i64.wrap ((k : Int) + 1) = (k : Int) + 1 := IntWalk.i64_in _ (by omega)
        by_cases hs : s.size ≤ 2147483647
        · have u1 : ¬ (2147483647 : Int) < (s.size : Int) := by omega
          go_wp2_with fail
          go_round
          case rel => exact ⟨k + 1, by omega, by go_num⟩
          case measure => simp [intOf]; omega
        · have u1 : (2147483647 : Int) < (s.size : Int) := by omega
          go_wp2_with fail
          go_ret
          exact ⟨⟨_, rfl, fun h => by cases h⟩, rfl⟩
      · go_wp2_with fail
        go_ret
        exact ⟨⟨_, rfl, fun _ => by first | trivial | exact hm⟩, rfl⟩
  · have u0 : (2147483647 : Int) < (n : Int) := by omega
    go_wp2_with fail
    go_ret
    exact ⟨⟨_, rfl, fun h => by cases h⟩, rfl⟩

theorem ascends_any (ao : Option Addr) (n c : Nat) (f : Nat → ByteArray) (w : World) (hn : n ≤ 2147483647) (hS : Strs w ao n f) : Calls Tryd.prog 5 #[.slice ao n c] w fun e w' => Says e (n ≤ 40 ∧ (∀ i, i < n → 1 ≤ (f i).size ∧ (f i).size ≤ 200) ∧ Asc f n) ∧ w' = w := by
  have HS := hid hS
  clear hS
  go_enter Tryd.func5, Tryd.ntmps5
  go_wp2_with fail
  go_loop [7] (fun i => ∃ k : Nat, k ≤ n ∧ i = .int .i64 k ∧ Hid ((∀ i, i < k → 1 ≤ (f i).size ∧ (f i).size ≤ 200) ∧ Asc f k)) (fun i => n - (intOf i).toNat)
  case atStart => exact ⟨0, Nat.zero_le _, rfl, ⟨fun i hi => absurd hi (Nat.not_lt_zero _), fun i hi => absurd hi (Nat.not_lt_zero _)⟩⟩
  case round =>
    obtain ⟨k, hk, rfl, I⟩ := hrel
    by_cases hlt : k < n
    · obtain ⟨a, rfl, hc⟩ := HS.out k hlt
      obtain ⟨s, hs⟩ : ∃ s, f k = s := ⟨_, rfl⟩
      rw [hs] at hc
      have HSS := hid hs
      clear hs
      have hw : IntKind.i64.wrap ((k : Int) + 1) = (k : Int) + 1 := IntWalk.i64_in _ (by omega)
      by_cases h0 : s.toList = []
      · have e0 : (s.toList == []) = true := by rw [h0]; rfl
        have H0 := hid h0
        clear h0
        go_wp2_with fail
        go_ret
        exact ⟨⟨_, rfl, fun h => by cases h⟩, rfl⟩
      · have e0 : (s.toList == []) = false := by simpa using h0
        have H0 := hid h0
        clear h0
        by_cases h1 : s.size ≤ 200
        · have u1 : ¬ (200 : Int) < (s.size : Int) := by omega
          have hpos : 1 ≤ s.size := by
            rw [← size_list]
            exact List.length_pos_iff.2 H0.out
          by_cases hk0 : k = 0
          · subst hk0
            rw [Addr.add_zero'] at hc
            go_wp2_with fail
            go_round
            case rel =>
              refine ⟨1, by omega, by go_num, ⟨fun i hi => ?_, fun i hi => ?_⟩⟩
              · obtain rfl : i = 0 := by omega
                rw [HSS.out]
                omega
              · omega
            case measure => simp [intOf]; omega
          · obtain ⟨j, hj⟩ : ∃ j, k = j + 1 := ⟨k - 1, by omega⟩
            obtain ⟨a', ha', hc'⟩ := HS.out j (by omega)
            obtain rfl := Option.some.inj ha'
            clear ha'
            obtain ⟨s', hs'⟩ : ∃ s, f j = s := ⟨_, rfl⟩
            rw [hs'] at hc'
            have HSP := hid hs'
            clear hs'
            have hw2 : IntKind.i64.wrap ((k : Int) - 1) = (j : Int) := by rw [show (k : Int) - 1 = (j : Int) by omega]; exact IntWalk.i64_in _ (by omega)
            have up : (0 : Int) < (k : Int) := by omega
            have hjn : j < n := by omega
            have HJ := hid hj
            clear hj
            cases hb : Op.bytesLess s'.toList s.toList with
            | false =>
              go_wp2_with fail
              go_ret
              exact ⟨⟨_, rfl, fun h => by cases h⟩, rfl⟩
            | true =>
              have HB := hid hb
              go_wp2_with fail
              go_round
              case rel =>
                have HJ2 := HJ.out
                refine ⟨k + 1, by omega, by go_num, ⟨fun i hi => ?_, fun i hi => ?_⟩⟩
                · rcases Nat.lt_or_ge i k with h | h
                  · exact I.out.1 i h
                  · obtain rfl : i = k := by omega
                    rw [HSS.out]
                    omega
                · rcases Nat.lt_or_ge (i + 1) k with h | h
                  · exact I.out.2 i h
                  · obtain rfl : i = j := by omega
                    rw [← HJ2, HSS.out, HSP.out]
                    exact HB.out
              case measure => simp [intOf]; omega
        · have u1 : (200 : Int) < (s.size : Int) := by omega
          go_wp2_with fail
          go_ret
          exact ⟨⟨_, rfl, fun h => by cases h⟩, rfl⟩
    · obtain rfl : k = n := by omega
      go_wp2_with fail
      go_ret
      exact ⟨⟨_, rfl, fun h => ⟨by simp at h; omega, I.out⟩⟩, rfl⟩

theorem even_any (ao : Option Addr) (n c : Nat) (f : Nat → ByteArray) (w : World) (hn : n ≤ 2147483647) (hS : Strs w ao n f) : Calls Tryd.prog 6 #[.slice ao n c] w fun e w' => Says e (∀ i, i < n → (f i).size = (f 0).size) ∧ w' = w := by
  have HS := hid hS
  clear hS
  go_enter Tryd.func6, Tryd.ntmps6
  go_wp2_with fail
  go_loop [7] (fun i => ∃ k : Nat, k ≤ n ∧ i = .int .i64 k ∧ Hid (∀ i, i < k → (f i).size = (f 0).size)) (fun i => n - (intOf i).toNat)
  case atStart => exact ⟨0, Nat.zero_le _, rfl, (fun i hi => absurd hi (Nat.not_lt_zero _) : ∀ i, i < 0 → (f i).size = (f 0).size)⟩
  case round =>
    obtain ⟨k, hk, rfl, I⟩ := hrel
    by_cases hlt : k < n
    · obtain ⟨a, rfl, hc⟩ := HS.out k hlt
      obtain ⟨a', ha', hc0⟩ := HS.out 0 (by omega)
      obtain rfl := Option.some.inj ha'
      clear ha'
      obtain ⟨s, hs⟩ : ∃ s, f k = s := ⟨_, rfl⟩
      rw [hs] at hc
      have HSS := hid hs
      clear hs
      obtain ⟨s0, hs0⟩ : ∃ s, f 0 = s := ⟨_, rfl⟩
      rw [hs0] at hc0
      have HS0 := hid hs0
      clear hs0
      have hp : 0 < n := by omega
      rw [Addr.add_zero'] at hc0
      have hw : IntKind.i64.wrap ((k : Int) + 1) = (k : Int) + 1 := IntWalk.i64_in _ (by omega)
      by_cases h1 : s.size = s0.size
      · have e1 : ((s.size : Int) != (s0.size : Int)) = false := by simp [h1]
        have H1 := hid h1
        clear h1
        go_wp2_with fail
        go_round
        case rel =>
          refine ⟨k + 1, by omega, by go_num, (fun i hi => ?_ : ∀ i, i < k + 1 → (f i).size = (f 0).size)⟩
          rcases Nat.lt_or_ge i k with h | h
          · exact I.out i h
          · obtain rfl : i = k := by omega
            rw [HSS.out, HS0.out]
            exact H1.out
        case measure => simp [intOf]; omega
      · have e1 : ((s.size : Int) != (s0.size : Int)) = true := by simp; omega
        clear h1
        go_wp2_with fail
        go_ret
        exact ⟨⟨_, rfl, fun h => by cases h⟩, rfl⟩
    · obtain rfl : k = n := by omega
      go_wp2_with fail
      go_ret
      exact ⟨⟨_, rfl, fun _ => I.out⟩, rfl⟩

theorem slice_pre (t : TypeId) (ht : Tryd.prog.underlying t = some .string) (s : ByteArray) (k : Nat) (h : k ≤ s.size) (w : World) : (Instr.slice t (.string s) none (some (.int .i64 (k : Int))) none).run Tryd.prog w = .ok (.string (s.extract 0 k)) w := slice_to t ht s k h w

theorem begins_any (s t : ByteArray) (w : World) : Calls Tryd.prog 13 #[.string s, .string t] w fun e w' => e = .returned (.bool (begB t s)) ∧ w' = w := by
  have hr := Lib.hasPrefix_raw s t
  have hb : Lib.hasPrefix s.data.toList t.data.toList = begB t s := by
    unfold Lib.hasPrefix begB
    rw [ByteArray.toList_eq, ByteArray.toList_eq]
  rw [hb] at hr
  generalize begB t s = b at hr ⊢
  clear hb
  by_cases h : t.size ≤ s.size
  · have hsl := slice_to 9 Tryd.underlying9 s t.size h
    have u1 : (t.size : Int) ≤ (s.size : Int) := by omega
    have HR : Hid (((s.extract 0 t.size).toList == t.toList) = b) := by
      refine hid ?_
      simpa [h] using hr
    clear hr
    generalize hq : ((s.extract 0 t.size).toList == t.toList) = q at HR
    obtain rfl : q = b := HR.out
    go_enter Tryd.func13, Tryd.ntmps13
    go_wp2_with fail
    go_ret
    exact ⟨by simp, rfl⟩
  · have u1 : ¬ (t.size : Int) ≤ (s.size : Int) := by omega
    have e : b = false := by simpa [h] using hr.symm
    clear hr
    subst e
    go_enter Tryd.func13, Tryd.ntmps13
    go_wp2_with fail
    go_ret
    exact ⟨rfl, rfl⟩
end Go.Proofs.YtekjeagcncfmmaaDoor
