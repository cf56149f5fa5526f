/- What FnMatchRange asks of a name: plain bytes, no slash, at most 200. Walked. (wip/gen/gen_mata.py) -/
import Derived.Test.YtjddckigiinjgaaDoorKit
import Derived.Test.YtjddckigiinjgaaDoorStrP
import Derived.IntWalk
set_option linter.unusedVariables false
set_option linter.unusedSimpArgs false
namespace Go.Proofs.YtjddckigiinjgaaDoor
open Go.RowKit

/-- n is the place of the first byte c of s, -1 if there is none. -/
def Fst (c : UInt8) (s : ByteArray) (n : Int) : Prop := (n = -1 ∧ c ∉ s.toList) ∨ ∃ k : Nat, n = k ∧ k < s.size ∧ s.toList[k]? = some c ∧ c ∉ s.toList.take k

theorem fst_le {c : UInt8} {s : ByteArray} {k m : Nat} (h1 : s.toList[k]? = some c) (h2 : c ∉ s.toList.take m) : m ≤ k := by
  rcases Nat.lt_or_ge k m with h | h
  · exact absurd (List.mem_of_getElem? (by rw [List.getElem?_take, if_pos h]; exact h1)) h2
  · exact h
theorem Fst.same {c : UInt8} {s : ByteArray} {n m : Int} (h : Fst c s n) (h' : Fst c s m) : n = m := by
  rcases h with ⟨rfl, h⟩ | ⟨k, rfl, hk, h1, h2⟩ <;> rcases h' with ⟨rfl, h'⟩ | ⟨k', rfl, hk', h1', h2'⟩
  · rfl
  · exact absurd (List.mem_of_getElem? h1') h
  · exact absurd (List.mem_of_getElem? h1) h'
  · have a := fst_le h1 h2'
    have b := fst_le h1' h2
    omega
theorem fst_ex (c : UInt8) (s : ByteArray) : ∃ n : Int, Fst c s n := by
  by_cases h : c ∈ s.toList
  · refine ⟨(s.toList.idxOf c : Nat), .inr ⟨_, rfl, ?_, ?_, ?_⟩⟩
    · rw [← size_list]; exact List.idxOf_lt_length_of_mem h
    · rw [List.getElem?_eq_getElem (List.idxOf_lt_length_of_mem h)]; simp
    · intro hm
      obtain ⟨i, hi, e⟩ := List.mem_iff_getElem.1 hm
      rw [List.getElem_take] at e
      rw [List.length_take] at hi
      have := List.not_of_lt_findIdx (p := (· == c)) (xs := s.toList) (i := i) (by rw [List.idxOf] at hi; omega)
      simp [e] at this
  · exact ⟨-1, .inl ⟨rfl, h⟩⟩
theorem Fst.range {c : UInt8} {s : ByteArray} {n : Int} (h : Fst c s n) : -1 ≤ n ∧ n < s.size := by
  rcases h with ⟨rfl, h⟩ | ⟨k, rfl, hk, h1, h2⟩ <;> omega

set_option maxRecDepth 100000 in
theorem first_slash (s : ByteArray) (w : World) (hs : s.size ≤ 2147483647) : Calls Tryd.prog 5 #[.string s, .int .u8 47] w fun e w' =>
    ∃ n : Int, e = .returned (.int .i64 n) ∧ w = w' ∧ Fst 47 s n := by
  go_enter Tryd.func5, Tryd.ntmps5
  go_wp2_with fail
  go_loop [5] (fun i => ∃ k : Nat, k ≤ s.size ∧ i = .int .i64 k ∧ (47 : UInt8) ∉ s.toList.take k) (fun i => s.size - (intOf i).toNat)
  case atStart => exact ⟨0, Nat.zero_le _, rfl, by simp⟩
  case round =>
    obtain ⟨k, hk, rfl, hn⟩ := hrel
    have HN := hid hn
    clear hn
    have hw : IntKind.i64.wrap ((k : Int) + 1) = (k : Int) + 1 := IntWalk.i64_in _ (by omega)
    by_cases hlt : k < s.size
    · by_cases hd : s[k] = 47
      · have hd' : ((s[k].toNat : Int) == 47) = true := by rw [hd]; rfl
        have HD := hid hd
        clear hd
        go_wp2_with fail
        go_ret
        exact ⟨_, rfl, rfl, .inr ⟨k, rfl, hlt, by rw [at_list s k hlt, HD.out], HN.out⟩⟩
      · have hd' : ((s[k].toNat : Int) == 47) = false := by
          rw [beq_eq_false_iff_ne]
          intro e
          exact hd (UInt8.toNat_inj.1 (by have : s[k].toNat = 47 := by omega
                                          rw [this]; rfl))
        have HD := hid hd
        clear hd
        go_wp2_with fail
        go_round
        case rel => exact ⟨k + 1, by omega, by go_num, by rw [take_list s k hlt]; simp [HN.out, Ne.symm HD.out]⟩
        case measure => simp [intOf]; omega
    · have hks : k = s.size := by omega
      have := HN.out
      rw [hks, take_all] at this
      have HA := hid this
      clear this
      go_wp2_with fail
      go_ret
      exact ⟨_, rfl, rfl, .inl ⟨rfl, HA.out⟩⟩

def plainB (s : ByteArray) : Bool := s.toList.all (fun c => decide (c.toNat < 128))
theorem plain_take (s : ByteArray) (k : Nat) (hk : k < s.size) (h : (s.toList.take k).all (fun c => decide (c.toNat < 128)) = true) (hd : s[k].toNat < 128) : (s.toList.take (k + 1)).all (fun c => decide (c.toNat < 128)) = true := by
  rw [take_list s k hk, List.all_append, h]
  simp [hd]
set_option maxRecDepth 100000 in
theorem refPlain_any (s : ByteArray) (w : World) (hs : s.size ≤ 2147483647) : Calls Tryd.prog 7 #[.string s] w fun e w' => e = .returned (.bool (plainB s)) ∧ w = w' := by
  go_enter Tryd.func7, Tryd.ntmps7
  go_wp2_with fail
  go_loop [3] (fun i => ∃ k : Nat, k ≤ s.size ∧ i = .int .i64 k ∧ (s.toList.take k).all (fun c => decide (c.toNat < 128)) = true) (fun i => s.size - (intOf i).toNat)
  case atStart => exact ⟨0, Nat.zero_le _, rfl, by simp⟩
  case round =>
    obtain ⟨k, hk, rfl, hn⟩ := hrel
    have HN := hid hn
    clear hn
    by_cases hlt : k < s.size
    · have hw : IntKind.i64.wrap ((k : Int) + 1) = (k : Int) + 1 := IntWalk.i64_in _ (by omega)
      obtain ⟨c, hc⟩ : ∃ c : Nat, s[k].toNat = c := ⟨_, rfl⟩
      have HC := hid hc
      by_cases hd : c < 128
      · have hd2 : ¬ (128 : Int) ≤ (c : Int) := by omega
        go_wp2_with fail
        go_round
        case rel => exact ⟨k + 1, by omega, by go_num, plain_take s k hlt HN.out (by rw [HC.out]; exact hd)⟩
        case measure => simp [intOf]; omega
      · have hd2 : (128 : Int) ≤ (c : Int) := by omega
        go_wp2_with fail
        go_ret
        refine ⟨?_, rfl⟩
        have : plainB s = false := by
          cases hp : plainB s
          · rfl
          · unfold plainB at hp
            rw [List.all_eq_true] at hp
            have := hp s[k] (List.mem_of_getElem? (at_list s k hlt))
            rw [HC.out] at this
            simp at this
            omega
        rw [this]
        rfl
    · obtain rfl : k = s.size := by omega
      go_wp2_with fail
      go_ret
      refine ⟨?_, rfl⟩
      have := HN.out
      rw [take_all] at this
      unfold plainB
      rw [this]
      rfl
end Go.Proofs.YtjddckigiinjgaaDoor
