/- Where a byte stands first in a text: zzIndex of the digest's and the references' package, spec.RefFirst, walked. -/
import Derived.Test.YtekjeagcncfmmaaDoorKit
import Derived.Test.YtekjeagcncfmmaaDoorStrP
import Derived.IntWalk
import Derived.Laws.Strings2
import Derived.Laws.Strings3
set_option linter.unusedVariables false
set_option linter.unusedSimpArgs false
namespace Go.Proofs.YtekjeagcncfmmaaDoor
open Go.RowKit

theorem ext_one (s : ByteArray) (k : Nat) (h : k < s.size) : (s.extract k (k + 1)).toList = [s[k]] := by
  rw [ext_list, drop_list s k h]
  simp
theorem slice_mid (t : TypeId) (ht : Tryd.prog.underlying t = some .string) (s : ByteArray) (k : Nat) (h : k < s.size) (w : World) : (Instr.slice t (.string s) (some (.int .i64 (k : Int))) (some (.int .i64 ((k : Int) + 1))) none).run Tryd.prog w = .ok (.string (s.extract k (k + 1))) w := by
  have := run_slice_string (P := Tryd.prog) w t s .i64 .i64 (k : Int) ((k : Int) + 1) ht (by omega) (by omega) (by omega)
  have e : ((k : Int) + 1).toNat = k + 1 := by omega
  rw [e] at this
  simpa using this
theorem slice_to (t : TypeId) (ht : Tryd.prog.underlying t = some .string) (s : ByteArray) (k : Nat) (h : k ≤ s.size) (w : World) : (Instr.slice t (.string s) none (some (.int .i64 (k : Int))) none).run Tryd.prog w = .ok (.string (s.extract 0 k)) w := by
  rw [run_slice_string_to_if _ _ _ _ _ ht, if_pos ⟨by omega, by omega⟩]
  simp
theorem slice_from (t : TypeId) (ht : Tryd.prog.underlying t = some .string) (s : ByteArray) (k : Nat) (h : k < s.size) (w : World) : (Instr.slice t (.string s) (some (.int .i64 ((k : Int) + 1))) none none).run Tryd.prog w = .ok (.string (s.extract (k + 1) s.size)) w := by
  rw [run_slice_string_from_if _ _ _ _ _ ht, if_pos ⟨by omega, by omega⟩]
  have e : ((k : Int) + 1).toNat = k + 1 := by omega
  rw [e]

/-- n is the place of the first byte c of s, -1 if there is none. -/
def Fst (c : UInt8) (s : ByteArray) (n : Int) : Prop := (n = -1 ∧ c ∉ s.toList) ∨ ∃ k : Nat, n = k ∧ k < s.size ∧ s.toList[k]? = some c ∧ c ∉ s.toList.take k

theorem fst_le {c : UInt8} {s : ByteArray} {k m : Nat} (h1 : s.toList[k]? = some c) (h2 : c ∉ s.toList.take m) : m ≤ k := by
  rcases Nat.lt_or_ge k m with h | h
  · exact absurd (List.mem_of_getElem? (by rw [List.getElem?_take, if_pos h]; exact h1)) h2
  · exact h
theorem Fst.same {c : UInt8} {s : ByteArray} {n m : Int} (h : Fst c s n) (h' : Fst c s m) : n = m := by
  rcases h with ⟨rfl, h⟩ | ⟨k, rfl, hk, h1, h2⟩ <;> rcases h' with ⟨rfl, h'⟩ | ⟨k', rfl, hk', h1', h2'⟩
  · rfl
  · exact absurd (List.mem_of_getElem? h1') h
  · exact absurd (List.mem_of_getElem? h1) h'
  · have a := fst_le h1 h2'
    have b := fst_le h1' h2
    omega
theorem fst_ex (c : UInt8) (s : ByteArray) : ∃ n : Int, Fst c s n := by
  by_cases h : c ∈ s.toList
  · refine ⟨(s.toList.idxOf c : Nat), .inr ⟨_, rfl, ?_, ?_, ?_⟩⟩
    · rw [← size_list]; exact List.idxOf_lt_length_of_mem h
    · rw [List.getElem?_eq_getElem (List.idxOf_lt_length_of_mem h)]; simp
    · intro hm
      obtain ⟨i, hi, e⟩ := List.mem_iff_getElem.1 hm
      rw [List.getElem_take] at e
      rw [List.length_take] at hi
      have := List.not_of_lt_findIdx (p := (· == c)) (xs := s.toList) (i := i) (by rw [List.idxOf] at hi; omega)
      simp [e] at this
  · exact ⟨-1, .inl ⟨rfl, h⟩⟩
theorem Fst.range {c : UInt8} {s : ByteArray} {n : Int} (h : Fst c s n) : -1 ≤ n ∧ n < s.size := by
  rcases h with ⟨rfl, h⟩ | ⟨k, rfl, hk, h1, h2⟩ <;> omega

set_option maxRecDepth 100000 in
theorem dindex_any (s : ByteArray) (w : World) (hs : s.size ≤ 2147483647) : Calls Tryd.prog 42 #[.string s, .string ⟨#[58]⟩] w fun e w' =>
    ∃ n : Int, e = .returned (.int .i64 n) ∧ w = w' ∧ Fst 58 s n := by
  go_enter Tryd.func42, Tryd.ntmps42
  go_wp2_with fail
  go_loop [5] (fun i => ∃ k : Nat, k ≤ s.size ∧ i = .int .i64 k ∧ (58 : UInt8) ∉ s.toList.take k) (fun i => s.size - (intOf i).toNat)
  case atStart => exact ⟨0, Nat.zero_le _, rfl, by simp⟩
  case round =>
    obtain ⟨k, hk, rfl, hn⟩ := hrel
    have HN := hid hn
    clear hn
    by_cases hlt : k < s.size
    · have hsl := slice_mid 9 Tryd.underlying9 s k hlt
      have hw : IntKind.i64.wrap ((k : Int) + 1) = (k : Int) + 1 := IntWalk.i64_in _ (by omega)
      by_cases hd : s[k] = 58
      · have hx : (s.extract k (k + 1)).toList = [58] := by rw [ext_one s k hlt, hd]
        have HD := hid hd
        clear hd
        go_wp2_with fail
        go_ret
        exact ⟨_, rfl, rfl, .inr ⟨k, rfl, hlt, by rw [at_list s k hlt, HD.out], HN.out⟩⟩
      · have hx : ((s.extract k (k + 1)).toList == [58]) = false := by
          rw [ext_one s k hlt]
          simp [hd]
        have HD := hid hd
        clear hd
        go_wp2_with fail
        go_round
        case rel => exact ⟨k + 1, by omega, by go_num, by rw [take_list s k hlt]; simp [HN.out, Ne.symm HD.out]⟩
        case measure => simp [intOf]; omega
    · have hks : k = s.size := by omega
      have hw : IntKind.i64.wrap ((k : Int) + 1) = (k : Int) + 1 := IntWalk.i64_in _ (by omega)
      have := HN.out
      rw [hks, take_all] at this
      have HA := hid this
      clear this
      go_wp2_with fail
      go_ret
      exact ⟨_, rfl, rfl, .inl ⟨rfl, HA.out⟩⟩

set_option maxRecDepth 100000 in
theorem first_colon (s : ByteArray) (w : World) (hs : s.size ≤ 2147483647) : Calls Tryd.prog 7 #[.string s, .int .u8 58] w fun e w' =>
    ∃ n : Int, e = .returned (.int .i64 n) ∧ w = w' ∧ Fst 58 s n := by
  go_enter Tryd.func7, Tryd.ntmps7
  go_wp2_with fail
  go_loop [5] (fun i => ∃ k : Nat, k ≤ s.size ∧ i = .int .i64 k ∧ (58 : UInt8) ∉ s.toList.take k) (fun i => s.size - (intOf i).toNat)
  case atStart => exact ⟨0, Nat.zero_le _, rfl, by simp⟩
  case round =>
    obtain ⟨k, hk, rfl, hn⟩ := hrel
    have HN := hid hn
    clear hn
    have hw : IntKind.i64.wrap ((k : Int) + 1) = (k : Int) + 1 := IntWalk.i64_in _ (by omega)
    by_cases hlt : k < s.size
    · by_cases hd : s[k] = 58
      · have hd' : ((s[k].toNat : Int) == 58) = true := by rw [hd]; rfl
        have HD := hid hd
        clear hd
        go_wp2_with fail
        go_ret
        exact ⟨_, rfl, rfl, .inr ⟨k, rfl, hlt, by rw [at_list s k hlt, HD.out], HN.out⟩⟩
      · have hd' : ((s[k].toNat : Int) == 58) = false := by
          rw [beq_eq_false_iff_ne]
          intro e
          exact hd (UInt8.toNat_inj.1 (by have : s[k].toNat = 58 := by omega
                                          rw [this]; rfl))
        have HD := hid hd
        clear hd
        go_wp2_with fail
        go_round
        case rel => exact ⟨k + 1, by omega, by go_num, by rw [take_list s k hlt]; simp [HN.out, Ne.symm HD.out]⟩
        case measure => simp [intOf]; omega
    · have hks : k = s.size := by omega
      have := HN.out
      rw [hks, take_all] at this
      have HA := hid this
      clear this
      go_wp2_with fail
      go_ret
      exact ⟨_, rfl, rfl, .inl ⟨rfl, HA.out⟩⟩
end Go.Proofs.YtekjeagcncfmmaaDoor
