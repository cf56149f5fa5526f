/- spec.Identifiers and what is asked of each identifier, walked. -/
import Derived.Test.YtkohcmgckkenpaaDoorSemB
import Derived.Test.YtkohcmgckkenpaaDoorApp
set_option linter.unusedVariables false
set_option linter.unusedSimpArgs false
namespace Go.Proofs.YtkohcmgckkenpaaDoor
open Go.RowKit

theorem digits_any (s : ByteArray) (w : World) (hs : s.size ≤ 2147483647) : Calls Tryd.prog 40 #[.string s] w fun e w' => e = .returned (.bool (digs s.toList)) ∧ w = w' := by
  go_enter Tryd.func40, Tryd.ntmps40
  go_wp2
  go_loop [3] (fun i => ∃ k : Nat, k ≤ s.size ∧ i = .int .i64 k ∧ (s.toList.take k).all isDig = true) (fun i => s.size - (intOf i).toNat)
  case atStart => exact ⟨0, Nat.zero_le _, rfl, by simp⟩
  case round =>
    obtain ⟨k, hk, rfl, ha⟩ := hrel
    have HA := hid ha
    clear ha
    by_cases hlt : k < s.size
    · cases hb : isDig s[k]
      · have HB := hid hb
        go_wp2_with (go_at_call 52; refine (isDigit_any _ _).mono ?_; rintro e w' ⟨rfl, rfl⟩)
        go_ret
        refine ⟨ret_b ?_, rfl⟩
        have hm : s[k] ∈ s.toList := by
          have := at_list s k hlt
          exact List.mem_of_getElem? this
        show false = digs s.toList
        symm
        unfold digs
        rw [Bool.and_eq_false_iff]
        right
        rw [List.all_eq_false]
        exact ⟨_, hm, by rw [HB.out]; simp⟩
      · have HB := hid hb
        go_wp2_with (go_at_call 52; refine (isDigit_any _ _).mono ?_; rintro e w' ⟨rfl, rfl⟩)
        go_round
        case rel => exact ⟨k + 1, by omega, by go_num, by rw [all_take_succ isDig s k hlt, HA.out, HB.out]; rfl⟩
        case measure => simp [intOf]; omega
    · go_wp2
      go_ret
      refine ⟨ret_b ?_, rfl⟩
      have e : k = s.size := by omega
      have hA := HA.out
      rw [e, take_all] at hA
      show (!s.toList.isEmpty) = digs s.toList
      unfold digs
      rw [hA]; simp

theorem info_str : (Tryd.prog.info? 9).map (fun i => (i.zero, i.size, i.bytes)) = some (some (.string ⟨#[]⟩), 1, 16) := by kernel_rfl

/-- What has been gathered when the loop stands at k, the last part begun at f. -/
def IdRel (s : ByteArray) (W : World) (f k : Nat) (v : Value) (wr : World) : Prop :=
  ∃ xs : List ByteArray, wr.ownsRow W.heap.size 9 1 v (xs.map Value.string).length (xs.map Value.string) ∧ Below W.heap.size W wr ∧ f ≤ k ∧ k ≤ s.size ∧ xs.length ≤ f ∧
    (46 : UInt8) ∉ (s.toList.drop f).take (k - f) ∧ xs.map (·.toList) ++ cut 46 (s.toList.drop f) = cut 46 s.toList

theorem id_dot {s : ByteArray} {W w1 : World} {f k : Nat} {v1 : Value} {xs : List ByteArray} (hk : k < s.size) (h1 : f ≤ k) (h3 : xs.length ≤ f) (hd : s[k] = 46)
    (h4 : (46 : UInt8) ∉ (s.toList.drop f).take (k - f)) (h5 : xs.map (·.toList) ++ cut 46 (s.toList.drop f) = cut 46 s.toList)
    (hown : w1.ownsRow W.heap.size 9 1 v1 (xs.map Value.string ++ [Value.string (s.extract f k)]).length (xs.map Value.string ++ [Value.string (s.extract f k)])) (hb : Below W.heap.size W w1) : IdRel s W (k + 1) (k + 1) v1 w1 := by
  refine ⟨xs ++ [s.extract f k], by simpa using hown, hb, Nat.le_refl _, hk, by simp; omega, by simp, ?_⟩
  rw [← h5, mid_drop s.toList f k h1, drop_list s k hk, hd, cut_at 46 _ _ h4]
  simp [ext_list]

theorem id_step {s : ByteArray} {W wr : World} {f k : Nat} {v : Value} {xs : List ByteArray} (hk : k < s.size) (h1 : f ≤ k) (h3 : xs.length ≤ f) (hd : s[k] ≠ 46)
    (h4 : (46 : UInt8) ∉ (s.toList.drop f).take (k - f)) (h5 : xs.map (·.toList) ++ cut 46 (s.toList.drop f) = cut 46 s.toList)
    (hown : wr.ownsRow W.heap.size 9 1 v (xs.map Value.string).length (xs.map Value.string)) (hb : Below W.heap.size W wr) : IdRel s W f (k + 1) v wr := by
  refine ⟨xs, hown, hb, by omega, hk, h3, ?_, h5⟩
  rw [mid_succ s f k h1 hk, List.mem_append, not_or]
  exact ⟨h4, by simp; exact fun h => hd h.symm⟩

theorem id_end {s : ByteArray} {W w1 : World} {f k : Nat} {v1 : Value} {xs : List ByteArray} (hk : k = s.size) (h1 : f ≤ k)
    (h4 : (46 : UInt8) ∉ (s.toList.drop f).take (k - f)) (h5 : xs.map (·.toList) ++ cut 46 (s.toList.drop f) = cut 46 s.toList)
    (hown : w1.ownsRow W.heap.size 9 1 v1 (xs.map Value.string ++ [Value.string (s.extract f s.size)]).length (xs.map Value.string ++ [Value.string (s.extract f s.size)])) (hb : Below W.heap.size W w1) :
    ∃ (xs : List ByteArray) (g c : Nat), v1 = .slice (some ⟨g, 0, none⟩) xs.length c ∧ xs.map (·.toList) = cut 46 s.toList ∧ StrsAt w1 g xs ∧ Below W.heap.size W w1 := by
  have ho : w1.ownsRow W.heap.size 9 1 v1 (xs ++ [s.extract f s.size]).length ((xs ++ [s.extract f s.size]).map Value.string) := by simpa using hown
  obtain ⟨g, c, hv, _, hst⟩ := strs_of_own ho (by simp)
  refine ⟨_, g, c, hv, ?_, hst, hb⟩
  subst hk
  rw [← h5]
  have e : (s.toList.drop f).take (s.size - f) = s.toList.drop f := List.take_of_length_le (by rw [List.length_drop, size_list]; exact Nat.le_refl _)
  rw [e] at h4
  rw [cut_none 46 _ h4]
  simp [ext_list, e]

set_option maxRecDepth 100000 in
theorem identifiers_any (s : ByteArray) (w : World) (hs : s.size ≤ 2147483647) : Calls Tryd.prog 38 #[.string s] w fun e w' =>
    ∃ (xs : List ByteArray) (g c : Nat), e = .returned (.slice (some ⟨g, 0, none⟩) xs.length c) ∧ xs.map (·.toList) = cut 46 s.toList ∧ StrsAt w' g xs ∧ Below w.heap.size w w' := by
  go_enter Tryd.func38, Tryd.ntmps38
  go_wp2
  go_loopw [3, 4, 5] (fun v fr i wr => ∃ f k : Nat, fr = .int .i64 f ∧ i = .int .i64 k ∧ IdRel s w f k v wr) (fun _ _ i _ => s.size - (intOf i).toNat)
  case atStart => exact ⟨0, 0, rfl, rfl, [], ⟨by simp, .inl ⟨rfl, by simp⟩⟩, Below.refl _ _, Nat.le_refl _, Nat.zero_le _, Nat.zero_le _, by simp, by simp⟩
  case round =>
    obtain ⟨f, k, rfl, rfl, xs, hown, hb, h1, h2, h3, h4, h5⟩ := hrel
    have H4 := hid h4
    have H5 := hid h5
    clear h4 h5
    have hw := hb.size
    by_cases hlt : k < s.size
    · by_cases hd : s[k] = 46
      · have hd' : ((s[k].toNat : Int) == 46) = true := by rw [hd]; rfl
        have HD := hid hd
        clear hd
        go_wp2_with (at_builtin; refine app_one (w0 := w) w.heap.size rfl (.tmp 16) (.tmp 21) _ _ _ 16 rfl Tryd.underlying58 info_str rfl _ (xs.map Value.string) _ rfl rfl rfl hown hb hb.size (by simp [maxLen]; omega) (by simp; omega) ?_; intro v1 w1 hown1 hb1)
        go_roundw
        case rel => exact ⟨k + 1, k + 1, by go_num, by go_num, id_dot hlt h1 h3 HD.out H4.out H5.out hown1 hb1⟩
        case measure => simp [intOf]; omega
      · have hd' : ((s[k].toNat : Int) == 46) = false := by
          simp
          intro h
          exact hd (UInt8.toNat_inj.1 (by have : s[k].toNat = 46 := by omega
                                          rw [this]; rfl))
        have HD := hid hd
        clear hd
        go_wp2_with fail
        go_roundw
        case rel => exact ⟨f, k + 1, rfl, by go_num, id_step hlt h1 h3 HD.out H4.out H5.out hown hb⟩
        case measure => simp [intOf]; omega
    · go_wp2_with (at_builtin; refine app_one (w0 := w) w.heap.size rfl (.tmp 25) (.tmp 29) _ _ _ 16 rfl Tryd.underlying58 info_str rfl _ (xs.map Value.string) _ rfl rfl rfl hown hb hb.size (by simp [maxLen]; omega) (by simp; omega) ?_; intro v1 w1 hown1 hb1)
      go_ret
      obtain ⟨ys, g, c, hv, h6, h7, h8⟩ := id_end (by omega) h1 H4.out H5.out hown1 hb1
      subst hv
      exact ⟨ys, g, c, rfl, h6, h7, h8⟩

end Go.Proofs.YtkohcmgckkenpaaDoor
