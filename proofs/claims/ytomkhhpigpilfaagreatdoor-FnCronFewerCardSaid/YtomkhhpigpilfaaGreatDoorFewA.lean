/- FnCronFewer's small functions of the reference: joined words, beginnings of a text, the plain text's guard. Walked. -/
import Derived.Test.YtomkhhpigpilfaaGreatDoorWdP
import Derived.Lib.Strings
import Derived.IntWalk
set_option linter.unusedVariables false
set_option linter.unusedSimpArgs false
namespace Go.Proofs.YtomkhhpigpilfaaGreatDoor
open Go.RowKit

/-- A slice's texts. -/
def Strs (w : World) (ao : Option Addr) (n : Nat) (f : Nat → ByteArray) : Prop := ∀ i, i < n → ∃ a, ao = some a ∧ w.cell? (a.add i) = some (.string (f i))
theorem Strs.below {w w' : World} {ao : Option Addr} {n : Nat} {f : Nat → ByteArray} (h : Strs w ao n f) (hb : Below w.heap.size w w') : Strs w' ao n f := fun i hi => by
  obtain ⟨a, h1, h2⟩ := h i hi
  exact ⟨a, h1, (hb.cell (World.block_lt_of_cell? w _ h2)).trans h2⟩
/-- A Bool, true only where p. -/
def Says (e : Ending) (p : Prop) : Prop := ∃ b : Bool, e = .returned (.bool b) ∧ (b = true → p)

/-- The texts and their number are no longer than the guard lets them be. -/
def FitsP (n : Nat) (f : Nat → ByteArray) : Prop := n ≤ 2147483647 ∧ ∀ i, i < n → (f i).size ≤ 2147483647
theorem fits_any (ao : Option Addr) (n c : Nat) (f : Nat → ByteArray) (w : World) (hS : Strs w ao n f) : Calls Tryz.prog 5 #[.slice ao n c] w fun e w' => Says e (FitsP n f) ∧ w' = w := by
  have HS := hid hS
  clear hS
  go_enter Tryz.func5, Tryz.ntmps5
  by_cases hm : n ≤ 2147483647
  · have u0 : ¬ (2147483647 : Int) < (n : Int) := by omega
    go_wp2_with fail
    go_loop [10] (fun i => ∃ k : Nat, k ≤ n ∧ i = .int .i64 k ∧ Hid (∀ i, i < k → (f i).size ≤ 2147483647)) (fun i => n - (intOf i).toNat)
    case atStart => exact ⟨0, Nat.zero_le _, rfl, fun i hi => absurd hi (Nat.not_lt_zero _)⟩
    case round =>
      obtain ⟨k, hk, rfl, I⟩ := hrel
      by_cases hlt : k < n
      · obtain ⟨a, rfl, hc⟩ := HS.out k hlt
        obtain ⟨s, hs⟩ : ∃ s, f k = s := ⟨_, rfl⟩
        rw [hs] at hc
        have HSS := hid hs
        clear hs
        have hw : IntKind.i64.wrap ((k : Int) + 1) = (k : Int) + 1 := IntWalk.i64_in _ (by omega)
        by_cases hz : s.size ≤ 2147483647
        · have u1 : ¬ (2147483647 : Int) < (s.size : Int) := by omega
          have HZ := hid hz
          clear hz
          go_wp2_with fail
          go_round
          case rel =>
            refine ⟨k + 1, by omega, by go_num, fun i hi => ?_⟩
            by_cases e : i = k
            · subst e
              rw [HSS.out]
              exact HZ.out
            · exact I.out i (by omega)
          case measure => simp [intOf]; omega
        · have u1 : (2147483647 : Int) < (s.size : Int) := by omega
          go_wp2_with fail
          go_ret
          exact ⟨⟨_, rfl, fun h => by cases h⟩, rfl⟩
      · go_wp2_with fail
        go_ret
        exact ⟨⟨_, rfl, fun _ => ⟨hm, fun i hi => I.out i (by omega)⟩⟩, rfl⟩
  · have u0 : (2147483647 : Int) < (n : Int) := by omega
    go_wp2_with fail
    go_ret
    exact ⟨⟨_, rfl, fun h => by cases h⟩, rfl⟩

/-- The first k texts with a space between every two. -/
def joinB (f : Nat → ByteArray) : Nat → ByteArray
  | 0 => ⟨#[]⟩
  | k + 1 => if k = 0 then (⟨#[]⟩ : ByteArray) ++ f 0 else joinB f k ++ ⟨#[32]⟩ ++ f k
theorem joinB_size (f : Nat → ByteArray) : ∀ k, (∀ i, i < k → (f i).size ≤ 2147483647) → (joinB f k).size ≤ k * 2147483648
  | 0, _ => Nat.zero_le _
  | k + 1, h => by
    have h1 := joinB_size f k (fun i hi => h i (by omega))
    have h2 := h k (by omega)
    unfold joinB
    split
    · rename_i e
      subst e
      rw [ByteArray.size_append]
      have : (⟨#[]⟩ : ByteArray).size = 0 := rfl
      omega
    · rw [ByteArray.size_append, ByteArray.size_append]
      have : (⟨#[32]⟩ : ByteArray).size = 1 := rfl
      omega
set_option maxRecDepth 100000 in
theorem join_any (ao : Option Addr) (n c : Nat) (f : Nat → ByteArray) (w : World) (hn : n ≤ 2147483647) (hf : ∀ i, i < n → (f i).size ≤ 2147483647) (hS : Strs w ao n f) :
    Calls Tryz.prog 6 #[.slice ao n c, .string ⟨#[32]⟩] w fun e w' => e = .returned (.string (joinB f n)) ∧ w' = w := by
  have HS := hid hS
  have HF := hid hf
  have HZ := hid (fun k (hk : k ≤ n) => joinB_size f k (fun i hi => hf i (by omega)))
  clear hS hf
  go_enter Tryz.func6, Tryz.ntmps6
  go_wp2_with fail
  go_loop [5, 10] (fun t i => ∃ k : Nat, k ≤ n ∧ i = .int .i64 k ∧ t = .string (joinB f k)) (fun t i => n - (intOf i).toNat)
  case atStart => exact ⟨0, Nat.zero_le _, rfl, rfl⟩
  case round =>
    obtain ⟨k, hk, rfl, rfl⟩ := hrel
    by_cases hlt : k < n
    · obtain ⟨a, rfl, hc⟩ := HS.out k hlt
      have hz := HZ.out k hk
      have hs := HF.out k hlt
      have hj : joinB f (k + 1) = if k = 0 then (⟨#[]⟩ : ByteArray) ++ f 0 else joinB f k ++ ⟨#[32]⟩ ++ f k := rfl
      have hw : IntKind.i64.wrap ((k : Int) + 1) = (k : Int) + 1 := IntWalk.i64_in _ (by omega)
      by_cases h0 : k = 0
      · subst h0
        rw [if_pos rfl] at hj
        have hj0 : joinB f 0 = ⟨#[]⟩ := rfl
        rw [hj0, show (((0 : Nat) : Int)) = 0 from rfl]
        have HJ := hid hj
        clear hj hw hz hk hj0
        generalize f 0 = s at hc hs HJ
        have hc0 : w.cell? a = some (.string s) := by cases a; simpa [Addr.add] using hc
        have z1 : ¬ 9223372036854775807 < (⟨#[]⟩ : ByteArray).size + s.size := by have : (⟨#[]⟩ : ByteArray).size = 0 := rfl; omega
        go_wp2_with fail
        go_round
        case rel => exact ⟨1, by omega, by go_num, by rw [HJ.out]⟩
        case measure => simp [intOf]; omega
      · rw [if_neg h0] at hj
        have HJ := hid hj
        clear hj
        have u0 : (0 : Int) < (k : Int) := by omega
        generalize joinB f k = t at hz HJ ⊢
        generalize f k = s at hc hs HJ
        have z0 : ¬ 9223372036854775807 < t.size + (⟨#[32]⟩ : ByteArray).size := by have : (⟨#[32]⟩ : ByteArray).size = 1 := rfl; omega
        have z1 : ¬ 9223372036854775807 < (t ++ ⟨#[32]⟩).size + s.size := by rw [ByteArray.size_append]; have : (⟨#[32]⟩ : ByteArray).size = 1 := rfl; omega
        go_wp2_with fail
        go_round
        case rel => exact ⟨k + 1, by omega, by go_num, by rw [HJ.out]⟩
        case measure => simp [intOf]; omega
    · have he : k = n := by omega
      subst he
      go_wp2_with fail
      go_ret
      exact ⟨rfl, rfl⟩

theorem pre_take (s p : ByteArray) (h : p.size ≤ s.size) : ((s.extract 0 p.size).toList == p.toList) = Lib.hasPrefix s.toList p.toList := by
  rw [← Lib.hasPrefix_of_take, ext_list, size_list, size_list, decide_eq_true h, Bool.true_and]
  rfl
theorem pre_short (s p : ByteArray) (h : ¬ p.size ≤ s.size) : Lib.hasPrefix s.toList p.toList = false := by
  rw [← Lib.hasPrefix_of_take, size_list, size_list, decide_eq_false h, Bool.false_and]
theorem head_any (s p : ByteArray) (w : World) (hs : s.size ≤ 2147483647) : Calls Tryz.prog 16 #[.string s, .string p] w fun e w' => e = .returned (.bool (Lib.hasPrefix s.toList p.toList)) ∧ w = w' := by
  by_cases h : p.size ≤ s.size
  · have hsl := slice_to s p.size h
    have h1 : (p.size : Int) ≤ (s.size : Int) := by omega
    have h2 : ¬ (s.size : Int) < (p.size : Int) := by omega
    have HP := hid (pre_take s p h)
    go_enter Tryz.func16, Tryz.ntmps16
    go_wp2_with fail
    go_ret
    exact ⟨ret_b HP.out, rfl⟩
  · have h1 : ¬ (p.size : Int) ≤ (s.size : Int) := by omega
    have h2 : (s.size : Int) < (p.size : Int) := by omega
    have HP := hid (pre_short s p h)
    go_enter Tryz.func16, Tryz.ntmps16
    go_wp2_with fail
    go_ret
    exact ⟨ret_b HP.out.symm, rfl⟩
theorem begins_any (s p : ByteArray) (w : World) (hs : s.size ≤ 2147483647) : Calls Tryz.prog 36 #[.string s, .string p] w fun e w' => e = .returned (.bool (Lib.hasPrefix s.toList p.toList)) ∧ w = w' := by
  by_cases h : p.size ≤ s.size
  · have hsl := slice_to s p.size h
    have h1 : (p.size : Int) ≤ (s.size : Int) := by omega
    have h2 : ¬ (s.size : Int) < (p.size : Int) := by omega
    have HP := hid (pre_take s p h)
    go_enter Tryz.func36, Tryz.ntmps36
    go_wp2_with fail
    go_ret
    exact ⟨ret_b HP.out, rfl⟩
  · have h1 : ¬ (p.size : Int) ≤ (s.size : Int) := by omega
    have h2 : (s.size : Int) < (p.size : Int) := by omega
    have HP := hid (pre_short s p h)
    go_enter Tryz.func36, Tryz.ntmps36
    go_wp2_with fail
    go_ret
    exact ⟨ret_b HP.out.symm, rfl⟩
def tzB : ByteArray := ⟨#[84, 90, 61]⟩
def ctzB : ByteArray := ⟨#[67, 82, 79, 78, 95, 84, 90, 61]⟩
/-- The text begins with a time zone. -/
def zoned (s : ByteArray) : Bool := Lib.hasPrefix s.toList tzB.toList || Lib.hasPrefix s.toList ctzB.toList
set_option maxRecDepth 100000 in
theorem zoneHead_any (s : ByteArray) (w : World) (hs : s.size ≤ 2147483647) : Calls Tryz.prog 17 #[.string s] w fun e w' => (∃ n : Int, e = .returned (.int .i64 n) ∧ (n == 0) = !zoned s) ∧ w = w' := by
  have C1 := hid (fun w => begins_any s ⟨#[84, 90, 61]⟩ w hs)
  have C2 := hid (fun w => begins_any s ⟨#[67, 82, 79, 78, 95, 84, 90, 61]⟩ w hs)
  have HZ := hid (show zoned s = (Lib.hasPrefix s.toList (⟨#[84, 90, 61]⟩ : ByteArray).toList || Lib.hasPrefix s.toList (⟨#[67, 82, 79, 78, 95, 84, 90, 61]⟩ : ByteArray).toList) from rfl)
  generalize zoned s = z at HZ ⊢
  generalize Lib.hasPrefix s.toList (⟨#[84, 90, 61]⟩ : ByteArray).toList = b1 at C1 HZ
  generalize Lib.hasPrefix s.toList (⟨#[67, 82, 79, 78, 95, 84, 90, 61]⟩ : ByteArray).toList = b2 at C2 HZ
  have ix0 : ∀ w, (Instr.index 79 (.agg #[.string ⟨#[84, 90, 61]⟩, .string ⟨#[67, 82, 79, 78, 95, 84, 90, 61]⟩]) (.int .i64 0)).run Tryz.prog w = .ok (.string ⟨#[84, 90, 61]⟩) w := fun w => by kernel_rfl
  have ix1 : ∀ w, (Instr.index 79 (.agg #[.string ⟨#[84, 90, 61]⟩, .string ⟨#[67, 82, 79, 78, 95, 84, 90, 61]⟩]) (.int .i64 1)).run Tryz.prog w = .ok (.string ⟨#[67, 82, 79, 78, 95, 84, 90, 61]⟩) w := fun w => by kernel_rfl
  go_enter Tryz.func17, Tryz.ntmps17
  go_wp2_with fail
  go_loop [6] (fun i => i = .int .i64 0 ∨ (i = .int .i64 1 ∧ Hid (b1 = false)) ∨ (i = .int .i64 2 ∧ Hid (b1 = false ∧ b2 = false))) (fun i => 2 - (intOf i).toNat)
  case atStart => exact .inl rfl
  case round =>
    rcases hrel with rfl | ⟨rfl, I⟩ | ⟨rfl, I⟩
    · cases b1 with
      | true =>
        go_wp2_with (go_at_call 36; refine (C1.out _).mono ?_; rintro e w' ⟨rfl, rfl⟩)
        go_ret
        exact ⟨⟨_, rfl, by rw [HZ.out]; rfl⟩, rfl⟩
      | false =>
        go_wp2_with (go_at_call 36; refine (C1.out _).mono ?_; rintro e w' ⟨rfl, rfl⟩)
        go_round
        case rel => exact .inr (.inl ⟨rfl, hid (by trivial)⟩)
        case measure => simp [intOf]
    · cases b2 with
      | true =>
        go_wp2_with (go_at_call 36; refine (C2.out _).mono ?_; rintro e w' ⟨rfl, rfl⟩)
        go_ret
        exact ⟨⟨_, rfl, by rw [HZ.out]; cases b1 <;> rfl⟩, rfl⟩
      | false =>
        go_wp2_with (go_at_call 36; refine (C2.out _).mono ?_; rintro e w' ⟨rfl, rfl⟩)
        go_round
        case rel => exact .inr (.inr ⟨rfl, ⟨I.out, by trivial⟩⟩)
        case measure => simp [intOf]
    · go_wp2_with fail
      go_ret
      exact ⟨⟨_, rfl, by rw [HZ.out, I.out.1, I.out.2]; rfl⟩, rfl⟩

/-- What a plain text is. -/
def PlainT (s : ByteArray) : Prop := (∀ k (h : k < s.size), (s[k]'h).toNat < 128) ∧ s.size ≤ 65536 ∧ Lib.hasPrefix s.toList (⟨#[64]⟩ : ByteArray).toList = false ∧ zoned s = false
set_option maxRecDepth 100000 in
theorem plainText_any (s : ByteArray) (w : World) (hs : s.size ≤ 4611686018427387904) : Calls Tryz.prog 7 #[.string s] w fun e w' => Says e (PlainT s) ∧ w = w' := by
  have CH := hid (fun (h : s.size ≤ 2147483647) w => head_any s ⟨#[64]⟩ w h)
  have CZ := hid (fun (h : s.size ≤ 2147483647) w => zoneHead_any s w h)
  go_enter Tryz.func7, Tryz.ntmps7
  go_wp2_with fail
  go_loop [6] (fun i => ∃ k : Nat, k ≤ s.size ∧ i = .int .i64 k ∧ Hid (∀ j (h : j < s.size), j < k → (s[j]'h).toNat < 128)) (fun i => s.size - (intOf i).toNat)
  case atStart => exact ⟨0, Nat.zero_le _, rfl, fun j _ hj => absurd hj (Nat.not_lt_zero _)⟩
  case round =>
    obtain ⟨k, hk, rfl, I⟩ := hrel
    by_cases hlt : k < s.size
    · obtain ⟨b, hb⟩ : ∃ b, s[k]'hlt = b := ⟨_, rfl⟩
      have hw : IntKind.i64.wrap ((k : Int) + 1) = (k : Int) + 1 := IntWalk.i64_in _ (by omega)
      by_cases h8 : (128 : Int) ≤ (b.toNat : Int)
      · go_wp2_with fail
        go_ret
        exact ⟨⟨_, rfl, fun h => by cases h⟩, rfl⟩
      · go_wp2_with fail
        go_round
        case rel =>
          refine ⟨k + 1, by omega, by go_num, fun j hj hjk => ?_⟩
          by_cases e : j = k
          · subst e
            rw [hb]
            omega
          · exact I.out j hj (by omega)
        case measure => simp [intOf]; omega
    · have ha : ∀ j (h : j < s.size), (s[j]'h).toNat < 128 := fun j h => I.out j h (by omega)
      have HA := hid ha
      clear ha I
      by_cases hz : s.size ≤ 65536
      · have u0 : (s.size : Int) ≤ 65536 := by omega
        have C1 := hid (CH.out (by omega))
        have C2 := hid (CZ.out (by omega))
        clear CH CZ
        obtain ⟨p, hp⟩ : ∃ p, Lib.hasPrefix s.toList (⟨#[64]⟩ : ByteArray).toList = p := ⟨_, rfl⟩
        rw [hp] at C1
        have HP := hid hp
        clear hp
        cases p with
        | true =>
          go_wp2_with (go_at_call 16; refine (C1.out _).mono ?_; rintro e w' ⟨rfl, rfl⟩)
          go_ret
          exact ⟨⟨_, rfl, fun h => by cases h⟩, rfl⟩
        | false =>
          obtain ⟨z, hz'⟩ : ∃ z, zoned s = z := ⟨_, rfl⟩
          rw [hz'] at C2
          have HZ := hid hz'
          clear hz'
          go_wp2_with (first
            | (go_at_call 16; refine (C1.out _).mono ?_; rintro e w' ⟨rfl, rfl⟩)
            | (go_at_call 17; refine (C2.out _).mono ?_; rintro e w' ⟨⟨n, rfl, hn⟩, rfl⟩))
          go_ret
          exact ⟨⟨_, rfl, fun h => ⟨HA.out, hz, HP.out, by rw [HZ.out]; cases z with
            | false => rfl
            | true => first | cases h | (rw [hn] at h; cases h)⟩⟩, rfl⟩
      · have u0 : ¬ (s.size : Int) ≤ 65536 := by omega
        go_wp2_with fail
        go_ret
        exact ⟨⟨_, rfl, fun h => by cases h⟩, rfl⟩
end Go.Proofs.YtomkhhpigpilfaaGreatDoor
