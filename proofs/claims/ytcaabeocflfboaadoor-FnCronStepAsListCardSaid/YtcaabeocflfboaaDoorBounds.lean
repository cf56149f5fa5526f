/- The bounds and names of the six fields; impl.CronField over a text whose items are known. Walked. -/
import Derived.Test.YtcaabeocflfboaaDoorNames
import Derived.Test.YtcaabeocflfboaaDoorLowC
import Derived.Test.YtcaabeocflfboaaDoorField
set_option linter.unusedVariables false
set_option linter.unusedSimpArgs false
namespace Go.Proofs.YtcaabeocflfboaaDoor
open Go.RowKit

theorem dec_atoi (n : Nat) (h : n ≤ 9223372036854775807) : Lib.atoiAll (dec n).toList = .ok (n : Int) := by
  have := zt_atoi 0 n h
  rwa [zt_zero] at this

theorem lowDec_any (n : Nat) (h : n ≤ 9223372036854775807) (w : World) : Calls Tryd.prog 71 #[.string (dec n)] w fun e w' => e = .returned (.string (dec n)) ∧ Below w.heap.size w w' := by
  have := lower_any (dec n) w (by have := dec_size n (by omega); omega)
  rw [low_same (dec n) (by rw [dec_list]; exact (dec_digits n).1)] at this
  exact this

theorem named_any (x : Nat) (hx : x ≤ 9223372036854775807) (b : Nat) (es : Array MapEntry) (c : Nat) (hno : NoKey (dec x) es.toList) (w : World) (hb : w.heap[b]? = some (.map es c)) :
    Calls Tryd.prog 49 #[.string (dec x), .map (some b)] w fun e w' => e = .returned (.tuple #[.int .u64 x, .nilIface]) ∧ Below w.heap.size w w' := by
  have qT : ∀ (w : World) (r : Option Nat), (binOp .neq 67 (.map r) (.map none)).run Tryd.prog w = .ok (.bool (!r.isNone)) w := fun w r => run_neq_map_nil w _ _ _ r Tryd.underlying67
  have HX := hid hx
  have HB := hid hb
  have HN := hid hno
  have HZ := hid (show (dec x).size ≤ maxLen by have := dec_size x (by omega); unfold maxLen; omega)
  clear hx hb hno
  go_enter Tryd.func49, Tryd.ntmps49
  go_wp2_with (first | (go_at_call 71; refine (lowDec_any x HX.out _).mono ?_; rintro e w1 ⟨rfl, hb⟩; have hk := run_lookup_none w1 b es c (dec x) HZ.out ((hb.block b (Array.getElem?_eq_some_iff.1 HB.out).1).trans HB.out) HN.out; replace hb := hid hb) | (go_at_call 35; refine (must_any (dec x) x (by have := dec_size x (by have := HX.out; omega); omega) (dec_atoi x HX.out) HX.out _).mono ?_; rintro e w2 ⟨rfl, hb2⟩; replace hb2 := hid hb2))
  go_returns
  exact ⟨rfl, bt hb.out hb2.out⟩

def kLo (k : Nat) : Nat := if k = 3 ∨ k = 4 then 1 else 0
def kHi (k : Nat) : Nat := if k = 2 then 23 else if k = 3 then 31 else if k = 4 then 12 else if k = 5 then 6 else 59
/-- What the names of a field do with numbers: nothing. -/
def Plain (mv : Value) (M : World → Prop) : Prop := ∀ n, n ≤ 9223372036854775807 → Means mv M (dec n) n
theorem plain_nil : Plain (.map none) (fun _ => True) := fun n h w _ => plain_name (dec n) n (by have := dec_size n (by omega); omega) (dec_atoi n h) h w
def MapAt (b : Nat) (es : Array MapEntry) (c : Nat) (w : World) : Prop := w.heap[b]? = some (.map es c)
theorem kept_map (b : Nat) (es : Array MapEntry) (c : Nat) : Kept (MapAt b es c) := fun w w' h hb => (hb.block b (Array.getElem?_eq_some_iff.1 h).1).trans h
theorem plain_map (b : Nat) (es : Array MapEntry) (c : Nat) (hno : ∀ n, NoKey (dec n) es.toList) : Plain (.map (some b)) (MapAt b es c) := fun n h w hw => named_any n h b es c (hno n) w hw

theorem bounds_0 (w : World) : Calls Tryd.prog 40 #[.int .i64 0] w fun e w' => ∃ mv M, e = .returned (.agg #[.int .u64 (kLo 0 : Nat), .int .u64 (kHi 0 : Nat), mv]) ∧ Below w.heap.size w w' ∧ M w' ∧ Kept M ∧ Plain mv M := by
  go_enter Tryd.func40, Tryd.ntmps40
  go_wp2
  go_returns
  exact ⟨_, _, rfl, by go_grown, trivial, fun _ _ _ _ => trivial, plain_nil⟩

theorem bounds_1 (w : World) : Calls Tryd.prog 40 #[.int .i64 1] w fun e w' => ∃ mv M, e = .returned (.agg #[.int .u64 (kLo 1 : Nat), .int .u64 (kHi 1 : Nat), mv]) ∧ Below w.heap.size w w' ∧ M w' ∧ Kept M ∧ Plain mv M := by
  go_enter Tryd.func40, Tryd.ntmps40
  go_wp2
  go_returns
  exact ⟨_, _, rfl, by go_grown, trivial, fun _ _ _ _ => trivial, plain_nil⟩

theorem bounds_2 (w : World) : Calls Tryd.prog 40 #[.int .i64 2] w fun e w' => ∃ mv M, e = .returned (.agg #[.int .u64 (kLo 2 : Nat), .int .u64 (kHi 2 : Nat), mv]) ∧ Below w.heap.size w w' ∧ M w' ∧ Kept M ∧ Plain mv M := by
  go_enter Tryd.func40, Tryd.ntmps40
  go_wp2
  go_returns
  exact ⟨_, _, rfl, by go_grown, trivial, fun _ _ _ _ => trivial, plain_nil⟩

theorem bounds_3 (w : World) : Calls Tryd.prog 40 #[.int .i64 3] w fun e w' => ∃ mv M, e = .returned (.agg #[.int .u64 (kLo 3 : Nat), .int .u64 (kHi 3 : Nat), mv]) ∧ Below w.heap.size w w' ∧ M w' ∧ Kept M ∧ Plain mv M := by
  go_enter Tryd.func40, Tryd.ntmps40
  go_wp2
  go_returns
  exact ⟨_, _, rfl, by go_grown, trivial, fun _ _ _ _ => trivial, plain_nil⟩

set_option maxHeartbeats 1600000 in
set_option maxRecDepth 100000 in
theorem bounds_4 (w : World) : Calls Tryd.prog 40 #[.int .i64 4] w fun e w' => ∃ mv M, e = .returned (.agg #[.int .u64 (kLo 4 : Nat), .int .u64 (kHi 4 : Nat), mv]) ∧ Below w.heap.size w w' ∧ M w' ∧ Kept M ∧ Plain mv M := by
  have hC := hid (fun w => (months_any w).mono fun e w' (h : _ ∧ w' = (w.alloc _).alloc (.map monthsE 12)) => h)
  go_enter Tryd.func40, Tryd.ntmps40
  go_wp2_with (go_at_call 59; refine (hC.out _).mono ?_; rintro e w1 ⟨rfl, rfl⟩)
  go_returns
  refine ⟨_, MapAt (w.heap.size + 1 + 1) monthsE 12, rfl, by go_grown, ?_, kept_map _ _ _, plain_map _ _ _ noKey_months⟩
  unfold MapAt
  have h := heap_alloc_new ((w.alloc (.cells #[.int .u64 (kLo 4 : Nat), .int .u64 (kHi 4 : Nat), .map (some (w.heap.size + 1 + 1))] 69)).alloc (.cells #[.int .u64 (kLo 4 : Nat), .int .u64 (kHi 4 : Nat), .map (some (w.heap.size + 1 + 1))] 69)) (.map monthsE 12)
  rw [World.size_alloc, World.size_alloc] at h
  exact h

set_option maxHeartbeats 1600000 in
set_option maxRecDepth 100000 in
theorem bounds_5 (w : World) : Calls Tryd.prog 40 #[.int .i64 5] w fun e w' => ∃ mv M, e = .returned (.agg #[.int .u64 (kLo 5 : Nat), .int .u64 (kHi 5 : Nat), mv]) ∧ Below w.heap.size w w' ∧ M w' ∧ Kept M ∧ Plain mv M := by
  have hC := hid (fun w => (dow_any w).mono fun e w' (h : _ ∧ w' = (w.alloc _).alloc (.map dowE 7)) => h)
  go_enter Tryd.func40, Tryd.ntmps40
  go_wp2_with (go_at_call 60; refine (hC.out _).mono ?_; rintro e w1 ⟨rfl, rfl⟩)
  go_returns
  refine ⟨_, MapAt (w.heap.size + 1 + 1) dowE 7, rfl, by go_grown, ?_, kept_map _ _ _, plain_map _ _ _ noKey_dow⟩
  unfold MapAt
  have h := heap_alloc_new ((w.alloc (.cells #[.int .u64 (kLo 5 : Nat), .int .u64 (kHi 5 : Nat), .map (some (w.heap.size + 1 + 1))] 69)).alloc (.cells #[.int .u64 (kLo 5 : Nat), .int .u64 (kHi 5 : Nat), .map (some (w.heap.size + 1 + 1))] 69)) (.map dowE 7)
  rw [World.size_alloc, World.size_alloc] at h
  exact h

theorem bounds_any (k : Nat) (hk : k ≤ 5) (w : World) : Calls Tryd.prog 40 #[.int .i64 k] w fun e w' => ∃ mv M, e = .returned (.agg #[.int .u64 (kLo k : Nat), .int .u64 (kHi k : Nat), mv]) ∧ Below w.heap.size w w' ∧ M w' ∧ Kept M ∧ Plain mv M := by
  match k, hk with
  | 0, _ => exact bounds_0 w
  | 1, _ => exact bounds_1 w
  | 2, _ => exact bounds_2 w
  | 3, _ => exact bounds_3 w
  | 4, _ => exact bounds_4 w
  | 5, _ => exact bounds_5 w
  | k + 6, h => omega

set_option maxHeartbeats 1600000 in
theorem cronField_any (k : Nat) (hk : k ≤ 5) (s : ByteArray) (f : ByteArray → Nat) (w : World) (hs : s.size ≤ 2147483647) (ha : ascii s) (hfl : full (cut 44 s.toList)) (hf : ∀ x, f x < 18446744073709551616)
    (hR : ∀ mv M, Kept M → Plain mv M → ∀ x : ByteArray, x.toList ∈ cut 44 s.toList → ∀ w, M w → Calls Tryd.prog 36 #[.string x, .agg #[.int .u64 (kLo k : Nat), .int .u64 (kHi k : Nat), mv]] w fun e w' => ∃ v : Int, e = .returned (.tuple #[.int .u64 v, .nilIface]) ∧ v = (f x : Int) ∧ Below w.heap.size w w') :
    Calls Tryd.prog 19 #[.int .i64 k, .string s] w fun e w' => ∃ xs : List ByteArray, xs.map (·.toList) = cut 44 s.toList ∧ e = .returned (.tuple #[.int .u64 (orAll f xs : Nat), .bool true]) ∧ Below w.heap.size w w' := by
  have h0 : ¬ (k : Int) < 0 := by omega
  have h5 : ¬ (5 : Int) < (k : Int) := by omega
  have HK := hid hk
  have HR := hid hR
  have HS := hid hs
  have HA := hid ha
  have HL := hid hfl
  have HF := hid hf
  clear hk hR hs ha hfl hf
  go_enter Tryd.func19, Tryd.ntmps19
  go_wp2_with (first | (go_at_call 33; go_in) | (go_at_call 24; go_in) | (go_at_call 40; refine (bounds_any k HK.out _).mono ?_; rintro e w1 ⟨mv, M, rfl, hb, hm, hM, hP⟩; replace hb := hid hb; replace hm := hid hm; replace hM := hid hM; replace hP := hid hP) | (go_at_call 41; refine (field_any s (kLo k) (kHi k) mv f _ M hM.out hm.out HS.out HA.out HL.out HF.out (HR.out mv M hM.out hP.out)).mono ?_; rintro e w2 ⟨xs, hx, rfl, hb2⟩; replace hx := hid hx; replace hb2 := hid hb2))
  go_returns
  exact ⟨xs, hx.out, rfl, bt hb.out hb2.out⟩
end Go.Proofs.YtcaabeocflfboaaDoor
