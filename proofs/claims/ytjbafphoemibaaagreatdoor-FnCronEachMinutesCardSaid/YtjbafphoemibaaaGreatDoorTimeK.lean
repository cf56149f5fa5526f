/- The package time's moments without a monotonic part: their parts, their making, the location set. Walked. -/
import Derived.Test.YtjbafphoemibaaaGreatDoorQTail
import Derived.Deep.MidRow
import Derived.Laws.BitsAllLaws
import Derived.IntWalk
set_option linter.unusedVariables false
set_option linter.unusedSimpArgs false
namespace Go.Proofs.YtjbafphoemibaaaGreatDoor
open Go.RowKit

theorem blk_gr {w : World} {g : Nat} {t : TypeId} {cs : Array Value} (h : Blk w g t cs) (d : Nat) (os : Array Obj) : Blk (Go.Sort.grow (redrawn w d) os) g t cs := h.below (below_regrown w d os)
theorem cell_gr {w : World} {a : Addr} {v : Value} (h : w.cell? a = some v) (d : Nat) (os : Array Obj) : (Go.Sort.grow (redrawn w d) os).cell? a = some v := (below_regrown w d os).cell (World.block_lt_of_cell? w _ h) |>.trans h
theorem bt {X A C : World} (h1 : Below X.heap.size X A) (h2 : Below A.heap.size A C) : Below X.heap.size X C := h1.trans (h2.mono h1.size)
theorem there_blk {w : World} {g : Nat} {t : TypeId} {cs : Array Value} (h : Blk w g t cs) (n : Nat) (hn : n ≤ cs.size) : w.there g 0 n := fun j hj => by
  constructor
  · rw [Nat.zero_add, h.cell j, Array.getElem?_eq_getElem (by omega)]
    rfl
  · exact h.frozen _
theorem Blk.other {w : World} {g h : Nat} {t : TypeId} {cs : Array Value} (hb : Blk w g t cs) (hne : g ≠ h) (i : Nat) (u : Value) : Blk (w.setCell ⟨h, i, none⟩ u) g t cs := by
  unfold Blk at hb ⊢
  simp [World.setCell, Array.getElem?_modify, hb, Ne.symm hne]

/-- A moment: its wall part, its seconds, its location. -/
abbrev tcells (n e : Int) (p : Option Addr) : Array Value := #[.int .u64 n, .int .i64 e, .pointer p]
/-- An instant of the thin package. -/
abbrev icells (s n : Int) : Array Value := #[.int .i64 s, .int .i64 n]

theorem set3_blk {w : World} {g : Nat} {t : TypeId} {cs : Array Value} (h : Blk w g t cs) (hs : cs.size = 3) (n e : Int) (p : Option Addr) : Blk (w.setCells g 0 (tcells n e p).toList) g t (tcells n e p) := by
  match cs, hs with
  | ⟨[x0, x1, x2]⟩, _ => exact ((h.set 0 _).set 1 _).set 2 _
theorem set2_blk {w : World} {g : Nat} {t : TypeId} {cs : Array Value} (h : Blk w g t cs) (hs : cs.size = 2) (s n : Int) : Blk (w.setCells g 0 (icells s n).toList) g t (icells s n) := by
  match cs, hs with
  | ⟨[x0, x1]⟩, _ => exact (h.set 0 _).set 1 _
theorem set3_below {B : Nat} {w w1 : World} (h : Below B w w1) {g : Nat} (hg : B ≤ g) (n e : Int) (p : Option Addr) : Below B w (w1.setCells g 0 (tcells n e p).toList) :=
  below_set (below_set (below_set h hg 0 _) hg 1 _) hg 2 _
theorem set2_below {B : Nat} {w w1 : World} (h : Below B w w1) {g : Nat} (hg : B ≤ g) (s n : Int) : Below B w (w1.setCells g 0 (icells s n).toList) :=
  below_set (below_set h hg 0 _) hg 1 _

/-- The three masks of a wall part below 2^30. -/
theorem wall_low (n : Int) (h0 : 0 ≤ n) (h1 : n < 1073741824) : bits .and .u64 n 1073741823 = n := by
  obtain ⟨k, rfl⟩ := Int.eq_ofNat_of_zero_le h0
  have := u64_and_nat k 1073741823 (by omega) (by omega)
  rw [show (1073741823 : Int) = ((1073741823 : Nat) : Int) from rfl, this]
  have e : k &&& 1073741823 = k % 2 ^ 30 := Nat.and_two_pow_sub_one_eq_mod k 30
  rw [e, Nat.mod_eq_of_lt (by omega)]
theorem wall_mono (n : Int) (h0 : 0 ≤ n) (h1 : n < 1073741824) : bits .and .u64 n 9223372036854775808 = 0 := by
  obtain ⟨k, rfl⟩ := Int.eq_ofNat_of_zero_le h0
  have := u64_and_nat k 9223372036854775808 (by omega) (by omega)
  rw [show (9223372036854775808 : Int) = ((9223372036854775808 : Nat) : Int) from rfl, this]
  have e : k &&& 9223372036854775808 = 0 := by
    apply Nat.eq_of_testBit_eq
    intro i
    rw [Nat.testBit_and, show (9223372036854775808 : Nat) = 2 ^ 63 from rfl, Nat.testBit_two_pow, Nat.zero_testBit]
    by_cases h : 63 = i
    · subst h
      rw [Nat.testBit_lt_two_pow (by omega)]; rfl
    · simp [h]
  rw [e]; rfl

theorem unixTime_any (s n e : Int) (w : World) (h0 : 0 ≤ n) (h1 : n < 1000000000) (he : s + 62135596800 = e) (h2 : 0 ≤ e) (h3 : e ≤ 9223372036854775807) : Calls Tryz.prog 52 #[.int .i64 s, .int .i32 n] w fun e' w' => e' = .returned (.agg (tcells n e none)) ∧ Below w.heap.size w w' := by
  have e1 : IntKind.u64.wrap n = n := IntWalk.u64_in _ (by omega)
  have e2 : IntKind.i64.wrap (s + 62135596800) = e := by rw [he]; exact IntWalk.i64_in _ (by omega)
  clear he
  go_enter Tryz.func52, Tryz.ntmps52
  go_wp2
  go_returns
  exact ⟨rfl, by go_grown⟩

set_option maxRecDepth 100000 in
theorem gUnix_any (s n e : Int) (w : World) (h0 : 0 ≤ n) (h1 : n < 1000000000) (he : s + 62135596800 = e) (h2 : 0 ≤ e) (h3 : e ≤ 9223372036854775807) : Calls Tryz.prog 24 #[.int .i64 s, .int .i64 n] w fun e' w' => e' = .returned (.agg (tcells n e none)) ∧ Below w.heap.size w w' := by
  have e1 : IntKind.i32.wrap n = n := by rw [IntKind.wrap]; simp [IntKind.bits, IntKind.signed]; omega
  have b1 : ¬ n < 0 := by omega
  have b2 : ¬ 1000000000 ≤ n := by omega
  have C := hid (fun w => unixTime_any s n e w h0 h1 he h2 h3)
  clear h0 h1 he h2 h3
  go_enter Tryz.func24, Tryz.ntmps24
  go_wp2_with (go_at_call 52; refine (C.out _).mono ?_; rintro e' w' ⟨rfl, hb⟩; obtain ⟨hc, hf⟩ := bcell hb)
  have hk := (Blk.new w 52 #[.int .u64 0, .int .i64 0, .pointer none]).below hb
  have hk := ((hk.set 0 (.int .u64 n)).set 1 (.int .i64 e)).set 2 (.pointer none)
  simp only [List.setIfInBounds_toArray, List.set_cons_zero, List.set_cons_succ] at hk
  refine bodyPost_ret (results_cell_row rfl _ _ w.heap.size 52 _ (0, 0) _ rfl hk Tryz.underlying52 rfl (by kernel_rfl)) rfl ⟨rfl, ?_⟩
  have hb0 : Below w.heap.size w w' := ((Below.refl _ _).alloc (Nat.le_refl _) _).trans (hb.mono (by simp))
  go_grown

theorem strip_any (g : Nat) (n e : Int) (p : Option Addr) (w : World) (hg : Blk w g 52 (tcells n e p)) (h0 : 0 ≤ n) (h1 : n < 1073741824) : Calls Tryz.prog 73 #[.pointer (some ⟨g, 0, none⟩)] w fun e' w' => e' = .returned (.tuple #[]) ∧ w = w' := by
  have c0 : w.cell? ⟨g, 0, none⟩ = some (.int .u64 n) := hg.cell 0
  have m := wall_mono n h0 h1
  clear hg h0 h1
  go_enter Tryz.func73, Tryz.ntmps73
  go_wp2
  go_end0
  exact ⟨rfl, rfl⟩

theorem nsec_any (g : Nat) (n e : Int) (p : Option Addr) (w : World) (hg : Blk w g 52 (tcells n e p)) (h0 : 0 ≤ n) (h1 : n < 1000000000) : Calls Tryz.prog 72 #[.pointer (some ⟨g, 0, none⟩)] w fun e' w' => e' = .returned (.int .i32 n) ∧ w = w' := by
  have c0 : w.cell? ⟨g, 0, none⟩ = some (.int .u64 n) := hg.cell 0
  have m := wall_low n h0 (by omega)
  have e1 : IntKind.i32.wrap n = n := by rw [IntKind.wrap]; simp [IntKind.bits, IntKind.signed]; omega
  clear hg h0 h1
  go_enter Tryz.func72, Tryz.ntmps72
  go_wp2
  go_ret
  exact ⟨rfl, rfl⟩

theorem sec_any (g : Nat) (n e : Int) (p : Option Addr) (w : World) (hg : Blk w g 52 (tcells n e p)) (h0 : 0 ≤ n) (h1 : n < 1073741824) : Calls Tryz.prog 85 #[.pointer (some ⟨g, 0, none⟩)] w fun e' w' => e' = .returned (.int .i64 e) ∧ w = w' := by
  have c0 : w.cell? ⟨g, 0, none⟩ = some (.int .u64 n) := hg.cell 0
  have c1 : w.cell? ⟨g, 1, none⟩ = some (.int .i64 e) := hg.cell 1
  have m := wall_mono n h0 h1
  clear hg h0 h1
  go_enter Tryz.func85, Tryz.ntmps85
  go_wp2
  go_ret
  exact ⟨rfl, rfl⟩

theorem unixSec_any (g : Nat) (n e s : Int) (p : Option Addr) (w : World) (hg : Blk w g 52 (tcells n e p)) (h0 : 0 ≤ n) (h1 : n < 1073741824) (hs : e + -62135596800 = s) (h2 : -9223372036854775808 ≤ s) (h3 : s ≤ 9223372036854775807) : Calls Tryz.prog 71 #[.pointer (some ⟨g, 0, none⟩)] w fun e' w' => e' = .returned (.int .i64 s) ∧ w = w' := by
  have e2 : IntKind.i64.wrap (e + -62135596800) = s := by rw [hs]; exact IntWalk.i64_in _ (by omega)
  have C := hid (sec_any g n e p w hg h0 h1)
  clear hg h0 h1 hs h2 h3
  go_enter Tryz.func71, Tryz.ntmps71
  go_wp2_with (go_at_call 85; refine C.out.mono ?_; rintro e' w' ⟨rfl, rfl⟩)
  go_ret
  exact ⟨rfl, rfl⟩

theorem unix_any (n e s : Int) (p : Option Addr) (w : World) (h0 : 0 ≤ n) (h1 : n < 1073741824) (hs : e + -62135596800 = s) (h2 : -9223372036854775808 ≤ s) (h3 : s ≤ 9223372036854775807) : Calls Tryz.prog 50 #[.agg (tcells n e p)] w fun e' w' => e' = .returned (.int .i64 s) ∧ Below w.heap.size w w' := by
  have C := hid (unixSec_any w.heap.size n e s p _ (Blk.new w 52 (tcells n e p)) h0 h1 hs h2 h3)
  clear h0 h1 hs h2 h3
  go_enter Tryz.func50, Tryz.ntmps50
  go_wp2_with (go_at_call 71; refine C.out.mono ?_; rintro e' w' ⟨rfl, rfl⟩)
  go_ret
  exact ⟨rfl, by go_grown⟩

theorem nano_any (n e : Int) (p : Option Addr) (w : World) (h0 : 0 ≤ n) (h1 : n < 1000000000) : Calls Tryz.prog 51 #[.agg (tcells n e p)] w fun e' w' => e' = .returned (.int .i64 n) ∧ Below w.heap.size w w' := by
  have C := hid (nsec_any w.heap.size n e p _ (Blk.new w 52 (tcells n e p)) h0 h1)
  have e1 : IntKind.i64.wrap n = n := IntWalk.i64_in _ (by omega)
  clear h0 h1
  go_enter Tryz.func51, Tryz.ntmps51
  go_wp2_with (go_at_call 72; refine C.out.mono ?_; rintro e' w' ⟨rfl, rfl⟩)
  go_ret
  exact ⟨rfl, by go_grown⟩

theorem isZero_any (n e : Int) (p : Option Addr) (w : World) (he : 0 < e) : Calls Tryz.prog 22 #[.agg (tcells n e p)] w fun e' w' => e' = .returned (.bool false) ∧ Below w.heap.size w w' := by
  have z : (e == 0) = false := by rw [beq_eq_false_iff_ne]; omega
  have z1 : ¬ e = 0 := by omega
  clear he
  by_cases hn : n = 0
  · subst hn
    go_enter Tryz.func22, Tryz.ntmps22
    go_wp2
    go_ret
    exact ⟨rfl, by go_grown⟩
  · have zn : (n == 0) = false := by rw [beq_eq_false_iff_ne]; exact hn
    go_enter Tryz.func22, Tryz.ntmps22
    go_wp2
    go_ret
    exact ⟨rfl, by go_grown⟩

set_option maxHeartbeats 1600000 in
set_option maxRecDepth 100000 in
theorem plainMoment_any (n e s : Int) (p : Option Addr) (w : World) (h0 : 0 ≤ n) (h1 : n < 1000000000) (hs : e + -62135596800 = s) (h2 : -9223372036854775808 ≤ s) (h3 : s ≤ 9223372036854775807) : Calls Tryz.prog 23 #[.agg (tcells n e p)] w fun e' w' => e' = .returned (.agg (icells s n)) ∧ Below w.heap.size w w' := by
  have Q := hid ((Blk.new w 52 (tcells n e p)).alloc (.cells (icells 0 0) 23))
  have R := hid (Blk.new (w.alloc (.cells (tcells n e p) 52)) 23 (icells 0 0))
  have B := hid (show Below w.heap.size w ((w.alloc (.cells (tcells n e p) 52)).alloc (.cells (icells 0 0) 23)) by go_grown)
  have CU := hid (fun w => unix_any n e s p w h0 (by omega) hs h2 h3)
  have CN := hid (fun w => nano_any n e p w h0 h1)
  clear h0 h1 hs h2 h3
  go_enter Tryz.func23, Tryz.ntmps23
  go_wp2_with fail
  have hsz : (w.alloc (.cells (tcells n e p) 52)).heap.size = w.heap.size + 1 := by simp
  rw [hsz] at R
  generalize ((w.alloc (.cells (tcells n e p) 52)).alloc (.cells (icells 0 0) 23)) = w1 at Q R B ⊢
  have k0 : ∀ d os, (Go.Sort.grow (redrawn w1 d) os).cell? ⟨w.heap.size, 0, none⟩ = some (.int .u64 n) := fun d os => (blk_gr Q.out d os).cell 0
  have k1 : ∀ d os, (Go.Sort.grow (redrawn w1 d) os).cell? ⟨w.heap.size, 1, none⟩ = some (.int .i64 e) := fun d os => (blk_gr Q.out d os).cell 1
  have k2 : ∀ d os, (Go.Sort.grow (redrawn w1 d) os).cell? ⟨w.heap.size, 2, none⟩ = some (.pointer p) := fun d os => (blk_gr Q.out d os).cell 2
  have CA := hid (fun d os => Calls.regrown_of (CU.out (Go.Sort.grow (redrawn w1 d) os)))
  have CB := hid (fun d os => Calls.regrown_of (CN.out (Go.Sort.grow (redrawn w1 d) os)))
  refine wp_region_tail_below 5 (by kernel_rfl) (by kernel_rfl) ?_
  show wpQuiet _ _ _ _ [_, _, _, _, _] _
  repeat (go_big_quiet_step ((first | (go_at_call 50; exact CA.out _ _) | (go_at_call 51; exact CB.out _ _) | fail)))
  refine wpQuiet_nil ?_
  intro _ hw'
  obtain ⟨⟨dq, osq⟩, hw''⟩ := hw'
  subst hw''
  have R2 := hid (blk_gr R.out dq osq)
  have B2 := hid (bt B.out (below_regrown w1 dq osq))
  generalize Go.Sort.grow (redrawn w1 dq) osq = w2 at R2 B2 ⊢
  show wpList _ _ _ [_] _ _
  have t0 : w2.there (w.heap.size + 1) 0 2 := there_blk R2.out 2 (Nat.le_refl 2)
  have R3 := hid (set2_blk R2.out rfl s n)
  have B3 := hid (set2_below B2.out (Nat.le_succ _) s n)
  refine wpList_store_mid rfl 23 (.tmp 2) (.tmp 7) rfl (w.heap.size + 1) 0 (icells s n) (by rfl) (by rfl) t0 (by kernel_rfl) (by simp [Value.oneCell']) ?_
  generalize w2.setCells (w.heap.size + 1) 0 (icells s n).toList = w3 at R3 B3 ⊢
  refine wpList_nil ?_
  go_wp2_with fail
  exact bodyPost_ret (results_cell_row rfl _ _ (w.heap.size + 1) 23 _ (0, 0) _ rfl R3.out Tryz.underlying23 rfl (by kernel_rfl)) rfl ⟨rfl, B3.out⟩
end Go.Proofs.YtjbafphoemibaaaGreatDoor
