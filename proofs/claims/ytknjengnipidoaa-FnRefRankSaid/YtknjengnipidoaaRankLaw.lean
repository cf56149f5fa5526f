/- The law FnRefRank: the inner rank of a reference is its place in the documented order. Joined. -/
import Derived.Test.YtknjengnipidoaaRank
import Derived.Test.YtknjengnipidoaaRankB
import Derived.Test.YtknjengnipidoaaGrow
set_option linter.unusedVariables false
set_option linter.unusedSimpArgs false
namespace Go.Proofs.Ytknjengnipidoaa
open Go.RowKit

theorem bt {w w1 w2 : World} (h : Below w.heap.size w w1) (k : Below w1.heap.size w1 w2) : Below w.heap.size w w2 := h.trans (k.mono h.size)
theorem blk_gr {w : World} {g : Nat} {t : TypeId} {cs : Array Value} (h : Blk w g t cs) (d : Nat) (os : Array Obj) : Blk (Go.Sort.grow (redrawn w d) os) g t cs := h.below (below_regrown w d os)

theorem rlaw_unfit (d p t g : ByteArray) (w : World) (hF : (∀ w, Calls Try.prog 14 #[.agg #[.string d, .string p, .string t, .string g]] w fun e w' => e = .returned (.bool false) ∧ Below w.heap.size w w')) : Calls Try.prog 6 #[.agg #[.string d, .string p, .string t, .string g]] w fun e w' => e = .returned (.bool true) ∧ Below w.heap.size w w' := by
  go_enter Try.func6, Try.ntmps6
  go_wp2_with (go_at_call 14; refine (hF _).mono ?_; rintro e w1 ⟨rfl, hb⟩; replace hb := hid hb)
  go_ret
  exact ⟨rfl, bt ((Below.refl _ _).alloc (Nat.le_refl _) _) hb.out⟩

set_option maxHeartbeats 800000 in
set_option maxRecDepth 100000 in
theorem rlaw_long (d p t g : ByteArray) (w : World) (hF : (∀ w, Calls Try.prog 14 #[.agg #[.string d, .string p, .string t, .string g]] w fun e w' => e = .returned (.bool true) ∧ Below w.heap.size w w')) (hS : (∀ w, Calls Try.prog 15 #[.agg #[.string d, .string p, .string t, .string g]] w fun e w' => e = .returned (.bool false) ∧ Below w.heap.size w w')) : Calls Try.prog 6 #[.agg #[.string d, .string p, .string t, .string g]] w fun e w' => e = .returned (.bool true) ∧ Below w.heap.size w w' := by
  go_enter Try.func6, Try.ntmps6
  go_wp2_with fail
  go_at_call 14
  refine (hF _).mono ?_
  rintro e w1 ⟨rfl, hb⟩
  have Q := hid ((Blk.new w 36 #[.string d, .string p, .string t, .string g]).below hb)
  have B := hid (bt ((Below.refl _ _).alloc (Nat.le_refl _) _) hb)
  clear hb
  go_wp2_with fail
  have CS := hid (fun d' os => Calls.regrown_of (hS (Go.Sort.grow (redrawn w1 d') os)))
  have k0 : ∀ d' os, (Go.Sort.grow (redrawn w1 d') os).cell? ⟨w.heap.size, 0, none⟩ = some (.string d) := fun d' os => (blk_gr Q.out d' os).cell 0
  have k1 : ∀ d' os, (Go.Sort.grow (redrawn w1 d') os).cell? ⟨w.heap.size, 1, none⟩ = some (.string p) := fun d' os => (blk_gr Q.out d' os).cell 1
  have k2 : ∀ d' os, (Go.Sort.grow (redrawn w1 d') os).cell? ⟨w.heap.size, 2, none⟩ = some (.string t) := fun d' os => (blk_gr Q.out d' os).cell 2
  have k3 : ∀ d' os, (Go.Sort.grow (redrawn w1 d') os).cell? ⟨w.heap.size, 3, none⟩ = some (.string g) := fun d' os => (blk_gr Q.out d' os).cell 3
  refine wp_region_quiet_below (by kernel_rfl) (by kernel_rfl) ?_
  repeat (go_big_quiet_step ((first | (go_at_call 15; exact CS.out _ _) | fail)))
  refine wpQuiet_nil ?_
  intro _ hw'
  obtain ⟨⟨dq, osq⟩, hw''⟩ := hw'
  subst hw''
  go_wp2_with fail
  go_ret
  exact ⟨rfl, bt B.out (below_regrown _ _ _)⟩

set_option maxHeartbeats 800000 in
set_option maxRecDepth 100000 in
theorem rlaw_mute (d p t g : ByteArray) (w : World) (hF : (∀ w, Calls Try.prog 14 #[.agg #[.string d, .string p, .string t, .string g]] w fun e w' => e = .returned (.bool true) ∧ Below w.heap.size w w')) (hS : (∀ w, Calls Try.prog 15 #[.agg #[.string d, .string p, .string t, .string g]] w fun e w' => e = .returned (.bool true) ∧ Below w.heap.size w w')) (hT : (∀ w, Calls Try.prog 16 #[.agg #[.string d, .string p, .string t, .string g]] w fun e w' => e = .returned (.int .i64 0) ∧ Below w.heap.size w w')) : Calls Try.prog 6 #[.agg #[.string d, .string p, .string t, .string g]] w fun e w' => e = .returned (.bool true) ∧ Below w.heap.size w w' := by
  go_enter Try.func6, Try.ntmps6
  go_wp2_with fail
  go_at_call 14
  refine (hF _).mono ?_
  rintro e w1 ⟨rfl, hb⟩
  have Q := hid ((Blk.new w 36 #[.string d, .string p, .string t, .string g]).below hb)
  have B := hid (bt ((Below.refl _ _).alloc (Nat.le_refl _) _) hb)
  clear hb
  go_wp2_with fail
  have CS := hid (fun d' os => Calls.regrown_of (hS (Go.Sort.grow (redrawn w1 d') os)))
  have CT := hid (fun d' os => Calls.regrown_of (hT (Go.Sort.grow (redrawn w1 d') os)))
  have k0 : ∀ d' os, (Go.Sort.grow (redrawn w1 d') os).cell? ⟨w.heap.size, 0, none⟩ = some (.string d) := fun d' os => (blk_gr Q.out d' os).cell 0
  have k1 : ∀ d' os, (Go.Sort.grow (redrawn w1 d') os).cell? ⟨w.heap.size, 1, none⟩ = some (.string p) := fun d' os => (blk_gr Q.out d' os).cell 1
  have k2 : ∀ d' os, (Go.Sort.grow (redrawn w1 d') os).cell? ⟨w.heap.size, 2, none⟩ = some (.string t) := fun d' os => (blk_gr Q.out d' os).cell 2
  have k3 : ∀ d' os, (Go.Sort.grow (redrawn w1 d') os).cell? ⟨w.heap.size, 3, none⟩ = some (.string g) := fun d' os => (blk_gr Q.out d' os).cell 3
  refine wp_region_quiet_below (by kernel_rfl) (by kernel_rfl) ?_
  repeat (go_big_quiet_step ((first | (go_at_call 15; exact CS.out _ _) | (go_at_call 16; exact CT.out _ _) | fail)))
  refine wpQuiet_nil ?_
  intro _ hw'
  obtain ⟨⟨dq, osq⟩, hw''⟩ := hw'
  subst hw''
  go_wp2_with fail
  go_ret
  exact ⟨rfl, bt B.out (below_regrown _ _ _)⟩

set_option maxHeartbeats 800000 in
set_option maxRecDepth 100000 in
theorem rlaw_said (d p t g : ByteArray) (w : World) (hF : (∀ w, Calls Try.prog 14 #[.agg #[.string d, .string p, .string t, .string g]] w fun e w' => e = .returned (.bool true) ∧ Below w.heap.size w w')) (hS : (∀ w, Calls Try.prog 15 #[.agg #[.string d, .string p, .string t, .string g]] w fun e w' => e = .returned (.bool true) ∧ Below w.heap.size w w')) (n r : Int) (hn : (n == 0) = false) (hT : (∀ w, Calls Try.prog 16 #[.agg #[.string d, .string p, .string t, .string g]] w fun e w' => e = .returned (.int .i64 n) ∧ Below w.heap.size w w')) (hR : (∀ w, Calls Try.prog 17 #[.agg #[.string d, .string p, .string t, .string g]] w fun e w' => e = .returned (.int .i64 r) ∧ Below w.heap.size w w')) (hP : (∀ w, Calls Try.prog 18 #[.agg #[.string d, .string p, .string t, .string g]] w fun e w' => e = .returned (.int .i64 r) ∧ Below w.heap.size w w')) : Calls Try.prog 6 #[.agg #[.string d, .string p, .string t, .string g]] w fun e w' => e = .returned (.bool true) ∧ Below w.heap.size w w' := by
  go_enter Try.func6, Try.ntmps6
  go_wp2_with fail
  go_at_call 14
  refine (hF _).mono ?_
  rintro e w1 ⟨rfl, hb⟩
  have Q := hid ((Blk.new w 36 #[.string d, .string p, .string t, .string g]).below hb)
  have B := hid (bt ((Below.refl _ _).alloc (Nat.le_refl _) _) hb)
  clear hb
  go_wp2_with fail
  have CS := hid (fun d' os => Calls.regrown_of (hS (Go.Sort.grow (redrawn w1 d') os)))
  have CT := hid (fun d' os => Calls.regrown_of (hT (Go.Sort.grow (redrawn w1 d') os)))
  have CR := hid (fun d' os => Calls.regrown_of (hR (Go.Sort.grow (redrawn w1 d') os)))
  have CP := hid (fun d' os => Calls.regrown_of (hP (Go.Sort.grow (redrawn w1 d') os)))
  have k0 : ∀ d' os, (Go.Sort.grow (redrawn w1 d') os).cell? ⟨w.heap.size, 0, none⟩ = some (.string d) := fun d' os => (blk_gr Q.out d' os).cell 0
  have k1 : ∀ d' os, (Go.Sort.grow (redrawn w1 d') os).cell? ⟨w.heap.size, 1, none⟩ = some (.string p) := fun d' os => (blk_gr Q.out d' os).cell 1
  have k2 : ∀ d' os, (Go.Sort.grow (redrawn w1 d') os).cell? ⟨w.heap.size, 2, none⟩ = some (.string t) := fun d' os => (blk_gr Q.out d' os).cell 2
  have k3 : ∀ d' os, (Go.Sort.grow (redrawn w1 d') os).cell? ⟨w.heap.size, 3, none⟩ = some (.string g) := fun d' os => (blk_gr Q.out d' os).cell 3
  refine wp_region_quiet_below (by kernel_rfl) (by kernel_rfl) ?_
  repeat (go_big_quiet_step ((first | (go_at_call 15; exact CS.out _ _) | (go_at_call 16; exact CT.out _ _) | (go_at_call 17; exact CR.out _ _) | (go_at_call 18; exact CP.out _ _) | fail)))
  refine wpQuiet_nil ?_
  intro _ hw'
  obtain ⟨⟨dq, osq⟩, hw''⟩ := hw'
  subst hw''
  go_wp2_with fail
  go_ret
  exact ⟨rfl, bt B.out (below_regrown _ _ _)⟩

theorem rank_all (d p t g : ByteArray) (bp bt bg : Bool) (hp : p.toList.isEmpty = bp) (ht : t.toList.isEmpty = bt) (hg : g.toList.isEmpty = bg) (hs : short7 d p t g = true) (hn : (tells bp bt bg == 0) = false) :
    (∀ w, Calls Try.prog 17 #[.agg #[.string d, .string p, .string t, .string g]] w fun e w' => e = .returned (.int .i64 (place bp bt bg)) ∧ Below w.heap.size w w') := by
  intro w
  have hsz : d.size + p.size + t.size + g.size ≤ 65536 ∧ (bp = true → d.toList.isEmpty = true) := by
    simp only [short7, Bool.and_eq_true, decide_eq_true_eq, Bool.or_eq_true, Bool.not_eq_true'] at hs
    refine ⟨hs.1, fun e => ?_⟩
    rcases hs.2 with h | h
    · rw [hp, e] at h; cases h
    · exact h
  have c1 : ¬ 9223372036854775807 < d.size + 1 := by omega
  have c2 : ¬ 9223372036854775807 < d.size + 1 + p.size := by omega
  cases bp
  · cases hd : d.toList.isEmpty <;> cases bt <;> cases bg
    · exact rank_alld d p t g w hp hd c1 c2 ht hg
    · exact rank_tagd d p t g w hp hd c1 c2 ht hg
    · exact rank_cand d p t g w hp hd c1 c2 ht hg
    · exact rank_repod d p t g w hp hd c1 c2 ht hg
    · exact rank_alln d p t g w hp hd ht hg
    · exact rank_tagn d p t g w hp hd ht hg
    · exact rank_cann d p t g w hp hd ht hg
    · exact rank_repon d p t g w hp hd ht hg
  · cases bg
    · have e : place true bt false = 5 := by cases bt <;> rfl
      rw [e]; exact rank_dig d p t g w hp (hsz.2 rfl) hg
    · cases bt <;> cases hn

theorem fnRefRank_walk (d p t g : ByteArray) (w : World) (_w0 : d.size ≤ maxLen) (_w1 : p.size ≤ maxLen) (_w2 : t.size ≤ maxLen) (_w3 : g.size ≤ maxLen) : Calls Try.prog 6 #[.agg #[.string d, .string p, .string t, .string g]] w fun e w' => e = .returned (.bool true) ∧ Below w.heap.size w w' := by
  cases hf : fit7 d p t g
  · exact rlaw_unfit d p t g w (fun w => by have := fits7_any d p t g w; rw [hf] at this; exact this)
  have hF : (∀ w, Calls Try.prog 14 #[.agg #[.string d, .string p, .string t, .string g]] w fun e w' => e = .returned (.bool true) ∧ Below w.heap.size w w') := fun w => by have := fits7_any d p t g w; rw [hf] at this; exact this
  cases hs : short7 d p t g
  · exact rlaw_long d p t g w hF (fun w => by have := short7_any d p t g w hf; rw [hs] at this; exact this)
  have hS : (∀ w, Calls Try.prog 15 #[.agg #[.string d, .string p, .string t, .string g]] w fun e w' => e = .returned (.bool true) ∧ Below w.heap.size w w') := fun w => by have := short7_any d p t g w hf; rw [hs] at this; exact this
  cases hn : (tells p.toList.isEmpty t.toList.isEmpty g.toList.isEmpty == 0)
  · exact rlaw_said d p t g w hF hS _ _ hn (fun w => tells_any d p t g w _ _ _ rfl rfl rfl) (rank_all d p t g _ _ _ rfl rfl rfl hs hn) (fun w => place_any d p t g w _ _ _ rfl rfl rfl)
  · exact rlaw_mute d p t g w hF hS (fun w => by have := tells_any d p t g w _ _ _ rfl rfl rfl; rw [beq_iff_eq.1 hn] at this; exact this)
end Go.Proofs.Ytknjengnipidoaa
