/- Parse, of a text of ASCII that begins neither as a descriptor nor with a time zone, by a parser none of whose fields may be left away. Walked. (wip/gen/gen_parg.py) -/
import Derived.Test.YtomkhhpigpilfaaGreatDoorClosG
import Derived.Test.YtomkhhpigpilfaaGreatDoorWds
import Derived.Test.YtomkhhpigpilfaaGreatDoorQTail
import Derived.Deep.DeepCutAuto
import Derived.Deep.RegionWith
import Derived.Deep.RegionHeld3
import Derived.Deep.QuietTactic
set_option linter.unusedVariables false
set_option linter.unusedSimpArgs false
namespace Go.Proofs.YtomkhhpigpilfaaGreatDoor
open Go.RowKit

theorem StepE.ok {E E' : Value} {r : Option Nat} {v : Int} (h : StepE E E' r v) : E' = .nilIface ∨ ∃ (t : TypeId) (p : Value), E' = .iface t p := h.elim (fun ⟨_, h, _⟩ => .inl h) (fun ⟨h, _⟩ => .inr h)
theorem StepE.back {E E' : Value} {r : Option Nat} {v : Int} (h : StepE E E' r v) (hn : E' = .nilIface) : E = .nilIface ∧ ∃ n : Nat, r = some n ∧ v = (n : Int) := by
  rcases h with ⟨h1, _, h2⟩ | ⟨⟨t, p, h⟩, _⟩
  · exact ⟨h1, h2⟩
  · rw [h] at hn; cases hn
theorem StepE.bad {E E' : Value} {r : Option Nat} {v : Int} (h : StepE E E' r v) (hn : ∃ (t : TypeId) (p : Value), E' = .iface t p) : (∃ (t : TypeId) (p : Value), E = .iface t p) ∨ r = none := by
  rcases h with ⟨_, h1, _⟩ | ⟨_, h⟩
  · obtain ⟨t, p, h2⟩ := hn; rw [h2] at h1; cases h1
  · exact h
theorem steps6 {r : Nat → Option Nat} {E1 E2 E3 E4 E5 E6 : Value} {v0 v1 v2 v3 v4 v5 : Int} (s0 : StepE .nilIface E1 (r 0) v0) (s1 : StepE E1 E2 (r 1) v1) (s2 : StepE E2 E3 (r 2) v2) (s3 : StepE E3 E4 (r 3) v3) (s4 : StepE E4 E5 (r 4) v4) (s5 : StepE E5 E6 (r 5) v5) :
    (E6 = .nilIface ∧ ∃ n : Nat → Nat, (∀ i, i < 6 → r i = some (n i)) ∧ v0 = (n 0 : Int) ∧ v1 = (n 1 : Int) ∧ v2 = (n 2 : Int) ∧ v3 = (n 3 : Int) ∧ v4 = (n 4 : Int) ∧ v5 = (n 5 : Int)) ∨ ((∃ (t : TypeId) (p : Value), E6 = .iface t p) ∧ ∃ i, i < 6 ∧ r i = none) := by
  rcases s5.ok with h | h
  · obtain ⟨h5, m5, r5, e5⟩ := s5.back h
    obtain ⟨h4, m4, r4, e4⟩ := s4.back h5
    obtain ⟨h3, m3, r3, e3⟩ := s3.back h4
    obtain ⟨h2, m2, r2, e2⟩ := s2.back h3
    obtain ⟨h1, m1, r1, e1⟩ := s1.back h2
    obtain ⟨_, m0, r0, e0⟩ := s0.back h1
    refine .inl ⟨h, fun i => (r i).getD 0, fun i hi => ?_, by rw [e0]; simp [r0], by rw [e1]; simp [r1], by rw [e2]; simp [r2], by rw [e3]; simp [r3], by rw [e4]; simp [r4], by rw [e5]; simp [r5]⟩
    match i, hi with
    | 0, _ => simp [r0]
    | 1, _ => simp [r1]
    | 2, _ => simp [r2]
    | 3, _ => simp [r3]
    | 4, _ => simp [r4]
    | 5, _ => simp [r5]
    | i + 6, h => omega
  · refine .inr ⟨h, ?_⟩
    rcases s5.bad h with h | h
    · rcases s4.bad h with h | h
      · rcases s3.bad h with h | h
        · rcases s2.bad h with h | h
          · rcases s1.bad h with h | h
            · rcases s0.bad h with ⟨t, p, h⟩ | h
              · cases h
              · exact ⟨0, by omega, h⟩
            · exact ⟨1, by omega, h⟩
          · exact ⟨2, by omega, h⟩
        · exact ⟨3, by omega, h⟩
      · exact ⟨4, by omega, h⟩
    · exact ⟨5, by omega, h⟩
/-- A schedule of six sets, without a zone. -/
abbrev scdN (n : Nat → Nat) : Array Value := #[.int .u64 (n 0 : Int), .int .u64 (n 1 : Int), .int .u64 (n 2 : Int), .int .u64 (n 3 : Int), .int .u64 (n 4 : Int), .int .u64 (n 5 : Int), .pointer none]
/-- What Parse answers where the fields mean r. -/
def RetS (r : Nat → Option Nat) (e : Ending) (w' : World) : Prop :=
  (∃ n : Nat → Nat, (∀ i, i < 6 → r i = some (n i)) ∧ ∃ g, e = .returned (.tuple #[.iface 82 (.pointer (some ⟨g, 0, none⟩)), .nilIface]) ∧ Blk w' g 85 (scdN n)) ∨ ((∃ i, i < 6 ∧ r i = none) ∧ ∃ (t : TypeId) (p : Value), e = .returned (.tuple #[.nilIface, .iface t p]))

theorem stF_size (s : ByteArray) (N : Nat) : ∀ k, ∀ x ∈ (stF s k).1, x.size ≤ s.size
  | 0, x, hx => by cases hx
  | k + 1, x, hx => by
    have ih := stF_size s N k
    simp only [stF] at hx
    split at hx
    · split at hx
      · rcases List.mem_append.1 hx with h | h
        · exact ih x h
        · rw [List.mem_singleton.1 h, ByteArray.size_extract]
          omega
      · exact ih x hx
    · split at hx
      · exact ih x hx
      · exact ih x hx
theorem wds_size {s x : ByteArray} (h : x ∈ wds s) : x.size ≤ s.size := by
  unfold wds at h
  split at h
  · rcases List.mem_append.1 h with h | h
    · exact stF_size s 0 _ x h
    · rw [List.mem_singleton.1 h, ByteArray.size_extract]
      omega
  · exact stF_size s 0 _ x h
theorem fullF_size (t : Nat → Bool) (fs : List ByteArray) (k : Nat) (h : ∀ x ∈ fs, x.size ≤ 65536) : (fullF t fs k).size ≤ 65536 := by
  unfold fullF
  split
  · rw [List.getD_eq_getElem?_getD]
    rcases hg : fs[cntT t k]? with _ | x
    · show (0 : Nat) ≤ 65536
      omega
    · exact h x (List.mem_of_getElem? hg)
  · unfold dfl
    split
    · show (1 : Nat) ≤ 65536
      omega
    · show (1 : Nat) ≤ 65536
      omega
theorem prefix_no (s p : ByteArray) (h : Lib.hasPrefix s.data.toList p.data.toList = false) (w : World) : Calls Tryz.prog 40 #[.string s, .string p] w fun e w' => e = .returned (.bool false) ∧ w' = w :=
  (Tryz.strings_HasPrefix s p w).mono fun e w' ⟨h1, h2⟩ => ⟨by rw [h1, h], h2⟩
theorem blk_apart {w : World} {g b : Nat} {t e : TypeId} {cs ds : Array Value} (h : Blk w g t cs) (hB : Blk w b e ds) (hte : t ≠ e) : g ≠ b := by
  rintro rfl
  have h1 := h.symm.trans hB
  injection h1 with h1
  injection h1 with _ h2 _
  exact hte h2
theorem wordsG_any (s : ByteArray) (ha : ∀ k (h : k < s.size), (s[k]'h).toNat < 128) (hs : s.size ≤ 400000) (hne : wds s ≠ []) (w : World) : Calls Tryz.prog 45 #[.string s] w fun e w' =>
    ∃ g c : Nat, e = .returned (.slice (some ⟨g, 0, none⟩) (wds s).length c) ∧ StrsAt w' g (wds s) ∧ Below w.heap.size w w' := by
  refine (words_any s ha w hs).mono ?_
  rintro e w' ⟨v, rfl, hown, hb⟩
  obtain ⟨g, c, rfl, _, hst⟩ := strs_of_own hown hne
  exact ⟨g, c, rfl, hst, hb⟩

theorem secondsG (w : World) : Calls Tryz.prog 49 #[] w fun e w' => e = .returned (.agg #[.int .u64 0, .int .u64 59, .map none]) ∧ Below w.heap.size w w' := by
  go_enter Tryz.func49, Tryz.ntmps49
  go_wp2_with fail
  go_returns
  exact ⟨rfl, by go_grown⟩
theorem minutesG (w : World) : Calls Tryz.prog 50 #[] w fun e w' => e = .returned (.agg #[.int .u64 0, .int .u64 59, .map none]) ∧ Below w.heap.size w w' := by
  go_enter Tryz.func50, Tryz.ntmps50
  go_wp2_with fail
  go_returns
  exact ⟨rfl, by go_grown⟩
theorem hoursG (w : World) : Calls Tryz.prog 51 #[] w fun e w' => e = .returned (.agg #[.int .u64 0, .int .u64 23, .map none]) ∧ Below w.heap.size w w' := by
  go_enter Tryz.func51, Tryz.ntmps51
  go_wp2_with fail
  go_returns
  exact ⟨rfl, by go_grown⟩
theorem domG (w : World) : Calls Tryz.prog 52 #[] w fun e w' => e = .returned (.agg #[.int .u64 1, .int .u64 31, .map none]) ∧ Below w.heap.size w w' := by
  go_enter Tryz.func52, Tryz.ntmps52
  go_wp2_with fail
  go_returns
  exact ⟨rfl, by go_grown⟩
theorem monthsG (w : World) : Calls Tryz.prog 53 #[] w fun e w' => ∃ b : Nat, e = .returned (.agg #[.int .u64 1, .int .u64 12, .map (some b)]) ∧ MapAt b monthsE 12 w' ∧ Below w.heap.size w w' := by
  refine ((months_any w).mono fun e w' (h : _ ∧ w' = (w.alloc _).alloc (.map monthsE 12)) => h).mono ?_
  rintro e w' ⟨rfl, rfl⟩
  refine ⟨_, rfl, ?_, by go_grown⟩
  unfold MapAt
  have h := heap_alloc_new (w.alloc (.cells #[.int .u64 1, .int .u64 12, .map (some (w.heap.size + 1))] 100)) (.map monthsE 12)
  rw [World.size_alloc] at h
  exact h
theorem dowG (w : World) : Calls Tryz.prog 54 #[] w fun e w' => ∃ b : Nat, e = .returned (.agg #[.int .u64 0, .int .u64 6, .map (some b)]) ∧ MapAt b dowE 7 w' ∧ Below w.heap.size w w' := by
  refine ((dow_any w).mono fun e w' (h : _ ∧ w' = (w.alloc _).alloc (.map dowE 7)) => h).mono ?_
  rintro e w' ⟨rfl, rfl⟩
  refine ⟨_, rfl, ?_, by go_grown⟩
  unfold MapAt
  have h := heap_alloc_new (w.alloc (.cells #[.int .u64 0, .int .u64 6, .map (some (w.heap.size + 1))] 100)) (.map dowE 7)
  rw [World.size_alloc] at h
  exact h

set_option maxHeartbeats 6400000 in
set_option maxRecDepth 100000 in
theorem parseG (s : ByteArray) (o : Int) (t : Nat → Bool) (w : World) (hv : Vars w) (hs0 : 1 ≤ s.size) (hs : s.size ≤ 400000) (hwz : ∀ x ∈ wds s, x.size ≤ 65536) (ha : ∀ k (h : k < s.size), (s[k]'h).toNat < 128)
    (p1 : Lib.hasPrefix s.data.toList (⟨#[84, 90, 61]⟩ : ByteArray).data.toList = false) (p2 : Lib.hasPrefix s.data.toList (⟨#[67, 82, 79, 78, 95, 84, 90, 61]⟩ : ByteArray).data.toList = false) (p3 : Lib.hasPrefix s.data.toList (⟨#[64]⟩ : ByteArray).data.toList = false)
    (ho : Opts o t) (h2 : bits .and .i64 o 2 = 0) (h128 : bits .and .i64 o 128 = 0) (hlen : (wds s).length = cntT t 6) (hne : wds s ≠ []) :
    Calls Tryz.prog 25 #[.agg #[.int .i64 o], .string s] w fun e w' => RetS (fun k => fieldK k (fullF t (wds s) k)) e w' ∧ Below w.heap.size w w' := by
  have z0 : ((s.size : Int) == 0) = false := by rw [beq_eq_false_iff_ne]; omega
  have H1 := hid (prefix_no s _ p1)
  have H2 := hid (prefix_no s _ p2)
  have H3 := hid (prefix_no s _ p3)
  have HW := hid (wordsG_any s ha hs hne)
  have HV := hid hv
  have FS := hid (fun k => fullF_size t (wds s) k hwz)
  have HN := hid (fun (g cap : Nat) (W : World) (hst : StrsAt W g (wds s)) => normG_any o t (wds s) g cap W ho h2 h128 hlen hst)
  clear p1 p2 p3 hv ha hs hwz hs0 ho h2 h128 hlen hne
  obtain ⟨r, hr⟩ : ∃ r, (fun k => fieldK k (fullF t (wds s) k)) = r := ⟨_, rfl⟩
  have HR := hid (fun k => congrFun hr k)
  rw [hr]
  clear hr
  generalize fullF t (wds s) = F at FS HN HR
  generalize wds s = ws at HW HN
  have B0 := hid (show Below w.heap.size w (w.alloc (.cells #[.int .i64 o] 56)) by go_grown)
  have K0 := hid (Blk.new w 56 #[.int .i64 o])
  go_enter Tryz.func25, Tryz.ntmps25
  go_upto_region 18 with (first
    | (go_at_call_of 40 (Value.string ⟨#[84, 90, 61]⟩); refine (H1.out _).mono ?_; rintro e w' ⟨rfl, rfl⟩)
    | (go_at_call_of 40 (Value.string ⟨#[67, 82, 79, 78, 95, 84, 90, 61]⟩); refine (H2.out _).mono ?_; rintro e w' ⟨rfl, rfl⟩)
    | (go_at_call_of 40 (Value.string ⟨#[64]⟩); refine (H3.out _).mono ?_; rintro e w' ⟨rfl, rfl⟩)
    | (go_at_call 45; refine (HW.out _).mono ?_; rintro e w1 ⟨g, c, rfl, hst, hb⟩; have B1 := hid (bt B0.out hb); have K1 := hid (K0.out.below hb); replace hst := hid hst; clear hb))
  have KE := hid (Blk.new w1 63 #[.nilIface])
  have B2 := hid (bt B1.out (show Below w1.heap.size w1 (w1.alloc (.cells #[.nilIface] 63)) by go_grown))
  have K2 := hid (K1.out.alloc (.cells #[.nilIface] 63))
  have ST := hid (hst.out.below (show Below w1.heap.size w1 (w1.alloc (.cells #[.nilIface] 63)) by go_grown))
  obtain ⟨ge, hge⟩ : ∃ ge, w1.heap.size = ge := ⟨_, rfl⟩
  have GE := hid (show w.heap.size ≤ ge from hge ▸ B1.out.size)
  rw [hge] at KE ⊢
  generalize (w1.alloc (.cells #[.nilIface] 63)) = w2 at KE B2 K2 ST ⊢
  clear hst K0 K1 B0 B1 hge
  have l0 : w2.cell? ⟨w.heap.size, 0, none⟩ = some (.int .i64 o) := K2.out.cell 0
  have CN := hid (HN.out g c w2 ST.out)
  clear ST HN
  go_upto_region 19 with (first
    | (go_at_call 46; refine CN.out.mono ?_; rintro e w3 ⟨⟨h, rfl, hk⟩, hb⟩; have HK := hid hk; have B3 := hid (bt B2.out hb); have E3 := hid (KE.out.below hb); have e0 : w3.cell? ⟨ge, 0, none⟩ = some .nilIface := E3.out.cell 0; have f0 : w3.frozen? ⟨ge, 0, none⟩ = false := E3.out.frozen 0; clear hb hk))
  have HA := hid (blk_apart HK.out E3.out (by decide))
  have W0 := hid (Blk.oth HK.out HA.out 0 .nilIface)
  have E0B := hid (show Blk (w3.setCell ⟨ge, 0, none⟩ .nilIface) ge 63 #[.nilIface] from E3.out.set 0 .nilIface)
  have D0 := hid (below_set B3.out GE.out 0 .nilIface)
  clear e0 f0 l0 CN KE K2 B2 HK B3 E3
  generalize (w3.setCell ⟨ge, 0, none⟩ .nilIface) = x0 at W0 E0B D0 ⊢
  have l0 : x0.cell? ⟨ge, 0, none⟩ = some .nilIface := E0B.out.cell 0
  go_upto_region 22 with fail
  clear l0
  have l1 : ∀ d os, (Go.Sort.grow (redrawn x0 d) os).cell? ⟨h, 0, none⟩ = some (.string (F 0)) := fun d os => ((blk_gr W0.out d os).cell 0).trans (scells_get (by omega))
  have Q0 := hid (fun d os => Calls.regrown_of (secondsG (Go.Sort.grow (redrawn x0 d) os)))
  refine wp_region_tail_below 5 (by kernel_rfl) (by kernel_rfl) ?_
  show wpQuiet _ _ _ _ [_, _, _, _, _] _
  repeat (go_big_quiet_step ((first | (go_at_call 49; exact Q0.out _ _) | fail)))
  refine wpQuiet_nil ?_
  intro _ hw'
  obtain ⟨⟨dq, osq⟩, hw''⟩ := hw'
  subst hw''
  have V0 := hid (blk_gr W0.out dq osq)
  have T0 := hid (blk_gr E0B.out dq osq)
  have U0 := hid (bt D0.out (below_regrown x0 dq osq))
  clear l1 Q0 W0 E0B D0
  generalize (Go.Sort.grow (redrawn x0 dq) osq) = y at V0 T0 U0 ⊢
  have CC := hid (closureG 0 0 59 rfl rfl (F 0) (.map none) Vars .nilIface ge y (.inl rfl) T0.out vars_kept (vars_kept _ _ HV.out U0.out) (FS.out 0) (is_plain (by decide)) (fun _ h => h))
  rw [HR.out 0] at CC
  show wpList _ _ _ [_, _] _ _
  go_wp2_with (go_at_call 47; refine CC.out.mono ?_; rintro e x1 ⟨v0, E1, rfl, hs, he, hk⟩; have S0 := hid hs; have E1B := hid he; have W1 := hid (hk.blk V0.out HA.out); have D1 := hid (hk.below U0.out GE.out U0.out.size); clear hs he hk)
  clear V0 T0 U0 CC
  go_upto_region 23 with fail
  have l2 : ∀ d os, (Go.Sort.grow (redrawn x1 d) os).cell? ⟨h, 1, none⟩ = some (.string (F 1)) := fun d os => ((blk_gr W1.out d os).cell 1).trans (scells_get (by omega))
  have Q0 := hid (fun d os => Calls.regrown_of (minutesG (Go.Sort.grow (redrawn x1 d) os)))
  refine wp_region_tail_below 5 (by kernel_rfl) (by kernel_rfl) ?_
  show wpQuiet _ _ _ _ [_, _, _, _, _] _
  repeat (go_big_quiet_step ((first | (go_at_call 50; exact Q0.out _ _) | fail)))
  refine wpQuiet_nil ?_
  intro _ hw'
  obtain ⟨⟨dq, osq⟩, hw''⟩ := hw'
  subst hw''
  have V0 := hid (blk_gr W1.out dq osq)
  have T0 := hid (blk_gr E1B.out dq osq)
  have U0 := hid (bt D1.out (below_regrown x1 dq osq))
  clear l2 Q0 W1 E1B D1
  generalize (Go.Sort.grow (redrawn x1 dq) osq) = y at V0 T0 U0 ⊢
  have CC := hid (closureG 1 0 59 rfl rfl (F 1) (.map none) Vars E1 ge y S0.out.ok T0.out vars_kept (vars_kept _ _ HV.out U0.out) (FS.out 1) (is_plain (by decide)) (fun _ h => h))
  rw [HR.out 1] at CC
  show wpList _ _ _ [_, _] _ _
  go_wp2_with (go_at_call 47; refine CC.out.mono ?_; rintro e x2 ⟨v1, E2, rfl, hs, he, hk⟩; have S1 := hid hs; have E2B := hid he; have W2 := hid (hk.blk V0.out HA.out); have D2 := hid (hk.below U0.out GE.out U0.out.size); clear hs he hk)
  clear V0 T0 U0 CC
  go_upto_region 24 with fail
  have l3 : ∀ d os, (Go.Sort.grow (redrawn x2 d) os).cell? ⟨h, 2, none⟩ = some (.string (F 2)) := fun d os => ((blk_gr W2.out d os).cell 2).trans (scells_get (by omega))
  have Q0 := hid (fun d os => Calls.regrown_of (hoursG (Go.Sort.grow (redrawn x2 d) os)))
  refine wp_region_tail_below 5 (by kernel_rfl) (by kernel_rfl) ?_
  show wpQuiet _ _ _ _ [_, _, _, _, _] _
  repeat (go_big_quiet_step ((first | (go_at_call 51; exact Q0.out _ _) | fail)))
  refine wpQuiet_nil ?_
  intro _ hw'
  obtain ⟨⟨dq, osq⟩, hw''⟩ := hw'
  subst hw''
  have V0 := hid (blk_gr W2.out dq osq)
  have T0 := hid (blk_gr E2B.out dq osq)
  have U0 := hid (bt D2.out (below_regrown x2 dq osq))
  clear l3 Q0 W2 E2B D2
  generalize (Go.Sort.grow (redrawn x2 dq) osq) = y at V0 T0 U0 ⊢
  have CC := hid (closureG 2 0 23 rfl rfl (F 2) (.map none) Vars E2 ge y S1.out.ok T0.out vars_kept (vars_kept _ _ HV.out U0.out) (FS.out 2) (is_plain (by decide)) (fun _ h => h))
  rw [HR.out 2] at CC
  show wpList _ _ _ [_, _] _ _
  go_wp2_with (go_at_call 47; refine CC.out.mono ?_; rintro e x3 ⟨v2, E3, rfl, hs, he, hk⟩; have S2 := hid hs; have E3B := hid he; have W3 := hid (hk.blk V0.out HA.out); have D3 := hid (hk.below U0.out GE.out U0.out.size); clear hs he hk)
  clear V0 T0 U0 CC
  go_upto_region 25 with fail
  have l4 : ∀ d os, (Go.Sort.grow (redrawn x3 d) os).cell? ⟨h, 3, none⟩ = some (.string (F 3)) := fun d os => ((blk_gr W3.out d os).cell 3).trans (scells_get (by omega))
  have Q0 := hid (fun d os => Calls.regrown_of (domG (Go.Sort.grow (redrawn x3 d) os)))
  refine wp_region_tail_below 5 (by kernel_rfl) (by kernel_rfl) ?_
  show wpQuiet _ _ _ _ [_, _, _, _, _] _
  repeat (go_big_quiet_step ((first | (go_at_call 52; exact Q0.out _ _) | fail)))
  refine wpQuiet_nil ?_
  intro _ hw'
  obtain ⟨⟨dq, osq⟩, hw''⟩ := hw'
  subst hw''
  have V0 := hid (blk_gr W3.out dq osq)
  have T0 := hid (blk_gr E3B.out dq osq)
  have U0 := hid (bt D3.out (below_regrown x3 dq osq))
  clear l4 Q0 W3 E3B D3
  generalize (Go.Sort.grow (redrawn x3 dq) osq) = y at V0 T0 U0 ⊢
  have CC := hid (closureG 3 1 31 rfl rfl (F 3) (.map none) Vars E3 ge y S2.out.ok T0.out vars_kept (vars_kept _ _ HV.out U0.out) (FS.out 3) (is_plain (by decide)) (fun _ h => h))
  rw [HR.out 3] at CC
  show wpList _ _ _ [_, _] _ _
  go_wp2_with (go_at_call 47; refine CC.out.mono ?_; rintro e x4 ⟨v3, E4, rfl, hs, he, hk⟩; have S3 := hid hs; have E4B := hid he; have W4 := hid (hk.blk V0.out HA.out); have D4 := hid (hk.below U0.out GE.out U0.out.size); clear hs he hk)
  clear V0 T0 U0 CC
  go_upto_region 26 with fail
  go_region_held3 (fun w' => w'.cell? ⟨h, 4, none⟩ = some (.string (F 4)))
    ((first | (exact ((Z5.out).cell 4).trans (scells_get (by omega)); done) | (exact ((W4.out.below U5.out).cell 4).trans (scells_get (by omega)); done) | (refine ((W4.out.below ?_).cell 4).trans (scells_get (by omega)); go_grown; done)))
    (first
      | (go_at_call 53; refine (monthsG _).mono ?_; rintro e u5 ⟨mb5, rfl, hm, hb⟩; have U5 := hid (bt (w := x4) (by go_grown) hb); have MM5 := hid hm; clear hm hb)
      | (go_at_call 47; have UU := hid (show Below x4.heap.size x4 _ by first | exact U5.out | exact bt U5.out (by go_grown)); refine (HR.out 4 ▸ closureG 4 1 12 rfl rfl (F 4) (.map (some mb5)) (fun W => MapAt mb5 monthsE 12 W ∧ Vars W) E4 ge _ S3.out.ok (E4B.out.below UU.out) (kept_and (kept_map _ _ _) vars_kept) ⟨by first | exact MM5.out | exact kept_map _ _ _ _ _ MM5.out (by go_grown), vars_kept _ _ HV.out (bt D4.out UU.out)⟩ (FS.out 4) (is_named (by decide) _ _ _ tab_months) (fun _ h => h.2)).mono ?_; rintro e x5 ⟨v4, E5, rfl, hs, he, hk⟩; have S4 := hid hs; have E5B := hid he; have Z5 := hid (hk.blk (W4.out.below UU.out) HA.out); have D5 := hid (hk.below (bt D4.out UU.out) GE.out (bt D4.out UU.out).size); clear hs he hk UU))
  all_goals
    have W5 := Z5
    clear W4 E4B D4 U5 Z5 MM5
    go_upto_region 27 with fail
    go_region_held3 (fun w' => w'.cell? ⟨h, 5, none⟩ = some (.string (F 5)))
      ((first | (exact ((Z6.out).cell 5).trans (scells_get (by omega)); done) | (exact ((W5.out.below U6.out).cell 5).trans (scells_get (by omega)); done) | (refine ((W5.out.below ?_).cell 5).trans (scells_get (by omega)); go_grown; done)))
      (first
        | (go_at_call 54; refine (dowG _).mono ?_; rintro e u6 ⟨mb6, rfl, hm, hb⟩; have U6 := hid (bt (w := x5) (by go_grown) hb); have MM6 := hid hm; clear hm hb)
        | (go_at_call 47; have UU := hid (show Below x5.heap.size x5 _ by first | exact U6.out | exact bt U6.out (by go_grown)); refine (HR.out 5 ▸ closureG 5 0 6 rfl rfl (F 5) (.map (some mb6)) (fun W => MapAt mb6 dowE 7 W ∧ Vars W) E5 ge _ S4.out.ok (E5B.out.below UU.out) (kept_and (kept_map _ _ _) vars_kept) ⟨by first | exact MM6.out | exact kept_map _ _ _ _ _ MM6.out (by go_grown), vars_kept _ _ HV.out (bt D5.out UU.out)⟩ (FS.out 5) (is_named (by decide) _ _ _ tab_dow) (fun _ h => h.2)).mono ?_; rintro e x6 ⟨v5, E6, rfl, hs, he, hk⟩; have S5 := hid hs; have E6B := hid he; have Z6 := hid (hk.blk (W5.out.below UU.out) HA.out); have D6 := hid (hk.below (bt D5.out UU.out) GE.out (bt D5.out UU.out).size); clear hs he hk UU))
    all_goals
      clear W5 E5B D5 U6 MM6 Z6
      have l7 : x6.cell? ⟨ge, 0, none⟩ = some E6 := E6B.out.cell 0
      have ALL := hid (steps6 S0.out S1.out S2.out S3.out S4.out S5.out)
      clear S0 S1 S2 S3 S4 S5 HA HV HW H1 H2 H3 FS HR
      rcases ALL.out with ⟨rfl, n, hn, rfl, rfl, rfl, rfl, rfl, rfl⟩ | ⟨⟨te, pe, rfl⟩, hn⟩
      · have HN := hid hn
        have KN := hid (Blk.new x6 85 (scdN n))
        have BN := hid (bt D6.out (show Below x6.heap.size x6 (x6.alloc (.cells (scdN n) 85)) by go_grown))
        clear hn ALL
        go_wp2_with fail
        go_returns
        exact ⟨.inl ⟨n, HN.out, _, rfl, KN.out⟩, BN.out⟩
      · have HN := hid hn
        clear hn ALL
        go_upto_region 29 with fail
        have l8 : ∀ d os, (Go.Sort.grow (redrawn x6 d) os).cell? ⟨ge, 0, none⟩ = some (.iface te pe) := fun d os => (blk_gr E6B.out d os).cell 0
        refine wp_region_quiet_below (by kernel_rfl) (by kernel_rfl) ?_
        repeat (go_big_quiet_step (fail))
        refine wpQuiet_nil ?_
        intro _ hw'
        obtain ⟨⟨dq, osq⟩, hw''⟩ := hw'
        subst hw''
        go_wp2_with fail
        go_returns
        exact ⟨.inr ⟨HN.out, te, pe, rfl⟩, bt D6.out (below_regrown x6 dq osq)⟩
end Go.Proofs.YtomkhhpigpilfaaGreatDoor
