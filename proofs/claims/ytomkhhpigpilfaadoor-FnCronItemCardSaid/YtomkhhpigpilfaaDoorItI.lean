/- impl.CronItem, whatever the text. Walked. -/
import Derived.Test.YtomkhhpigpilfaaDoorRangeN
set_option linter.unusedVariables false
set_option linter.unusedSimpArgs false
namespace Go.Proofs.YtomkhhpigpilfaaDoor
open Go.RowKit

def kLo (k : Nat) : Nat := if k = 3 ∨ k = 4 then 1 else 0
def kHi (k : Nat) : Nat := if k = 2 then 23 else if k = 3 then 31 else if k = 4 then 12 else if k = 5 then 6 else 59
theorem k_bounds (k : Nat) : kLo k ≤ kHi k ∧ kHi k ≤ 62 := by
  unfold kLo kHi
  repeat' split
  all_goals omega
def BndOk (k : Nat) (w w' : World) (e : Ending) : Prop := ∃ (mv : Value) (M : World → Prop), e = .returned (.agg #[.int .u64 (kLo k : Nat), .int .u64 (kHi k : Nat), mv]) ∧ Below w.heap.size w w' ∧ M w' ∧ Kept M ∧ ValIs mv M (ival k lwL) ∧ ∀ W, M W → Vars W
theorem ival_plain {k : Nat} (h : ¬ (k = 4 ∨ k = 5)) (l : List UInt8) : ival k lwL l = inum l := by unfold ival; rw [nm_other h]; rfl
theorem is_plain {k : Nat} (h : ¬ (k = 4 ∨ k = 5)) : ValIs (.map none) Vars (ival k lwL) := fun x hx w hw => by
  rw [ival_plain h]
  exact valN_nil x hx w hw
theorem kept_and {M N : World → Prop} (h : Kept M) (k : Kept N) : Kept (fun w => M w ∧ N w) := fun w w' ⟨a, b⟩ hb => ⟨h w w' a hb, k w w' b hb⟩
theorem is_named {k : Nat} (h : k = 4 ∨ k = 5) (b : Nat) (es : Array MapEntry) (c : Nat) (ht : Tabled es (nm k)) : ValIs (.map (some b)) (fun w => MapAt b es c w ∧ Vars w) (ival k lwL) := fun x hx w ⟨hm, hv⟩ => valN_map k x hx b es c ht (nm_fun k h).1 (nm_fun k h).2 w hv hm
theorem bnd_0 (w : World) (hv : Vars w) : Calls Tryd.prog 21 #[.int .i64 0] w fun e w' => BndOk 0 w w' e := by
  have HV := hid hv
  clear hv
  go_enter Tryd.func21, Tryd.ntmps21
  go_wp2
  go_returns
  exact ⟨_, _, rfl, by go_grown, vars_kept _ _ HV.out (by go_grown), vars_kept, is_plain (by decide), fun _ h => h⟩
theorem bnd_1 (w : World) (hv : Vars w) : Calls Tryd.prog 21 #[.int .i64 1] w fun e w' => BndOk 1 w w' e := by
  have HV := hid hv
  clear hv
  go_enter Tryd.func21, Tryd.ntmps21
  go_wp2
  go_returns
  exact ⟨_, _, rfl, by go_grown, vars_kept _ _ HV.out (by go_grown), vars_kept, is_plain (by decide), fun _ h => h⟩
theorem bnd_2 (w : World) (hv : Vars w) : Calls Tryd.prog 21 #[.int .i64 2] w fun e w' => BndOk 2 w w' e := by
  have HV := hid hv
  clear hv
  go_enter Tryd.func21, Tryd.ntmps21
  go_wp2
  go_returns
  exact ⟨_, _, rfl, by go_grown, vars_kept _ _ HV.out (by go_grown), vars_kept, is_plain (by decide), fun _ h => h⟩
theorem bnd_3 (w : World) (hv : Vars w) : Calls Tryd.prog 21 #[.int .i64 3] w fun e w' => BndOk 3 w w' e := by
  have HV := hid hv
  clear hv
  go_enter Tryd.func21, Tryd.ntmps21
  go_wp2
  go_returns
  exact ⟨_, _, rfl, by go_grown, vars_kept _ _ HV.out (by go_grown), vars_kept, is_plain (by decide), fun _ h => h⟩
set_option maxHeartbeats 1600000 in
set_option maxRecDepth 100000 in
theorem bnd_4 (w : World) (hv : Vars w) : Calls Tryd.prog 21 #[.int .i64 4] w fun e w' => BndOk 4 w w' e := by
  have HV := hid hv
  clear hv
  have hC := hid (fun w => (months_any w).mono fun e w' (h : _ ∧ w' = (w.alloc _).alloc (.map monthsE 12)) => h)
  go_enter Tryd.func21, Tryd.ntmps21
  go_wp2_with (go_at_call 36; refine (hC.out _).mono ?_; rintro e w1 ⟨rfl, rfl⟩)
  go_returns
  refine ⟨_, fun W => MapAt (w.heap.size + 1 + 1) monthsE 12 W ∧ Vars W, rfl, by go_grown, ⟨?_, vars_kept _ _ HV.out (by go_grown)⟩, kept_and (kept_map _ _ _) vars_kept, is_named (by decide) _ _ _ tab_months, fun _ h => h.2⟩
  unfold MapAt
  have h := heap_alloc_new ((w.alloc (.cells #[.int .u64 (kLo 4 : Nat), .int .u64 (kHi 4 : Nat), .map (some (w.heap.size + 1 + 1))] 55)).alloc (.cells #[.int .u64 (kLo 4 : Nat), .int .u64 (kHi 4 : Nat), .map (some (w.heap.size + 1 + 1))] 55)) (.map monthsE 12)
  rw [World.size_alloc, World.size_alloc] at h
  exact h
set_option maxHeartbeats 1600000 in
set_option maxRecDepth 100000 in
theorem bnd_5 (w : World) (hv : Vars w) : Calls Tryd.prog 21 #[.int .i64 5] w fun e w' => BndOk 5 w w' e := by
  have HV := hid hv
  clear hv
  have hC := hid (fun w => (dow_any w).mono fun e w' (h : _ ∧ w' = (w.alloc _).alloc (.map dowE 7)) => h)
  go_enter Tryd.func21, Tryd.ntmps21
  go_wp2_with (go_at_call 37; refine (hC.out _).mono ?_; rintro e w1 ⟨rfl, rfl⟩)
  go_returns
  refine ⟨_, fun W => MapAt (w.heap.size + 1 + 1) dowE 7 W ∧ Vars W, rfl, by go_grown, ⟨?_, vars_kept _ _ HV.out (by go_grown)⟩, kept_and (kept_map _ _ _) vars_kept, is_named (by decide) _ _ _ tab_dow, fun _ h => h.2⟩
  unfold MapAt
  have h := heap_alloc_new ((w.alloc (.cells #[.int .u64 (kLo 5 : Nat), .int .u64 (kHi 5 : Nat), .map (some (w.heap.size + 1 + 1))] 55)).alloc (.cells #[.int .u64 (kLo 5 : Nat), .int .u64 (kHi 5 : Nat), .map (some (w.heap.size + 1 + 1))] 55)) (.map dowE 7)
  rw [World.size_alloc, World.size_alloc] at h
  exact h
theorem bnd_any (k : Nat) (hk : k ≤ 5) (w : World) (hv : Vars w) : Calls Tryd.prog 21 #[.int .i64 k] w fun e w' => BndOk k w w' e := by
  match k, hk with
  | 0, _ => exact bnd_0 w hv
  | 1, _ => exact bnd_1 w hv
  | 2, _ => exact bnd_2 w hv
  | 3, _ => exact bnd_3 w hv
  | 4, _ => exact bnd_4 w hv
  | 5, _ => exact bnd_5 w hv
  | k + 6, h => omega
/-- The package's item of a field. -/
def itemK (k : Nat) (l : List UInt8) : Option Nat := itemI (kLo k) (kHi k) (ival k lwL) l
theorem rangeK (s : ByteArray) (k : Nat) (mv : Value) (M : World → Prop) (w : World) (hM : Kept M) (hw : M w) (hs : s.size ≤ 65536) (hF : ValIs mv M (ival k lwL)) (hN : ∀ x : ByteArray, x.size ≤ 65536 → ∀ w, M w → Calls Tryd.prog 30 #[.string x] w fun e w' => RetN e (inum x.toList) ∧ Below w.heap.size w w') :
    Calls Tryd.prog 20 #[.string s, .agg #[.int .u64 (kLo k : Nat), .int .u64 (kHi k : Nat), mv]] w fun e w' => RetN e (itemK k s.toList) ∧ Below w.heap.size w w' :=
  rangeN_any s (kLo k) (kHi k) mv M (ival k lwL) w hM hw hs (k_bounds k).1 (k_bounds k).2 hF hN
theorem zzItem_any (k : Nat) (hk : k ≤ 5) (s : ByteArray) (hs : s.size ≤ 65536) (w : World) (hv : Vars w) : Calls Tryd.prog 16 #[.int .i64 k, .string s] w fun e w' => RetN e (itemK k s.toList) ∧ Below w.heap.size w w' := by
  have HB := hid (bnd_any k hk w hv)
  have HS := hid hs
  clear hv hs hk
  rcases hi : itemK k s.toList with _ | n
  · have HI := hid hi
    clear hi
    go_enter Tryd.func16, Tryd.ntmps16
    go_wp2_with (first
      | (go_at_call 21; refine HB.out.mono ?_; rintro e w1 ⟨mv, M, rfl, hb, hm, hk, hf, hv⟩; have C := hid (retN_none (HI.out ▸ rangeK s k mv M w1 hk hm HS.out hf (fun x hx W hW => mustN_any x hx W (hv W hW)))); replace hb := hid hb; clear hm hk hf hv)
      | (go_at_call 20; refine C.out.mono ?_; rintro e w2 ⟨⟨t, p, rfl⟩, hb2⟩; replace hb2 := hid hb2))
    go_returns
    exact ⟨.inr ⟨rfl, _, _, rfl⟩, bt hb.out hb2.out⟩
  · have HI := hid hi
    clear hi
    go_enter Tryd.func16, Tryd.ntmps16
    go_wp2_with (first
      | (go_at_call 21; refine HB.out.mono ?_; rintro e w1 ⟨mv, M, rfl, hb, hm, hk, hf, hv⟩; have C := hid (retN_some (HI.out ▸ rangeK s k mv M w1 hk hm HS.out hf (fun x hx W hW => mustN_any x hx W (hv W hW)))); replace hb := hid hb; clear hm hk hf hv)
      | (go_at_call 20; refine C.out.mono ?_; rintro e w2 ⟨rfl, hb2⟩; replace hb2 := hid hb2))
    go_returns
    exact ⟨.inl ⟨_, rfl, rfl⟩, bt hb.out hb2.out⟩
theorem bits_none (t : TypeId) (p : Value) (w : World) : Calls Tryd.prog 15 #[.int .u64 0, .iface t p] w fun e w' => e = .returned (.tuple #[.int .u64 0, .bool false]) ∧ w = w' := by
  go_enter Tryd.func15, Tryd.ntmps15
  go_wp2
  go_returns
  exact ⟨rfl, rfl⟩
theorem bits_some (n : Int) (w : World) : Calls Tryd.prog 15 #[.int .u64 n, .nilIface] w fun e w' => e = .returned (.tuple #[.int .u64 n, .bool true]) ∧ w = w' := by
  go_enter Tryd.func15, Tryd.ntmps15
  go_wp2
  go_returns
  exact ⟨rfl, rfl⟩
theorem implItem_none (k : Nat) (hk : k ≤ 5) (s : ByteArray) (hs : s.size ≤ 65536) (hi : itemK k s.toList = none) (w : World) (hv : Vars w) : Calls Tryd.prog 7 #[.int .i64 k, .string s] w fun e w' => e = .returned (.tuple #[.int .u64 0, .bool false]) ∧ Below w.heap.size w w' := by
  have C := hid (retN_none (hi ▸ zzItem_any k hk s hs w hv))
  have k0 : ¬ (k : Int) < 0 := by omega
  have k5 : ¬ (5 : Int) < (k : Int) := by omega
  clear hi hv hs hk
  go_enter Tryd.func7, Tryd.ntmps7
  go_wp2_with (first | (go_at_call 16; refine C.out.mono ?_; rintro e w2 ⟨⟨t, p, rfl⟩, hb2⟩; replace hb2 := hid hb2) | (go_at_call 15; refine (bits_none _ _ _).mono ?_; rintro e w3 ⟨rfl, rfl⟩))
  go_returns
  exact ⟨rfl, hb2.out⟩
theorem implItem_some (k : Nat) (hk : k ≤ 5) (s : ByteArray) (hs : s.size ≤ 65536) (n : Nat) (hi : itemK k s.toList = some n) (w : World) (hv : Vars w) : Calls Tryd.prog 7 #[.int .i64 k, .string s] w fun e w' => e = .returned (.tuple #[.int .u64 (n : Nat), .bool true]) ∧ Below w.heap.size w w' := by
  have C := hid (retN_some (hi ▸ zzItem_any k hk s hs w hv))
  have k0 : ¬ (k : Int) < 0 := by omega
  have k5 : ¬ (5 : Int) < (k : Int) := by omega
  clear hi hv hs hk
  go_enter Tryd.func7, Tryd.ntmps7
  go_wp2_with (first | (go_at_call 16; refine C.out.mono ?_; rintro e w2 ⟨rfl, hb2⟩; replace hb2 := hid hb2) | (go_at_call 15; refine (bits_some _ _).mono ?_; rintro e w3 ⟨rfl, rfl⟩))
  go_returns
  exact ⟨rfl, hb2.out⟩
end Go.Proofs.YtomkhhpigpilfaaDoor
