/- The closure of Parse: one field read, the error kept. Walked. -/
import Derived.Test.YtomkhhpigpilfaaGreatDoorFldN
import Derived.Test.YtomkhhpigpilfaaGreatDoorNormG
import Derived.Deep.DeepCutAuto
set_option linter.unusedVariables false
set_option linter.unusedSimpArgs false
namespace Go.Proofs.YtomkhhpigpilfaaGreatDoor
open Go.RowKit

/-- Nothing changes but new memory and the block g. -/
structure Keeps (g : Nat) (w w' : World) : Prop where
  os : w'.os = w.os
  tape : w'.tape = w.tape
  output : w'.output = w.output
  size : w.heap.size ≤ w'.heap.size
  block : ∀ k, k < w.heap.size → k ≠ g → w'.heap[k]? = w.heap[k]?
theorem Keeps.of {g : Nat} {w w' : World} (h : Below w.heap.size w w') : Keeps g w w' := ⟨h.os, h.tape, h.output, h.size, fun k hk _ => h.block k hk⟩
theorem Keeps.set {g : Nat} {w w' : World} (h : Keeps g w w') (u : Value) : Keeps g w (w'.setCell ⟨g, 0, none⟩ u) :=
  ⟨h.os, h.tape, h.output, by have := h.size; simpa [World.setCell] using this, fun k hk hn => (Below.heap_setCell w' ⟨g, 0, none⟩ u k hn).trans (h.block k hk hn)⟩
theorem Keeps.blk {g k : Nat} {w w' : World} {t : TypeId} {cs : Array Value} (h : Keeps g w w') (hb : Blk w k t cs) (hn : k ≠ g) : Blk w' k t cs := (h.block k hb.lt hn).trans hb
theorem Keeps.below {g B : Nat} {w w1 w2 : World} (h : Keeps g w1 w2) (hb : Below B w w1) (hg : B ≤ g) (hB : B ≤ w1.heap.size) : Below B w w2 :=
  ⟨h.os.trans hb.os, h.tape.trans hb.tape, h.output.trans hb.output, Nat.le_trans hb.size h.size, fun k hk => (h.block k (Nat.lt_of_lt_of_le hk hB) (Nat.ne_of_lt (Nat.lt_of_lt_of_le hk hg))).trans (hb.block k hk)⟩
/-- What one field does to the error. -/
def StepE (E E' : Value) (r : Option Nat) (v : Int) : Prop := (E = .nilIface ∧ E' = .nilIface ∧ ∃ n : Nat, r = some n ∧ v = (n : Int)) ∨ ((∃ (t : TypeId) (p : Value), E' = .iface t p) ∧ ((∃ (t : TypeId) (p : Value), E = .iface t p) ∨ r = none))

theorem retF_none {f : Nat} {args : Array Value} {w : World} (h : Calls Tryz.prog f args w fun e w' => RetF e none ∧ Below w.heap.size w w') : Calls Tryz.prog f args w fun e w' => (∃ (v : Int) (t : TypeId) (p : Value), e = .returned (.tuple #[.int .u64 v, .iface t p])) ∧ Below w.heap.size w w' :=
  h.mono fun e w' ⟨h, hb⟩ => ⟨h.elim (fun ⟨_, h, _⟩ => nomatch h) (fun ⟨_, h⟩ => h), hb⟩
theorem retF_some {f : Nat} {args : Array Value} {w : World} {n : Nat} (h : Calls Tryz.prog f args w fun e w' => RetF e (some n) ∧ Below w.heap.size w w') : Calls Tryz.prog f args w fun e w' => e = .returned (.tuple #[.int .u64 (n : Nat), .nilIface]) ∧ Below w.heap.size w w' :=
  h.mono fun e w' ⟨h, hb⟩ => ⟨h.elim (fun ⟨m, h, _, h2⟩ => by injection h with h; rw [h]; exact h2) (fun ⟨h, _⟩ => nomatch h), hb⟩

set_option maxRecDepth 100000 in
theorem closureG (k : Nat) (lo hi : Int) (hlo : ((kLo k : Nat) : Int) = lo) (hhi : ((kHi k : Nat) : Int) = hi) (s : ByteArray) (mv : Value) (M : World → Prop) (E : Value) (g : Nat) (w : World) (hE : E = .nilIface ∨ ∃ (t : TypeId) (p : Value), E = .iface t p) (he : Blk w g 63 #[E])
    (hM : Kept M) (hw : M w) (hs : s.size ≤ 65536) (hF : ValIs mv M (ival k lwL)) (hV : ∀ W, M W → Vars W) :
    Calls Tryz.prog 47 #[.string s, .agg #[.int .u64 lo, .int .u64 hi, mv], .pointer (some ⟨g, 0, none⟩)] w fun e w' => ∃ (v : Int) (E' : Value), e = .returned (.int .u64 v) ∧ StepE E E' (fieldK k s) v ∧ Blk w' g 63 #[E'] ∧ Keeps g w w' := by
  have HR := hid (fun (W : World) (hW : M W) => fieldN_any k s mv M W hM hW hs hF hV)
  rw [hlo, hhi] at HR
  have E0 := hid (he.alloc (.cells #[.int .u64 lo, .int .u64 hi, mv] 100))
  have B0 := hid (show Below w.heap.size w (w.alloc (.cells #[.int .u64 lo, .int .u64 hi, mv] 100)) from (Below.refl _ _).alloc (Nat.le_refl _) _)
  have R0 := hid (Blk.new w 100 #[.int .u64 lo, .int .u64 hi, mv])
  have M0 := hid (hM _ _ hw B0.out)
  generalize fieldK k s = r at HR ⊢
  clear hlo hhi hM hw hs hF hV he
  rcases hE with rfl | ⟨t, p, rfl⟩
  · have CR := hid (HR.out _ M0.out)
    clear HR
    go_enter Tryz.func47, Tryz.ntmps47
    go_upto_region 1 with fail
    generalize (w.alloc (.cells #[.int .u64 lo, .int .u64 hi, mv] 100)) = w0 at E0 B0 R0 CR ⊢
    have e0 : w0.cell? ⟨g, 0, none⟩ = some .nilIface := E0.out.cell 0
    have r0 : w0.cell? ⟨w.heap.size, 0, none⟩ = some (.int .u64 lo) := R0.out.cell 0
    have r1 : w0.cell? ⟨w.heap.size, 1, none⟩ = some (.int .u64 hi) := R0.out.cell 1
    have r2 : w0.cell? ⟨w.heap.size, 2, none⟩ = some mv := R0.out.cell 2
    rcases r with _ | n
    · have CN := hid (retF_none CR.out)
      clear CR
      go_wp2_with (go_at_call 48; refine CN.out.mono ?_; rintro e w2 ⟨⟨v, t, p, rfl⟩, hb⟩; have E2 := hid (E0.out.below hb); have B2 := hid (bt B0.out hb); have c0 : w2.cell? ⟨g, 0, none⟩ = some .nilIface := E2.out.cell 0; have f0 : w2.frozen? ⟨g, 0, none⟩ = false := E2.out.frozen 0; clear hb)
      go_ret
      exact ⟨v, .iface t p, rfl, .inr ⟨⟨t, p, rfl⟩, .inr rfl⟩, E2.out.set 0 _, (Keeps.of B2.out).set _⟩
    · have CN := hid (retF_some CR.out)
      clear CR
      go_wp2_with (go_at_call 48; refine CN.out.mono ?_; rintro e w2 ⟨rfl, hb⟩; have E2 := hid (E0.out.below hb); have B2 := hid (bt B0.out hb); have c0 : w2.cell? ⟨g, 0, none⟩ = some .nilIface := E2.out.cell 0; have f0 : w2.frozen? ⟨g, 0, none⟩ = false := E2.out.frozen 0; clear hb)
      go_ret
      exact ⟨(n : Int), .nilIface, rfl, .inl ⟨rfl, rfl, n, rfl, rfl⟩, E2.out.set 0 _, (Keeps.of B2.out).set _⟩
  · clear HR M0
    go_enter Tryz.func47, Tryz.ntmps47
    go_upto_region 1 with fail
    generalize (w.alloc (.cells #[.int .u64 lo, .int .u64 hi, mv] 100)) = w0 at E0 B0 R0 ⊢
    have e0 : w0.cell? ⟨g, 0, none⟩ = some (.iface t p) := E0.out.cell 0
    go_wp2_with fail
    go_returns
    exact ⟨0, .iface t p, rfl, .inr ⟨⟨t, p, rfl⟩, .inl ⟨t, p, rfl⟩⟩, E0.out, Keeps.of B0.out⟩
end Go.Proofs.YtomkhhpigpilfaaGreatDoor
