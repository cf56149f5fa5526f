/- (*Set).Lookup of a text without a colon, walked. -/
import Derived.Test.YtekjeagcncfmmaaDoorFindD
import Derived.Test.YtekjeagcncfmmaaDoorLock
import Derived.Test.YtekjeagcncfmmaaDoorGrow
import Derived.Shelf.SlSorted.Search
import Derived.Recover
import Derived.Defers
import Derived.Laws.Pointers
set_option linter.unusedVariables false
set_option linter.unusedSimpArgs false
namespace Go.Proofs.YtekjeagcncfmmaaDoor
open Go.RowKit Go.RwLone
open Go.Sort (grow grow_empty)

theorem wrap_up : Go.RowKit.wrap32 (0 + 1) = 1 := by simp [Go.RowKit.wrap32]
theorem wrap_down : Go.RowKit.wrap32 (1 + -1) = 0 := by simp [Go.RowKit.wrap32]
theorem rlock_any (g : Nat) (v : Value) (w : World) (h : Blk w g 54 (scells 0 v)) : Calls Tryd.prog 15 #[.pointer (some ⟨g, 0, none⟩)] w fun e w' =>
    e = .returned (.tuple #[]) ∧ Blk w' g 54 (scells 1 v) ∧ w.grownBy w' (some g) := by
  refine (rlock_open rwRLib g 0 0 (.int .i32 0) (.int .u32 0) w (h.cell 0) (h.cell 3) (h.cell 4) (h.frozen 4) (by rw [wrap_up]; decide)).mono ?_
  rw [wrap_up]
  rintro e w' ⟨rfl, rfl⟩
  refine ⟨rfl, h.set 4 (.int .i32 1), ⟨rfl, rfl, rfl, by simp [World.setCell], fun k hk hne => ?_⟩⟩
  have : g ≠ k := fun e => hne (by rw [e])
  simp [World.setCell, Array.getElem?_modify, this]
theorem runlock_any (g : Nat) (v : Value) (u : FrameMode) (w : World) (h : Blk w g 54 (scells 1 v)) : CallsD Tryd.prog 16 #[.pointer (some ⟨g, 0, none⟩)] u w fun e u' w' =>
    e = .returned (.tuple #[]) ∧ u' = u ∧ w' = w.setCell ⟨g, 4, none⟩ (.int .i32 0) := by
  refine (runlock_deferred rwRLib g 0 1 (.int .i32 0) (.int .u32 0) u w (h.cell 0) (h.cell 2) (h.cell 4) (h.frozen 4) (by rw [wrap_down]; decide)).mono ?_
  rw [wrap_down]
  rintro e u' w' ⟨rfl, rfl, rfl⟩
  exact ⟨rfl, rfl, rfl⟩

/-- The entries in memory. -/
def EntS (w : World) (row n : Nat) (alg : ByteArray) (f : Nat → ByteArray) : Prop := ∀ i, i < n → ∃ ge, w.cell? ⟨row, i, none⟩ = some (.pointer (some ⟨ge, 0, none⟩)) ∧ Blk w ge 58 (ecells alg (f i))
theorem EntS.below {w w' : World} {row n : Nat} {alg : ByteArray} {f : Nat → ByteArray} (h : EntS w row n alg f) (hb : Below w.heap.size w w') : EntS w' row n alg f := fun i hi => by
  obtain ⟨ge, h1, h2⟩ := h i hi
  exact ⟨ge, (hb.cell (World.block_lt_of_cell? w _ h1)).trans h1, h2.below hb⟩

theorem zrel_out {alg : ByteArray} {f : Nat → ByteArray} {w w' : World} {g n : Nat} {v : Value} {hs : List Nat} (R : ZRel alg f w g n v hs w') (hn : 0 < n) : ∃ row cap, v = .slice (some ⟨row, 0, none⟩) n cap ∧ EntS w' row n alg f ∧ row ≠ g := by
  have hl : (ptrs hs).length = n := by simp [ptrs, R.len]
  have ho := R.own
  rw [hl] at ho
  obtain ⟨row, cap, rfl⟩ := Go.Joins.ownsRow_form ho hn
  refine ⟨row, cap, rfl, fun i hi => ?_, fun e => ?_⟩
  · have hlen := R.len
    have hgi : hs[i]? = some (hs[i]'(by omega)) := List.getElem?_eq_getElem (by omega)
    refine ⟨hs[i]'(by omega), ?_, R.ents i _ hgi⟩
    have := ho.cells (g := row) rfl i (.pointer (some ⟨hs[i]'(by omega), 0, none⟩)) (by simp [ptrs, hgi])
    have e : (⟨row, 0, none⟩ : Addr).add i = ⟨row, i, none⟩ := by unfold Addr.add; split <;> simp_all
    rwa [e] at this
  · exact own_ne ho R.set_ (by decide) row rfl e.symm

/-- What Lookup holds while the set is locked: its two boxes, the set, the entries. -/
structure LB (w0 : World) (bs bt g row n cap : Nat) (alg : ByteArray) (f : Nat → ByteArray) (t : ByteArray) (w : World) : Prop where
  b0 : Below w0.heap.size w0 w
  cs : Blk w bs 33 #[.pointer (some ⟨g, 0, none⟩)]
  ct : Blk w bt 9 #[.string t]
  st : Blk w g 54 (scells 1 (.slice (some ⟨row, 0, none⟩) n cap))
  en : EntS w row n alg f
theorem LB.below {w0 : World} {bs bt g row n cap : Nat} {alg : ByteArray} {f : Nat → ByteArray} {t : ByteArray} {w w' : World} (h : LB w0 bs bt g row n cap alg f t w) (hb : Below w.heap.size w w') : LB w0 bs bt g row n cap alg f t w' :=
  ⟨h.b0.trans ⟨hb.os, hb.tape, hb.output, hb.size, fun k hk => hb.block k (Nat.lt_of_lt_of_le hk h.b0.size)⟩, h.cs.below hb, h.ct.below hb, h.st.below hb, h.en.below hb⟩

theorem search_any (w0 : World) (bs bt g row n cap : Nat) (alg : ByteArray) (f : Nat → ByteArray) (t : ByteArray) (w : World) (hn : n ≤ 40) (hA : Asc f n) (L : LB w0 bs bt g row n cap alg f t w) :
    Calls Tryd.prog 22 #[.int .i64 n, .func (.func 18) #[] #[.pointer (some ⟨bs, 0, none⟩), .pointer (some ⟨bt, 0, none⟩)]] w fun e w' => (∃ idx : Nat, e = .returned (.int .i64 idx) ∧ Place f n t idx) ∧ Below w.heap.size w w' := by
  have eg : ∀ args w, (callFunc 18 args).run Tryd.prog w = .ok (.enter 18 args) w := enters_of Tryd.func18 (by kernel_rfl) rfl
  have hS := Any.sort_Search Tryd.search 18 #[.pointer (some ⟨bs, 0, none⟩), .pointer (some ⟨bt, 0, none⟩)] n (fun i => !lowB (f i) t) w eg (by omega)
    (fun m os i hi => by
      obtain ⟨ge, h4, h5⟩ := L.en i hi
      exact (closure_any bs bt g row cap n i ge alg (f i) t t 1 _ hi (cell_grown L.cs.lt (L.cs.cell 0) m os) (cell_grown L.ct.lt (L.ct.cell 0) m os) (cell_grown L.st.lt (L.st.cell 6) m os) (cell_grown (World.block_lt_of_cell? w _ h4) h4 m os) (cell_grown h5.lt (h5.cell 1) m os)).mono
        fun _ _ ⟨he, q, hq⟩ => ⟨he, q, #[], by rw [hq, grow_empty]⟩)
    (hA.mono t)
  refine Calls.mono (show Calls Tryd.prog 22 _ _ _ from hS) ?_
  rintro e w' ⟨rfl, q, os, rfl⟩
  exact ⟨⟨_, rfl, place_count hA t⟩, below_grown_sl _ _ _ _ (Nat.le_refl _)⟩

/-- What Lookup answers. -/
def Found (e : Ending) (aN aA : Addr) (alg : ByteArray) (f : Nat → ByteArray) (t : ByteArray) (n : Nat) : Prop :=
  (mts t f n = [] ∧ e = .returned (.tuple #[.string ⟨#[]⟩, errV aN])) ∨ (∃ x, mts t f n = [x] ∧ e = .returned (.tuple #[.string (dgOf alg x), .nilIface])) ∨ (2 ≤ (mts t f n).length ∧ e = .returned (.tuple #[.string ⟨#[]⟩, errV aA]))

theorem blk_gr {w : World} {g : Nat} {t : TypeId} {cs : Array Value} (h : Blk w g t cs) (d : Nat) (os : Array Obj) : Blk (grow (redrawn w d) os) g t cs := h.below (below_regrown w d os)

set_option maxHeartbeats 3200000 in
set_option maxRecDepth 100000 in
theorem lookup_none (w0 : World) (g : Nat) (v : Value) (hs : List Nat) (alg : ByteArray) (f : Nat → ByteArray) (t : ByteArray) (aF aN aA : Addr) (w : World) (V : Vars w0 aF aN aA) (R : ZRel alg f w0 g 0 v hs w) :
    Calls Tryd.prog 11 #[.pointer (some ⟨g, 0, none⟩), .string t] w fun e w' => Found e aN aA alg f t 0 ∧ Below w0.heap.size w0 w' := by
  obtain ⟨ao, cap, hv⟩ : ∃ ao cap, v = .slice ao 0 cap := by
    have hl : (ptrs hs).length = 0 := by simp [ptrs, R.len]
    have ho := R.own
    rw [hl] at ho
    rcases Go.Joins.ownsRow_forms ho with ⟨h, _⟩ | ⟨row, cap, h⟩
    · exact ⟨_, _, h⟩
    · exact ⟨_, _, h⟩
  subst hv
  have HR := hid R
  have HV := hid V
  clear R V
  go_enter_defers Tryd.func11, Tryd.ntmps11
  go_wp2_with (go_at_call 15; refine (rlock_any g _ _ ((HR.out.set_.alloc _).alloc _)).mono ?_; rintro e w1 ⟨rfl, hS1, hg1⟩; have S1 := hid hS1; have B1 := hid ((((HR.out.below.alloc HR.out.below.size _).alloc (by have := HR.out.below.size; simp; omega) _).grown hg1 (by have := HR.out.below.size; simp; omega) (fun k hk => by obtain rfl := Option.some.inj hk; exact HR.out.at_))); have q0 : w1.cell? ⟨w.heap.size, 0, none⟩ = some (.pointer (some ⟨g, 0, none⟩)) := (((Blk.new w 33 #[.pointer (some ⟨g, 0, none⟩)]).alloc _).grown hg1 (fun k hk => by obtain rfl := Option.some.inj hk; have := HR.out.set_.lt; omega)).cell 0; have q6 : w1.cell? ⟨g, 6, none⟩ = some (.slice ao 0 cap) := hS1.cell 6; have qn : w1.cell? ⟨0, 0, none⟩ = some (errV aN) := (HV.out.below (show Below w0.heap.size w0 w1 from B1.out)).n.1; clear hS1 hg1)
  go_region
  go_wp2_with fail
  refine leaves_cons (f := 16) (args := #[.pointer (some ⟨g, 0, none⟩)]) (by simp) (by simp [go_sem]) ?_
  refine (runlock_any g _ _ _ (show Blk w1.drew g _ _ from S1.out)).mono ?_
  rintro e u' w'' ⟨rfl, rfl, rfl⟩
  simp [Leaves, settle, results, Tryd.results11, go_sem]
  exact ⟨.inl ⟨rfl, rfl⟩, below_set B1.out.drew HR.out.at_ 4 _⟩
end Go.Proofs.YtekjeagcncfmmaaDoor
