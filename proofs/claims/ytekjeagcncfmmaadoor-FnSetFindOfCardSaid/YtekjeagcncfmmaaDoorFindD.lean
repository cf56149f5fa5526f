/- What Lookup calls, walked: checkShortMatch, Parse of a text without a colon, errors.Is of the sentinels, the search's closure. -/
import Derived.Test.YtekjeagcncfmmaaDoorFindC
import Derived.Test.YtekjeagcncfmmaaDoorShelf
import Derived.LaidEql
import Derived.Stop.Asserts
import Derived.RowKitTokens
import Derived.Test.YtekjeagcncfmmaaDoorChecked
set_option linter.unusedVariables false
set_option linter.unusedSimpArgs false
namespace Go.Proofs.YtekjeagcncfmmaaDoor
open Go.RowKit Go.Extern.Stop Go.Stop Go.Extern

/-- Variable g holds a pointer to an error of its own text. -/
def Sent (w : World) (g : Nat) (a : Addr) (text : List UInt8) : Prop :=
  w.cell? ⟨g, 0, none⟩ = some (.iface 163 (.pointer (some a))) ∧ (∃ s, w.cell? a = some (.string s) ∧ s.data.toList = text) ∧ ∃ c t, w.heap[a.block]? = some (.cells c t (0, 0))
theorem Sent.lt {w : World} {g : Nat} {a : Addr} {x : List UInt8} (h : Sent w g a x) : a.block < w.heap.size := by
  obtain ⟨c, t, h⟩ := h.2.2
  exact (Array.getElem?_eq_some_iff.1 h).1
theorem Sent.below {w w' : World} {g : Nat} {a : Addr} {x : List UInt8} (h : Sent w g a x) (hb : Below w.heap.size w w') : Sent w' g a x := by
  obtain ⟨h1, ⟨s, h2, h3⟩, c, t, h4⟩ := h
  exact ⟨(hb.cell (World.block_lt_of_cell? w _ h1)).trans h1, ⟨s, (hb.cell (World.block_lt_of_cell? w _ h2)).trans h2, h3⟩, c, t, (hb.block _ (Array.getElem?_eq_some_iff.1 h4).1).trans h4⟩
theorem Sent.apart {w : World} {g g' : Nat} {a a' : Addr} {x x' : List UInt8} (h : Sent w g a x) (h' : Sent w g' a' x') (hx : x ≠ x') : a ≠ a' := by
  rintro rfl
  obtain ⟨_, ⟨s, h2, h3⟩, _⟩ := h
  obtain ⟨_, ⟨s', h2', h3'⟩, _⟩ := h'
  rw [h2] at h2'
  obtain rfl : s = s' := by simpa using h2'
  exact hx (h3.symm.trans h3')
abbrev txtF : List UInt8 := [105, 110, 118, 97, 108, 105, 100, 32, 99, 104, 101, 99, 107, 115, 117, 109, 32, 100, 105, 103, 101, 115, 116, 32, 102, 111, 114, 109, 97, 116]
abbrev txtN : List UInt8 := [100, 105, 103, 101, 115, 116, 32, 110, 111, 116, 32, 102, 111, 117, 110, 100]
abbrev txtA : List UInt8 := [97, 109, 98, 105, 103, 117, 111, 117, 115, 32, 100, 105, 103, 101, 115, 116, 32, 115, 116, 114, 105, 110, 103]
/-- The three sentinels that the law meets. -/
structure Vars (w : World) (aF aN aA : Addr) : Prop where
  f : Sent w 1 aF txtF
  n : Sent w 0 aN txtN
  a : Sent w 2 aA txtA
theorem Vars.below {w w' : World} {aF aN aA : Addr} (h : Vars w aF aN aA) (hb : Below w.heap.size w w') : Vars w' aF aN aA := ⟨h.f.below hb, h.n.below hb, h.a.below hb⟩
theorem Vars.ne {w : World} {aF aN aA : Addr} (h : Vars w aF aN aA) : aA ≠ aN := h.a.apart h.n (by decide)
/-- The error behind pointer a. -/
abbrev errV (a : Addr) : Value := .iface 163 (.pointer (some a))

theorem isTypeOf (v : Value) (w : World) : (Extern.ReflectliteType.typeOf #[.iface 163 v]).run Tryd.prog w = .ok (.iface 91 (.agg #[.pointer (some ⟨7, 163, none⟩)])) w := by kernel_rfl
theorem comparable_run (w : World) : (callFunc 96 #[.agg #[.pointer (some ⟨7, 163, none⟩)]]).run Tryd.prog w = .ok (.value (.bool true)) w :=
  ((@run_callFunc_extern Tryd.prog 96 _ (Extern.ReflectliteType.method fun t => do Extern.Rtype.noPackHeld "Comparable" t; pure (.bool (← typeInfo t).comparable)) Tryd.func96 (by kernel_rfl) (by kernel_rfl) (by kernel_rfl) (by kernel_rfl)) _ w).trans (by kernel_rfl)
theorem isMethodComparable (v : Value) (w : World) : (Go.method 307 91 v "Comparable").run Tryd.prog w = .ok (96, v) w := by kernel_rfl
theorem isComp : (Tryd.prog.info? 163).map (·.comparable) = some true := by kernel_rfl
theorem isSize : (Tryd.prog.info? 196).map (·.size) = some 1 := by kernel_rfl
theorem noIsE (v : Value) (xT : TypeId) (w : World) : (Instr.typeAssert (.iface 163 v) xT 93 true).run Tryd.prog w = .ok (.tuple #[.nilIface, .bool false]) w := run_typeAssert_lacksB Tryd.underlying93 (by kernel_rfl) (by kernel_rfl) v xT w
theorem noUnwrapE (v : Value) (xT : TypeId) (w : World) : (Instr.typeAssert (.iface 163 v) xT 96 true).run Tryd.prog w = .ok (.tuple #[.nilIface, .bool false]) w := run_typeAssert_lacksB Tryd.underlying96 (by kernel_rfl) (by kernel_rfl) v xT w
theorem noUnwrapsE (v : Value) (xT : TypeId) (w : World) : (Instr.typeAssert (.iface 163 v) xT 97 true).run Tryd.prog w = .ok (.tuple #[.nilIface, .bool false]) w := run_typeAssert_lacksB Tryd.underlying97 (by kernel_rfl) (by kernel_rfl) v xT w

theorem is_same (a : Addr) (w : World) : Calls Tryd.prog 24 #[errV a, errV a] w fun e w' => e = .returned (.bool true) ∧ w' = w := by
  obtain ⟨i, hi, hcmp⟩ := Option.map_eq_some_iff.1 isComp
  obtain ⟨j, hj, hjs⟩ := Option.map_eq_some_iff.1 isSize
  have h8 := @run_callFunc_extern Tryd.prog 37 _ Extern.ReflectliteType.typeOf Tryd.func37 (by kernel_rfl) (by kernel_rfl) (by kernel_rfl) (by kernel_rfl)
  have h32 := comparable_run
  have tT := isTypeOf
  have mR := isMethodComparable
  have heq := run_eql_iface_ptr_same (P := Tryd.prog) w a Tryd.underlying31 Tryd.underlying163 hi hcmp hj
  go_enter Tryd.func24, Tryd.ntmps24
  go_wp2
  refine wp_loop_rounds 1 ?_
  rw [rounds_succ]
  go_wp2
  go_ret
  exact ⟨rfl, rfl⟩

theorem is_other (a b : Addr) (ca cb : Array Value) (ta tb : TypeId) (w : World) (hne : a ≠ b) (ha : w.heap[a.block]? = some (.cells ca ta (0, 0))) (hb : w.heap[b.block]? = some (.cells cb tb (0, 0))) :
    Calls Tryd.prog 24 #[errV a, errV b] w fun e w' => e = .returned (.bool false) ∧ w' = w := by
  obtain ⟨i, hi, hcmp⟩ := Option.map_eq_some_iff.1 isComp
  obtain ⟨j, hj, hjs⟩ := Option.map_eq_some_iff.1 isSize
  have h8 := @run_callFunc_extern Tryd.prog 37 _ Extern.ReflectliteType.typeOf Tryd.func37 (by kernel_rfl) (by kernel_rfl) (by kernel_rfl) (by kernel_rfl)
  have h32 := comparable_run
  have tT := isTypeOf
  have mR := isMethodComparable
  have nE := noIsE
  have uE := noUnwrapE
  have vE := noUnwrapsE
  have heq := run_eql_iface_ptr_other (P := Tryd.prog) w Tryd.underlying31 Tryd.underlying163 hi hcmp hj (by rw [hjs]; decide) hne ha hb
  go_enter Tryd.func24, Tryd.ntmps24
  go_wp2
  refine wp_loop_rounds 1 ?_
  rw [rounds_succ]
  go_wp2
  go_ret
  exact ⟨rfl, rfl⟩

theorem kind_nil (w : World) : Calls Tryd.prog 12 #[.nilIface] w fun e w' => e = .returned (.int .i64 0) ∧ w' = w := by
  go_enter Tryd.func12, Tryd.ntmps12
  go_wp2_with fail
  go_ret
  exact ⟨rfl, rfl⟩
theorem kind_none (aF aN aA : Addr) (w : World) (V : Vars w aF aN aA) : Calls Tryd.prog 12 #[errV aN] w fun e w' => e = .returned (.int .i64 1) ∧ w' = w := by
  have hg := V.n.1
  clear V
  go_enter Tryd.func12, Tryd.ntmps12
  go_wp2_with (go_at_call 24; refine (is_same aN _).mono ?_; rintro e w' ⟨rfl, rfl⟩)
  go_ret
  exact ⟨rfl, rfl⟩
theorem kind_many (aF aN aA : Addr) (w : World) (V : Vars w aF aN aA) : Calls Tryd.prog 12 #[errV aA] w fun e w' => e = .returned (.int .i64 2) ∧ w' = w := by
  have hg := V.n.1
  have hg2 := V.a.1
  obtain ⟨ca, ta, hca⟩ := V.a.2.2
  obtain ⟨cb, tb, hcb⟩ := V.n.2.2
  have C1 := hid (is_other aA aN ca cb ta tb w V.ne hca hcb)
  clear V hca hcb
  go_enter Tryd.func12, Tryd.ntmps12
  go_wp2_with (first | (go_at_call_of 24 aN; refine C1.out.mono ?_; rintro e w' ⟨rfl, rfl⟩) | (go_at_call 24; refine (is_same aA _).mono ?_; rintro e w' ⟨rfl, rfl⟩))
  go_ret
  exact ⟨rfl, rfl⟩

theorem check_any (al v t : ByteArray) (w : World) : Calls Tryd.prog 23 #[.string al, .string v, .string ⟨#[]⟩, .string t] w fun e w' => e = .returned (.bool (begB t v)) ∧ w' = w := by
  have HP : Lib.hasPrefix v.data.toList t.data.toList = begB t v := by
    unfold Lib.hasPrefix begB
    rw [ByteArray.toList_eq, ByteArray.toList_eq]
  have CP := fun w => Tryd.strings_HasPrefix v t w
  rw [HP] at CP
  clear HP
  by_cases hs : v.size = t.size
  · have e1 : ((v.size : Int) == (t.size : Int)) = true := by simp [hs]
    by_cases he : v.toList = t.toList
    · have e2 : (v.toList == t.toList) = true := by simp [he]
      have hq : begB t v = true := by unfold begB; rw [he]; simp
      rw [hq]
      clear hs he hq CP
      go_enter Tryd.func23, Tryd.ntmps23
      go_wp2_with fail
      go_ret
      exact ⟨rfl, rfl⟩
    · have e2 : (v.toList == t.toList) = false := by simpa using he
      have hq : begB t v = false := by
        cases hq : begB t v with
        | false => rfl
        | true => exact absurd (congrArg ByteArray.toList (begB_whole (b := v) hq hs.symm).symm) he
      rw [hq]
      clear hs he hq CP
      go_enter Tryd.func23, Tryd.ntmps23
      go_wp2_with fail
      go_ret
      exact ⟨rfl, rfl⟩
  · have e1 : ((v.size : Int) == (t.size : Int)) = false := by simp; omega
    clear hs
    cases hq : begB t v with
    | false =>
      rw [hq] at CP
      clear hq
      go_enter Tryd.func23, Tryd.ntmps23
      go_wp2_with (go_at_call 36; refine (CP _).mono ?_; rintro e w' ⟨rfl, rfl⟩)
      go_ret
      exact ⟨rfl, rfl⟩
    | true =>
      rw [hq] at CP
      clear hq
      go_enter Tryd.func23, Tryd.ntmps23
      go_wp2_with (go_at_call 36; refine (CP _).mono ?_; rintro e w' ⟨rfl, rfl⟩)
      go_ret
      exact ⟨rfl, rfl⟩

theorem validate_any (s : ByteArray) (aF aN aA : Addr) (w : World) (hs : s.size ≤ 200) (hF : Fst 58 s (-1)) (V : Vars w aF aN aA) : Calls Tryd.prog 33 #[.string s] w fun e w' => e = .returned (errV aF) ∧ w' = w := by
  have hg := V.f.1
  have HF := hid hF
  clear hF V
  go_enter Tryd.func33, Tryd.ntmps33
  go_wp2_with (go_at_call 42; refine (dindex_any s _ (by omega)).mono ?_; rintro e w' ⟨n, rfl, rfl, h⟩; obtain rfl := h.same HF.out; clear h)
  go_ret
  exact ⟨rfl, rfl⟩
theorem parse_any (s : ByteArray) (aF aN aA : Addr) (w : World) (hs : s.size ≤ 200) (hF : Fst 58 s (-1)) (V : Vars w aF aN aA) : Calls Tryd.prog 17 #[.string s] w fun e w' => e = .returned (.tuple #[.string s, errV aF]) ∧ w' = w := by
  have HV := hid V
  have HF := hid hF
  clear hF V
  go_enter Tryd.func17, Tryd.ntmps17
  go_wp2_with (go_at_call 33; refine (validate_any s aF aN aA _ hs HF.out HV.out).mono ?_; rintro e w' ⟨rfl, rfl⟩)
  go_returns
  exact ⟨rfl, rfl⟩
theorem same_fmt (a : Addr) (w : World) : (binOp .eql 31 (errV a) (errV a)).run Tryd.prog w = .ok (.bool true) w := by
  obtain ⟨i, hi, hcmp⟩ := Option.map_eq_some_iff.1 isComp
  obtain ⟨j, hj, hjs⟩ := Option.map_eq_some_iff.1 isSize
  exact run_eql_iface_ptr_same (P := Tryd.prog) w a Tryd.underlying31 Tryd.underlying163 hi hcmp hj

set_option maxHeartbeats 1600000 in
/-- The search's closure: entry i is not below the text. -/
theorem closure_any (bs bt g row cap n i ge : Nat) (al v d t : ByteArray) (rc : Int) (W : World) (hi : i < n)
    (h1 : W.cell? ⟨bs, 0, none⟩ = some (.pointer (some ⟨g, 0, none⟩))) (h2 : W.cell? ⟨bt, 0, none⟩ = some (.string t)) (h3 : W.cell? ⟨g, 6, none⟩ = some (.slice (some ⟨row, 0, none⟩) n cap))
    (h4 : W.cell? ⟨row, i, none⟩ = some (.pointer (some ⟨ge, 0, none⟩))) (h5 : W.cell? ⟨ge, 1, none⟩ = some (.string v)) :
    Calls Tryd.prog 18 (#[.int .i64 i] ++ #[.pointer (some ⟨bs, 0, none⟩), .pointer (some ⟨bt, 0, none⟩)]) W fun e w' => e = .returned (.bool (!lowB v t)) ∧ ∃ q, w' = W.drewN q := by
  have hiz : (i : Int) < (n : Int) := by omega
  unfold lowB
  generalize hq : Op.bytesLess v.toList t.toList = q
  go_enter Tryd.func18, Tryd.ntmps18
  go_wp2_with fail
  go_region
  all_goals go_wp2_with fail
  all_goals go_ret
  all_goals exact ⟨by simp, 1, rfl⟩
end Go.Proofs.YtekjeagcncfmmaaDoor
