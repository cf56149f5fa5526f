/- What a star means in the two fields of days. Walked. -/
import Derived.Test.YtjbafphoemibaaaGreatDoorKit
import Derived.Test.YtjbafphoemibaaaGreatDoorBits
import Derived.StringKeys
set_option linter.unusedVariables false
set_option linter.unusedSimpArgs false
namespace Go.Proofs.YtjbafphoemibaaaGreatDoor
open Go.RowKit

theorem run_newMap (W : World) : (Instr.makeMap 88 none).run Tryz.prog W = .ok (.map (some W.heap.size)) (W.alloc (.map #[] 0)) := by
  simp [Instr.makeMap, Sem.run_bind, newObj]
  rfl

/-- All keys are texts of a length that can be, none of them this one. -/
def NoKey (key : ByteArray) (es : List MapEntry) : Prop := ∀ e ∈ es, ∃ s : ByteArray, e.key = .string s ∧ s.size ≤ maxLen ∧ s ≠ key

theorem alloc_set (W : World) (o o' : Obj) : { W.alloc o with heap := (W.alloc o).heap.setIfInBounds W.heap.size o' } = W.alloc o' := by
  simp only [World.alloc]
  congr 1
  apply Array.ext'
  simp [Array.setIfInBounds, Array.toList_push]

set_option maxRecDepth 100000 in
theorem findKey_none (W : World) (key : ByteArray) (hz : key.size ≤ maxLen) (es : List MapEntry) (hs : NoKey key es) : (Instr.findKey 9 (.string key) es).run Tryz.prog W = .ok none W := by
  have law := WideMaps.string_law (P := Tryz.prog) (k := 9) Tryz.underlying9
  have hx := WideMaps.keyOf_string_mk (P := Tryz.prog) (k := 9) Tryz.underlying9 hz
  rcases law.find W hx es (fun e he => by
    obtain ⟨s, h1, h2, _⟩ := hs e he
    rw [h1]
    exact ⟨_, WideMaps.keyOf_string_mk Tryz.underlying9 h2⟩) with ⟨h, _⟩ | ⟨j, e, _, h2, h3⟩
  · exact h
  · obtain ⟨s, h1, _, h4⟩ := hs e (List.mem_of_getElem? h2)
    rw [h1] at h3
    exact absurd (Value.string.inj h3) h4

theorem get_map (W : World) (b : Nat) (es : Array MapEntry) (n : Nat) (hb : W.heap[b]? = some (.map es n)) : Sem.run Tryz.prog (Sem.getObj b Sem.pure) W = .ok (.map es n) W := by simp [Sem.run, hb]
theorem set_obj (W : World) (r : Nat) (es : Array MapEntry) (n : Nat) (hb : W.heap[r]? = some (.map es n)) (o : Obj) : Sem.run Tryz.prog (Sem.setObj r o (Sem.pure ())) W = .ok () { W with heap := W.heap.setIfInBounds r o } := by simp [Sem.run, hb]

theorem run_lookup_none (W : World) (b : Nat) (es : Array MapEntry) (n : Nat) (key : ByteArray) (hz : key.size ≤ maxLen) (hb : W.heap[b]? = some (.map es n)) (hs : NoKey key es.toList) :
    (Instr.lookup 88 (.map (some b)) (.string key) true).run Tryz.prog W = .ok (.tuple #[.int .u64 0, .bool false]) W := by
  have law := WideMaps.string_law (P := Tryz.prog) (k := 9) Tryz.underlying9
  have hx := WideMaps.keyOf_string_mk (P := Tryz.prog) (k := 9) Tryz.underlying9 hz
  have h1 := law.check W es.isEmpty hx
  have h2 := findKey_none W key hz es.toList hs
  have h3 : (zeroValue 87).run Tryz.prog W = .ok (.int .u64 0) W := by kernel_rfl
  have hg := get_map W b es n hb
  simp [Instr.lookup, hg, run_underlying Tryz.underlying88, getObj, hb, Sem.run_bind, h1, h2, h3]

theorem run_insert_none (W : World) (r : Nat) (hr : r = W.heap.size) (es : Array MapEntry) (n : Nat) (key : ByteArray) (hz : key.size ≤ maxLen) (v : Value) (hs : NoKey key es.toList) :
    (Instr.mapUpdate 88 (.map (some r)) (.string key) v).run Tryz.prog (W.alloc (.map es n)) = .ok () (W.alloc (.map (es.push { key := .string key, val := v, born := n }) (n + 1))) := by
  subst hr
  have law := WideMaps.string_law (P := Tryz.prog) (k := 9) Tryz.underlying9
  have hx := WideMaps.keyOf_string_mk (P := Tryz.prog) (k := 9) Tryz.underlying9 hz
  have h1 := law.check (W.alloc (.map es n)) false hx
  have h2 := findKey_none (W.alloc (.map es n)) key hz es.toList hs
  have hb : (W.alloc (.map es n)).heap[W.heap.size]? = some (.map es n) := heap_alloc_new W _
  have hg := get_map (W.alloc (.map es n)) W.heap.size es n hb
  have hset := set_obj (W.alloc (.map es n)) W.heap.size es n hb (.map (es.push { key := .string key, val := v, born := n }) (n + 1))
  rw [alloc_set] at hset
  simp [Instr.mapUpdate, run_underlying Tryz.underlying88, getObj, setObj, hg, Sem.run_bind, h1, h2, hset]

def dowE : Array MapEntry := #[{ key := .string ⟨#[115, 117, 110]⟩, val := .int .u64 0, born := 0 }, { key := .string ⟨#[109, 111, 110]⟩, val := .int .u64 1, born := 1 }, { key := .string ⟨#[116, 117, 101]⟩, val := .int .u64 2, born := 2 }, { key := .string ⟨#[119, 101, 100]⟩, val := .int .u64 3, born := 3 }, { key := .string ⟨#[116, 104, 117]⟩, val := .int .u64 4, born := 4 }, { key := .string ⟨#[102, 114, 105]⟩, val := .int .u64 5, born := 5 }, { key := .string ⟨#[115, 97, 116]⟩, val := .int .u64 6, born := 6 }]
set_option maxRecDepth 100000 in

set_option maxHeartbeats 3200000 in
set_option maxRecDepth 100000 in
theorem dow_any (w : World) : Calls Tryz.prog 45 #[] w fun e w' => e = .returned (.agg #[.int .u64 0, .int .u64 6, .map (some (w.heap.size + 1))]) ∧ w' = (w.alloc (.cells #[.int .u64 0, .int .u64 6, .map (some (w.heap.size + 1))] 90)).alloc (.map #[{ key := .string ⟨#[115, 117, 110]⟩, val := .int .u64 0, born := 0 }, { key := .string ⟨#[109, 111, 110]⟩, val := .int .u64 1, born := 1 }, { key := .string ⟨#[116, 117, 101]⟩, val := .int .u64 2, born := 2 }, { key := .string ⟨#[119, 101, 100]⟩, val := .int .u64 3, born := 3 }, { key := .string ⟨#[116, 104, 117]⟩, val := .int .u64 4, born := 4 }, { key := .string ⟨#[102, 114, 105]⟩, val := .int .u64 5, born := 5 }, { key := .string ⟨#[115, 97, 116]⟩, val := .int .u64 6, born := 6 }] 7) := by
  have hmk : (Instr.makeMap 88 none).run Tryz.prog (w.alloc (.cells #[.int .u64 0, .int .u64 0, .map none] 90)) = .ok (.map (some (w.heap.size + 1))) ((w.alloc (.cells #[.int .u64 0, .int .u64 0, .map none] 90)).alloc (.map #[] 0)) := by
    have := run_newMap (w.alloc (.cells #[.int .u64 0, .int .u64 0, .map none] 90))
    rwa [World.size_alloc] at this
  have i0 : (Instr.mapUpdate 88 (.map (some (w.heap.size + 1))) (.string ⟨#[115, 117, 110]⟩) (.int .u64 0)).run Tryz.prog ((w.alloc (.cells #[.int .u64 0, .int .u64 0, .map none] 90)).alloc (.map #[] 0)) = .ok () ((w.alloc (.cells #[.int .u64 0, .int .u64 0, .map none] 90)).alloc (.map #[{ key := .string ⟨#[115, 117, 110]⟩, val := .int .u64 0, born := 0 }] 1)) :=
    run_insert_none (w.alloc (.cells #[.int .u64 0, .int .u64 0, .map none] 90)) _ (by rw [World.size_alloc]) #[] 0 ⟨#[115, 117, 110]⟩ (by decide) _ (by
      intro e he
      simp only [List.mem_cons, List.not_mem_nil, or_false] at he
)
  have i1 : (Instr.mapUpdate 88 (.map (some (w.heap.size + 1))) (.string ⟨#[109, 111, 110]⟩) (.int .u64 1)).run Tryz.prog ((w.alloc (.cells #[.int .u64 0, .int .u64 0, .map none] 90)).alloc (.map #[{ key := .string ⟨#[115, 117, 110]⟩, val := .int .u64 0, born := 0 }] 1)) = .ok () ((w.alloc (.cells #[.int .u64 0, .int .u64 0, .map none] 90)).alloc (.map #[{ key := .string ⟨#[115, 117, 110]⟩, val := .int .u64 0, born := 0 }, { key := .string ⟨#[109, 111, 110]⟩, val := .int .u64 1, born := 1 }] 2)) :=
    run_insert_none (w.alloc (.cells #[.int .u64 0, .int .u64 0, .map none] 90)) _ (by rw [World.size_alloc]) #[{ key := .string ⟨#[115, 117, 110]⟩, val := .int .u64 0, born := 0 }] 1 ⟨#[109, 111, 110]⟩ (by decide) _ (by
      intro e he
      simp only [List.mem_cons, List.not_mem_nil, or_false] at he
      rcases he with rfl
      all_goals exact ⟨_, rfl, by decide, by decide⟩)
  have i2 : (Instr.mapUpdate 88 (.map (some (w.heap.size + 1))) (.string ⟨#[116, 117, 101]⟩) (.int .u64 2)).run Tryz.prog ((w.alloc (.cells #[.int .u64 0, .int .u64 0, .map none] 90)).alloc (.map #[{ key := .string ⟨#[115, 117, 110]⟩, val := .int .u64 0, born := 0 }, { key := .string ⟨#[109, 111, 110]⟩, val := .int .u64 1, born := 1 }] 2)) = .ok () ((w.alloc (.cells #[.int .u64 0, .int .u64 0, .map none] 90)).alloc (.map #[{ key := .string ⟨#[115, 117, 110]⟩, val := .int .u64 0, born := 0 }, { key := .string ⟨#[109, 111, 110]⟩, val := .int .u64 1, born := 1 }, { key := .string ⟨#[116, 117, 101]⟩, val := .int .u64 2, born := 2 }] 3)) :=
    run_insert_none (w.alloc (.cells #[.int .u64 0, .int .u64 0, .map none] 90)) _ (by rw [World.size_alloc]) #[{ key := .string ⟨#[115, 117, 110]⟩, val := .int .u64 0, born := 0 }, { key := .string ⟨#[109, 111, 110]⟩, val := .int .u64 1, born := 1 }] 2 ⟨#[116, 117, 101]⟩ (by decide) _ (by
      intro e he
      simp only [List.mem_cons, List.not_mem_nil, or_false] at he
      rcases he with rfl | rfl
      all_goals exact ⟨_, rfl, by decide, by decide⟩)
  have i3 : (Instr.mapUpdate 88 (.map (some (w.heap.size + 1))) (.string ⟨#[119, 101, 100]⟩) (.int .u64 3)).run Tryz.prog ((w.alloc (.cells #[.int .u64 0, .int .u64 0, .map none] 90)).alloc (.map #[{ key := .string ⟨#[115, 117, 110]⟩, val := .int .u64 0, born := 0 }, { key := .string ⟨#[109, 111, 110]⟩, val := .int .u64 1, born := 1 }, { key := .string ⟨#[116, 117, 101]⟩, val := .int .u64 2, born := 2 }] 3)) = .ok () ((w.alloc (.cells #[.int .u64 0, .int .u64 0, .map none] 90)).alloc (.map #[{ key := .string ⟨#[115, 117, 110]⟩, val := .int .u64 0, born := 0 }, { key := .string ⟨#[109, 111, 110]⟩, val := .int .u64 1, born := 1 }, { key := .string ⟨#[116, 117, 101]⟩, val := .int .u64 2, born := 2 }, { key := .string ⟨#[119, 101, 100]⟩, val := .int .u64 3, born := 3 }] 4)) :=
    run_insert_none (w.alloc (.cells #[.int .u64 0, .int .u64 0, .map none] 90)) _ (by rw [World.size_alloc]) #[{ key := .string ⟨#[115, 117, 110]⟩, val := .int .u64 0, born := 0 }, { key := .string ⟨#[109, 111, 110]⟩, val := .int .u64 1, born := 1 }, { key := .string ⟨#[116, 117, 101]⟩, val := .int .u64 2, born := 2 }] 3 ⟨#[119, 101, 100]⟩ (by decide) _ (by
      intro e he
      simp only [List.mem_cons, List.not_mem_nil, or_false] at he
      rcases he with rfl | rfl | rfl
      all_goals exact ⟨_, rfl, by decide, by decide⟩)
  have i4 : (Instr.mapUpdate 88 (.map (some (w.heap.size + 1))) (.string ⟨#[116, 104, 117]⟩) (.int .u64 4)).run Tryz.prog ((w.alloc (.cells #[.int .u64 0, .int .u64 0, .map none] 90)).alloc (.map #[{ key := .string ⟨#[115, 117, 110]⟩, val := .int .u64 0, born := 0 }, { key := .string ⟨#[109, 111, 110]⟩, val := .int .u64 1, born := 1 }, { key := .string ⟨#[116, 117, 101]⟩, val := .int .u64 2, born := 2 }, { key := .string ⟨#[119, 101, 100]⟩, val := .int .u64 3, born := 3 }] 4)) = .ok () ((w.alloc (.cells #[.int .u64 0, .int .u64 0, .map none] 90)).alloc (.map #[{ key := .string ⟨#[115, 117, 110]⟩, val := .int .u64 0, born := 0 }, { key := .string ⟨#[109, 111, 110]⟩, val := .int .u64 1, born := 1 }, { key := .string ⟨#[116, 117, 101]⟩, val := .int .u64 2, born := 2 }, { key := .string ⟨#[119, 101, 100]⟩, val := .int .u64 3, born := 3 }, { key := .string ⟨#[116, 104, 117]⟩, val := .int .u64 4, born := 4 }] 5)) :=
    run_insert_none (w.alloc (.cells #[.int .u64 0, .int .u64 0, .map none] 90)) _ (by rw [World.size_alloc]) #[{ key := .string ⟨#[115, 117, 110]⟩, val := .int .u64 0, born := 0 }, { key := .string ⟨#[109, 111, 110]⟩, val := .int .u64 1, born := 1 }, { key := .string ⟨#[116, 117, 101]⟩, val := .int .u64 2, born := 2 }, { key := .string ⟨#[119, 101, 100]⟩, val := .int .u64 3, born := 3 }] 4 ⟨#[116, 104, 117]⟩ (by decide) _ (by
      intro e he
      simp only [List.mem_cons, List.not_mem_nil, or_false] at he
      rcases he with rfl | rfl | rfl | rfl
      all_goals exact ⟨_, rfl, by decide, by decide⟩)
  have i5 : (Instr.mapUpdate 88 (.map (some (w.heap.size + 1))) (.string ⟨#[102, 114, 105]⟩) (.int .u64 5)).run Tryz.prog ((w.alloc (.cells #[.int .u64 0, .int .u64 0, .map none] 90)).alloc (.map #[{ key := .string ⟨#[115, 117, 110]⟩, val := .int .u64 0, born := 0 }, { key := .string ⟨#[109, 111, 110]⟩, val := .int .u64 1, born := 1 }, { key := .string ⟨#[116, 117, 101]⟩, val := .int .u64 2, born := 2 }, { key := .string ⟨#[119, 101, 100]⟩, val := .int .u64 3, born := 3 }, { key := .string ⟨#[116, 104, 117]⟩, val := .int .u64 4, born := 4 }] 5)) = .ok () ((w.alloc (.cells #[.int .u64 0, .int .u64 0, .map none] 90)).alloc (.map #[{ key := .string ⟨#[115, 117, 110]⟩, val := .int .u64 0, born := 0 }, { key := .string ⟨#[109, 111, 110]⟩, val := .int .u64 1, born := 1 }, { key := .string ⟨#[116, 117, 101]⟩, val := .int .u64 2, born := 2 }, { key := .string ⟨#[119, 101, 100]⟩, val := .int .u64 3, born := 3 }, { key := .string ⟨#[116, 104, 117]⟩, val := .int .u64 4, born := 4 }, { key := .string ⟨#[102, 114, 105]⟩, val := .int .u64 5, born := 5 }] 6)) :=
    run_insert_none (w.alloc (.cells #[.int .u64 0, .int .u64 0, .map none] 90)) _ (by rw [World.size_alloc]) #[{ key := .string ⟨#[115, 117, 110]⟩, val := .int .u64 0, born := 0 }, { key := .string ⟨#[109, 111, 110]⟩, val := .int .u64 1, born := 1 }, { key := .string ⟨#[116, 117, 101]⟩, val := .int .u64 2, born := 2 }, { key := .string ⟨#[119, 101, 100]⟩, val := .int .u64 3, born := 3 }, { key := .string ⟨#[116, 104, 117]⟩, val := .int .u64 4, born := 4 }] 5 ⟨#[102, 114, 105]⟩ (by decide) _ (by
      intro e he
      simp only [List.mem_cons, List.not_mem_nil, or_false] at he
      rcases he with rfl | rfl | rfl | rfl | rfl
      all_goals exact ⟨_, rfl, by decide, by decide⟩)
  have i6 : (Instr.mapUpdate 88 (.map (some (w.heap.size + 1))) (.string ⟨#[115, 97, 116]⟩) (.int .u64 6)).run Tryz.prog ((w.alloc (.cells #[.int .u64 0, .int .u64 0, .map none] 90)).alloc (.map #[{ key := .string ⟨#[115, 117, 110]⟩, val := .int .u64 0, born := 0 }, { key := .string ⟨#[109, 111, 110]⟩, val := .int .u64 1, born := 1 }, { key := .string ⟨#[116, 117, 101]⟩, val := .int .u64 2, born := 2 }, { key := .string ⟨#[119, 101, 100]⟩, val := .int .u64 3, born := 3 }, { key := .string ⟨#[116, 104, 117]⟩, val := .int .u64 4, born := 4 }, { key := .string ⟨#[102, 114, 105]⟩, val := .int .u64 5, born := 5 }] 6)) = .ok () ((w.alloc (.cells #[.int .u64 0, .int .u64 0, .map none] 90)).alloc (.map #[{ key := .string ⟨#[115, 117, 110]⟩, val := .int .u64 0, born := 0 }, { key := .string ⟨#[109, 111, 110]⟩, val := .int .u64 1, born := 1 }, { key := .string ⟨#[116, 117, 101]⟩, val := .int .u64 2, born := 2 }, { key := .string ⟨#[119, 101, 100]⟩, val := .int .u64 3, born := 3 }, { key := .string ⟨#[116, 104, 117]⟩, val := .int .u64 4, born := 4 }, { key := .string ⟨#[102, 114, 105]⟩, val := .int .u64 5, born := 5 }, { key := .string ⟨#[115, 97, 116]⟩, val := .int .u64 6, born := 6 }] 7)) :=
    run_insert_none (w.alloc (.cells #[.int .u64 0, .int .u64 0, .map none] 90)) _ (by rw [World.size_alloc]) #[{ key := .string ⟨#[115, 117, 110]⟩, val := .int .u64 0, born := 0 }, { key := .string ⟨#[109, 111, 110]⟩, val := .int .u64 1, born := 1 }, { key := .string ⟨#[116, 117, 101]⟩, val := .int .u64 2, born := 2 }, { key := .string ⟨#[119, 101, 100]⟩, val := .int .u64 3, born := 3 }, { key := .string ⟨#[116, 104, 117]⟩, val := .int .u64 4, born := 4 }, { key := .string ⟨#[102, 114, 105]⟩, val := .int .u64 5, born := 5 }] 6 ⟨#[115, 97, 116]⟩ (by decide) _ (by
      intro e he
      simp only [List.mem_cons, List.not_mem_nil, or_false] at he
      rcases he with rfl | rfl | rfl | rfl | rfl | rfl
      all_goals exact ⟨_, rfl, by decide, by decide⟩)
  go_enter Tryz.func45, Tryz.ntmps45
  go_wp2_with fail
  go_returns
  exact ⟨rfl, rfl⟩

theorem getBits_one (lo hi : Nat) (w : World) (h1 : lo ≤ hi) (h2 : hi ≤ 63) :
    Calls Tryz.prog 75 #[.int .u64 lo, .int .u64 hi, .int .u64 1] w fun e w' => e = .returned (.int .u64 (gb lo hi 1 : Nat)) ∧ w = w' := by
  go_enter Tryz.func75, Tryz.ntmps75
  have hs : IntKind.u64.signed = false := rfl
  go_wp2
  go_ret
  refine ⟨?_, rfl⟩
  show Ending.returned (.int .u64 _) = _
  rw [shifted_one lo hi h1 h2]

theorem gb_star (a b c : Nat) (h : b ≤ 62) : bits .or .u64 ((gb a b c : Nat) : Int) 9223372036854775808 = ((gb a b c ||| 9223372036854775808 : Nat) : Int) :=
  Go.u64_or_nat (gb a b c) 9223372036854775808 (gbn_lt a c (b + 1) (by omega)) (by omega)

theorem all_any (lo hi : Nat) (mv : Value) (w : World) (h1 : lo ≤ hi) (h2 : hi ≤ 62) : Calls Tryz.prog 58 #[.agg #[.int .u64 lo, .int .u64 hi, mv]] w fun e w' => e = .returned (.int .u64 (gb lo hi 1 ||| 9223372036854775808 : Nat)) ∧ Below w.heap.size w w' := by
  have CB := hid (fun w => getBits_one lo hi w h1 (by omega))
  have o := gb_star lo hi 1 h2
  obtain ⟨v, hv⟩ : ∃ v, gb lo hi 1 = v := ⟨_, rfl⟩
  rw [hv] at CB o ⊢
  clear hv h1 h2
  go_enter Tryz.func58, Tryz.ntmps58
  go_wp2_with (go_at_call 75; refine (CB.out _).mono ?_; rintro e w' ⟨rfl, rfl⟩)
  go_ret
  exact ⟨rfl, by go_grown⟩

end Go.Proofs.YtjbafphoemibaaaGreatDoor
