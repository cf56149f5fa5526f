/- The names of the months and of the days of the week, and the bounds of the six fields. Walked. -/
import Derived.Test.YtomkhhpigpilfaaGreatDoorNum
import Derived.StringKeys
set_option linter.unusedVariables false
set_option linter.unusedSimpArgs false
namespace Go.Proofs.YtomkhhpigpilfaaGreatDoor
open Go.RowKit

theorem run_newMap (W : World) : (Instr.makeMap 98 none).run Tryz.prog W = .ok (.map (some W.heap.size)) (W.alloc (.map #[] 0)) := by
  simp [Instr.makeMap, Sem.run_bind, newObj]
  rfl

/-- All keys are texts of a length that can be, none of them this one. -/
def NoKey (key : ByteArray) (es : List MapEntry) : Prop := ∀ e ∈ es, ∃ s : ByteArray, e.key = .string s ∧ s.size ≤ maxLen ∧ s ≠ key

theorem alloc_set (W : World) (o o' : Obj) : { W.alloc o with heap := (W.alloc o).heap.setIfInBounds W.heap.size o' } = W.alloc o' := by
  simp only [World.alloc]
  congr 1
  apply Array.ext'
  simp [Array.setIfInBounds, Array.toList_push]

set_option maxRecDepth 100000 in
theorem findKey_none (W : World) (key : ByteArray) (hz : key.size ≤ maxLen) (es : List MapEntry) (hs : NoKey key es) : (Instr.findKey 9 (.string key) es).run Tryz.prog W = .ok none W := by
  have law := WideMaps.string_law (P := Tryz.prog) (k := 9) Tryz.underlying9
  have hx := WideMaps.keyOf_string_mk (P := Tryz.prog) (k := 9) Tryz.underlying9 hz
  rcases law.find W hx es (fun e he => by
    obtain ⟨s, h1, h2, _⟩ := hs e he
    rw [h1]
    exact ⟨_, WideMaps.keyOf_string_mk Tryz.underlying9 h2⟩) with ⟨h, _⟩ | ⟨j, e, _, h2, h3⟩
  · exact h
  · obtain ⟨s, h1, _, h4⟩ := hs e (List.mem_of_getElem? h2)
    rw [h1] at h3
    exact absurd (Value.string.inj h3) h4

theorem get_map (W : World) (b : Nat) (es : Array MapEntry) (n : Nat) (hb : W.heap[b]? = some (.map es n)) : Sem.run Tryz.prog (Sem.getObj b Sem.pure) W = .ok (.map es n) W := by simp [Sem.run, hb]
theorem set_obj (W : World) (r : Nat) (es : Array MapEntry) (n : Nat) (hb : W.heap[r]? = some (.map es n)) (o : Obj) : Sem.run Tryz.prog (Sem.setObj r o (Sem.pure ())) W = .ok () { W with heap := W.heap.setIfInBounds r o } := by simp [Sem.run, hb]

theorem run_lookup_none (W : World) (b : Nat) (es : Array MapEntry) (n : Nat) (key : ByteArray) (hz : key.size ≤ maxLen) (hb : W.heap[b]? = some (.map es n)) (hs : NoKey key es.toList) :
    (Instr.lookup 98 (.map (some b)) (.string key) true).run Tryz.prog W = .ok (.tuple #[.int .u64 0, .bool false]) W := by
  have law := WideMaps.string_law (P := Tryz.prog) (k := 9) Tryz.underlying9
  have hx := WideMaps.keyOf_string_mk (P := Tryz.prog) (k := 9) Tryz.underlying9 hz
  have h1 := law.check W es.isEmpty hx
  have h2 := findKey_none W key hz es.toList hs
  have h3 : (zeroValue 97).run Tryz.prog W = .ok (.int .u64 0) W := by kernel_rfl
  have hg := get_map W b es n hb
  simp [Instr.lookup, hg, run_underlying Tryz.underlying98, getObj, hb, Sem.run_bind, h1, h2, h3]

theorem run_insert_none (W : World) (r : Nat) (hr : r = W.heap.size) (es : Array MapEntry) (n : Nat) (key : ByteArray) (hz : key.size ≤ maxLen) (v : Value) (hs : NoKey key es.toList) :
    (Instr.mapUpdate 98 (.map (some r)) (.string key) v).run Tryz.prog (W.alloc (.map es n)) = .ok () (W.alloc (.map (es.push { key := .string key, val := v, born := n }) (n + 1))) := by
  subst hr
  have law := WideMaps.string_law (P := Tryz.prog) (k := 9) Tryz.underlying9
  have hx := WideMaps.keyOf_string_mk (P := Tryz.prog) (k := 9) Tryz.underlying9 hz
  have h1 := law.check (W.alloc (.map es n)) false hx
  have h2 := findKey_none (W.alloc (.map es n)) key hz es.toList hs
  have hb : (W.alloc (.map es n)).heap[W.heap.size]? = some (.map es n) := heap_alloc_new W _
  have hg := get_map (W.alloc (.map es n)) W.heap.size es n hb
  have hset := set_obj (W.alloc (.map es n)) W.heap.size es n hb (.map (es.push { key := .string key, val := v, born := n }) (n + 1))
  rw [alloc_set] at hset
  simp [Instr.mapUpdate, run_underlying Tryz.underlying98, getObj, setObj, hg, Sem.run_bind, h1, h2, hset]

def monthsE : Array MapEntry := #[{ key := .string ⟨#[106, 97, 110]⟩, val := .int .u64 1, born := 0 }, { key := .string ⟨#[102, 101, 98]⟩, val := .int .u64 2, born := 1 }, { key := .string ⟨#[109, 97, 114]⟩, val := .int .u64 3, born := 2 }, { key := .string ⟨#[97, 112, 114]⟩, val := .int .u64 4, born := 3 }, { key := .string ⟨#[109, 97, 121]⟩, val := .int .u64 5, born := 4 }, { key := .string ⟨#[106, 117, 110]⟩, val := .int .u64 6, born := 5 }, { key := .string ⟨#[106, 117, 108]⟩, val := .int .u64 7, born := 6 }, { key := .string ⟨#[97, 117, 103]⟩, val := .int .u64 8, born := 7 }, { key := .string ⟨#[115, 101, 112]⟩, val := .int .u64 9, born := 8 }, { key := .string ⟨#[111, 99, 116]⟩, val := .int .u64 10, born := 9 }, { key := .string ⟨#[110, 111, 118]⟩, val := .int .u64 11, born := 10 }, { key := .string ⟨#[100, 101, 99]⟩, val := .int .u64 12, born := 11 }]
set_option maxRecDepth 100000 in
theorem noKey_months (n : Nat) : NoKey (dec n) monthsE.toList := by
  intro e he
  have hd := (dec_digits n).1
  simp only [monthsE, List.mem_cons, List.not_mem_nil, or_false] at he
  rcases he with rfl | rfl | rfl | rfl | rfl | rfl | rfl | rfl | rfl | rfl | rfl | rfl
  all_goals
    refine ⟨_, rfl, by decide, fun h => ?_⟩
    have h2 := congrArg (fun x : ByteArray => x.data.toList.all isDig) h
    have h3 : (dec n).data.toList.all isDig = true := hd
    simp only [h3] at h2
    exact absurd h2 (by decide)

set_option maxHeartbeats 3200000 in
set_option maxRecDepth 100000 in
theorem months_any (w : World) : Calls Tryz.prog 53 #[] w fun e w' => e = .returned (.agg #[.int .u64 1, .int .u64 12, .map (some (w.heap.size + 1))]) ∧ w' = (w.alloc (.cells #[.int .u64 1, .int .u64 12, .map (some (w.heap.size + 1))] 100)).alloc (.map #[{ key := .string ⟨#[106, 97, 110]⟩, val := .int .u64 1, born := 0 }, { key := .string ⟨#[102, 101, 98]⟩, val := .int .u64 2, born := 1 }, { key := .string ⟨#[109, 97, 114]⟩, val := .int .u64 3, born := 2 }, { key := .string ⟨#[97, 112, 114]⟩, val := .int .u64 4, born := 3 }, { key := .string ⟨#[109, 97, 121]⟩, val := .int .u64 5, born := 4 }, { key := .string ⟨#[106, 117, 110]⟩, val := .int .u64 6, born := 5 }, { key := .string ⟨#[106, 117, 108]⟩, val := .int .u64 7, born := 6 }, { key := .string ⟨#[97, 117, 103]⟩, val := .int .u64 8, born := 7 }, { key := .string ⟨#[115, 101, 112]⟩, val := .int .u64 9, born := 8 }, { key := .string ⟨#[111, 99, 116]⟩, val := .int .u64 10, born := 9 }, { key := .string ⟨#[110, 111, 118]⟩, val := .int .u64 11, born := 10 }, { key := .string ⟨#[100, 101, 99]⟩, val := .int .u64 12, born := 11 }] 12) := by
  have hmk : (Instr.makeMap 98 none).run Tryz.prog (w.alloc (.cells #[.int .u64 0, .int .u64 0, .map none] 100)) = .ok (.map (some (w.heap.size + 1))) ((w.alloc (.cells #[.int .u64 0, .int .u64 0, .map none] 100)).alloc (.map #[] 0)) := by
    have := run_newMap (w.alloc (.cells #[.int .u64 0, .int .u64 0, .map none] 100))
    rwa [World.size_alloc] at this
  have i0 : (Instr.mapUpdate 98 (.map (some (w.heap.size + 1))) (.string ⟨#[106, 97, 110]⟩) (.int .u64 1)).run Tryz.prog ((w.alloc (.cells #[.int .u64 0, .int .u64 0, .map none] 100)).alloc (.map #[] 0)) = .ok () ((w.alloc (.cells #[.int .u64 0, .int .u64 0, .map none] 100)).alloc (.map #[{ key := .string ⟨#[106, 97, 110]⟩, val := .int .u64 1, born := 0 }] 1)) :=
    run_insert_none (w.alloc (.cells #[.int .u64 0, .int .u64 0, .map none] 100)) _ (by rw [World.size_alloc]) #[] 0 ⟨#[106, 97, 110]⟩ (by decide) _ (by
      intro e he
      simp only [List.mem_cons, List.not_mem_nil, or_false] at he
)
  have i1 : (Instr.mapUpdate 98 (.map (some (w.heap.size + 1))) (.string ⟨#[102, 101, 98]⟩) (.int .u64 2)).run Tryz.prog ((w.alloc (.cells #[.int .u64 0, .int .u64 0, .map none] 100)).alloc (.map #[{ key := .string ⟨#[106, 97, 110]⟩, val := .int .u64 1, born := 0 }] 1)) = .ok () ((w.alloc (.cells #[.int .u64 0, .int .u64 0, .map none] 100)).alloc (.map #[{ key := .string ⟨#[106, 97, 110]⟩, val := .int .u64 1, born := 0 }, { key := .string ⟨#[102, 101, 98]⟩, val := .int .u64 2, born := 1 }] 2)) :=
    run_insert_none (w.alloc (.cells #[.int .u64 0, .int .u64 0, .map none] 100)) _ (by rw [World.size_alloc]) #[{ key := .string ⟨#[106, 97, 110]⟩, val := .int .u64 1, born := 0 }] 1 ⟨#[102, 101, 98]⟩ (by decide) _ (by
      intro e he
      simp only [List.mem_cons, List.not_mem_nil, or_false] at he
      rcases he with rfl
      all_goals exact ⟨_, rfl, by decide, by decide⟩)
  have i2 : (Instr.mapUpdate 98 (.map (some (w.heap.size + 1))) (.string ⟨#[109, 97, 114]⟩) (.int .u64 3)).run Tryz.prog ((w.alloc (.cells #[.int .u64 0, .int .u64 0, .map none] 100)).alloc (.map #[{ key := .string ⟨#[106, 97, 110]⟩, val := .int .u64 1, born := 0 }, { key := .string ⟨#[102, 101, 98]⟩, val := .int .u64 2, born := 1 }] 2)) = .ok () ((w.alloc (.cells #[.int .u64 0, .int .u64 0, .map none] 100)).alloc (.map #[{ key := .string ⟨#[106, 97, 110]⟩, val := .int .u64 1, born := 0 }, { key := .string ⟨#[102, 101, 98]⟩, val := .int .u64 2, born := 1 }, { key := .string ⟨#[109, 97, 114]⟩, val := .int .u64 3, born := 2 }] 3)) :=
    run_insert_none (w.alloc (.cells #[.int .u64 0, .int .u64 0, .map none] 100)) _ (by rw [World.size_alloc]) #[{ key := .string ⟨#[106, 97, 110]⟩, val := .int .u64 1, born := 0 }, { key := .string ⟨#[102, 101, 98]⟩, val := .int .u64 2, born := 1 }] 2 ⟨#[109, 97, 114]⟩ (by decide) _ (by
      intro e he
      simp only [List.mem_cons, List.not_mem_nil, or_false] at he
      rcases he with rfl | rfl
      all_goals exact ⟨_, rfl, by decide, by decide⟩)
  have i3 : (Instr.mapUpdate 98 (.map (some (w.heap.size + 1))) (.string ⟨#[97, 112, 114]⟩) (.int .u64 4)).run Tryz.prog ((w.alloc (.cells #[.int .u64 0, .int .u64 0, .map none] 100)).alloc (.map #[{ key := .string ⟨#[106, 97, 110]⟩, val := .int .u64 1, born := 0 }, { key := .string ⟨#[102, 101, 98]⟩, val := .int .u64 2, born := 1 }, { key := .string ⟨#[109, 97, 114]⟩, val := .int .u64 3, born := 2 }] 3)) = .ok () ((w.alloc (.cells #[.int .u64 0, .int .u64 0, .map none] 100)).alloc (.map #[{ key := .string ⟨#[106, 97, 110]⟩, val := .int .u64 1, born := 0 }, { key := .string ⟨#[102, 101, 98]⟩, val := .int .u64 2, born := 1 }, { key := .string ⟨#[109, 97, 114]⟩, val := .int .u64 3, born := 2 }, { key := .string ⟨#[97, 112, 114]⟩, val := .int .u64 4, born := 3 }] 4)) :=
    run_insert_none (w.alloc (.cells #[.int .u64 0, .int .u64 0, .map none] 100)) _ (by rw [World.size_alloc]) #[{ key := .string ⟨#[106, 97, 110]⟩, val := .int .u64 1, born := 0 }, { key := .string ⟨#[102, 101, 98]⟩, val := .int .u64 2, born := 1 }, { key := .string ⟨#[109, 97, 114]⟩, val := .int .u64 3, born := 2 }] 3 ⟨#[97, 112, 114]⟩ (by decide) _ (by
      intro e he
      simp only [List.mem_cons, List.not_mem_nil, or_false] at he
      rcases he with rfl | rfl | rfl
      all_goals exact ⟨_, rfl, by decide, by decide⟩)
  have i4 : (Instr.mapUpdate 98 (.map (some (w.heap.size + 1))) (.string ⟨#[109, 97, 121]⟩) (.int .u64 5)).run Tryz.prog ((w.alloc (.cells #[.int .u64 0, .int .u64 0, .map none] 100)).alloc (.map #[{ key := .string ⟨#[106, 97, 110]⟩, val := .int .u64 1, born := 0 }, { key := .string ⟨#[102, 101, 98]⟩, val := .int .u64 2, born := 1 }, { key := .string ⟨#[109, 97, 114]⟩, val := .int .u64 3, born := 2 }, { key := .string ⟨#[97, 112, 114]⟩, val := .int .u64 4, born := 3 }] 4)) = .ok () ((w.alloc (.cells #[.int .u64 0, .int .u64 0, .map none] 100)).alloc (.map #[{ key := .string ⟨#[106, 97, 110]⟩, val := .int .u64 1, born := 0 }, { key := .string ⟨#[102, 101, 98]⟩, val := .int .u64 2, born := 1 }, { key := .string ⟨#[109, 97, 114]⟩, val := .int .u64 3, born := 2 }, { key := .string ⟨#[97, 112, 114]⟩, val := .int .u64 4, born := 3 }, { key := .string ⟨#[109, 97, 121]⟩, val := .int .u64 5, born := 4 }] 5)) :=
    run_insert_none (w.alloc (.cells #[.int .u64 0, .int .u64 0, .map none] 100)) _ (by rw [World.size_alloc]) #[{ key := .string ⟨#[106, 97, 110]⟩, val := .int .u64 1, born := 0 }, { key := .string ⟨#[102, 101, 98]⟩, val := .int .u64 2, born := 1 }, { key := .string ⟨#[109, 97, 114]⟩, val := .int .u64 3, born := 2 }, { key := .string ⟨#[97, 112, 114]⟩, val := .int .u64 4, born := 3 }] 4 ⟨#[109, 97, 121]⟩ (by decide) _ (by
      intro e he
      simp only [List.mem_cons, List.not_mem_nil, or_false] at he
      rcases he with rfl | rfl | rfl | rfl
      all_goals exact ⟨_, rfl, by decide, by decide⟩)
  have i5 : (Instr.mapUpdate 98 (.map (some (w.heap.size + 1))) (.string ⟨#[106, 117, 110]⟩) (.int .u64 6)).run Tryz.prog ((w.alloc (.cells #[.int .u64 0, .int .u64 0, .map none] 100)).alloc (.map #[{ key := .string ⟨#[106, 97, 110]⟩, val := .int .u64 1, born := 0 }, { key := .string ⟨#[102, 101, 98]⟩, val := .int .u64 2, born := 1 }, { key := .string ⟨#[109, 97, 114]⟩, val := .int .u64 3, born := 2 }, { key := .string ⟨#[97, 112, 114]⟩, val := .int .u64 4, born := 3 }, { key := .string ⟨#[109, 97, 121]⟩, val := .int .u64 5, born := 4 }] 5)) = .ok () ((w.alloc (.cells #[.int .u64 0, .int .u64 0, .map none] 100)).alloc (.map #[{ key := .string ⟨#[106, 97, 110]⟩, val := .int .u64 1, born := 0 }, { key := .string ⟨#[102, 101, 98]⟩, val := .int .u64 2, born := 1 }, { key := .string ⟨#[109, 97, 114]⟩, val := .int .u64 3, born := 2 }, { key := .string ⟨#[97, 112, 114]⟩, val := .int .u64 4, born := 3 }, { key := .string ⟨#[109, 97, 121]⟩, val := .int .u64 5, born := 4 }, { key := .string ⟨#[106, 117, 110]⟩, val := .int .u64 6, born := 5 }] 6)) :=
    run_insert_none (w.alloc (.cells #[.int .u64 0, .int .u64 0, .map none] 100)) _ (by rw [World.size_alloc]) #[{ key := .string ⟨#[106, 97, 110]⟩, val := .int .u64 1, born := 0 }, { key := .string ⟨#[102, 101, 98]⟩, val := .int .u64 2, born := 1 }, { key := .string ⟨#[109, 97, 114]⟩, val := .int .u64 3, born := 2 }, { key := .string ⟨#[97, 112, 114]⟩, val := .int .u64 4, born := 3 }, { key := .string ⟨#[109, 97, 121]⟩, val := .int .u64 5, born := 4 }] 5 ⟨#[106, 117, 110]⟩ (by decide) _ (by
      intro e he
      simp only [List.mem_cons, List.not_mem_nil, or_false] at he
      rcases he with rfl | rfl | rfl | rfl | rfl
      all_goals exact ⟨_, rfl, by decide, by decide⟩)
  have i6 : (Instr.mapUpdate 98 (.map (some (w.heap.size + 1))) (.string ⟨#[106, 117, 108]⟩) (.int .u64 7)).run Tryz.prog ((w.alloc (.cells #[.int .u64 0, .int .u64 0, .map none] 100)).alloc (.map #[{ key := .string ⟨#[106, 97, 110]⟩, val := .int .u64 1, born := 0 }, { key := .string ⟨#[102, 101, 98]⟩, val := .int .u64 2, born := 1 }, { key := .string ⟨#[109, 97, 114]⟩, val := .int .u64 3, born := 2 }, { key := .string ⟨#[97, 112, 114]⟩, val := .int .u64 4, born := 3 }, { key := .string ⟨#[109, 97, 121]⟩, val := .int .u64 5, born := 4 }, { key := .string ⟨#[106, 117, 110]⟩, val := .int .u64 6, born := 5 }] 6)) = .ok () ((w.alloc (.cells #[.int .u64 0, .int .u64 0, .map none] 100)).alloc (.map #[{ key := .string ⟨#[106, 97, 110]⟩, val := .int .u64 1, born := 0 }, { key := .string ⟨#[102, 101, 98]⟩, val := .int .u64 2, born := 1 }, { key := .string ⟨#[109, 97, 114]⟩, val := .int .u64 3, born := 2 }, { key := .string ⟨#[97, 112, 114]⟩, val := .int .u64 4, born := 3 }, { key := .string ⟨#[109, 97, 121]⟩, val := .int .u64 5, born := 4 }, { key := .string ⟨#[106, 117, 110]⟩, val := .int .u64 6, born := 5 }, { key := .string ⟨#[106, 117, 108]⟩, val := .int .u64 7, born := 6 }] 7)) :=
    run_insert_none (w.alloc (.cells #[.int .u64 0, .int .u64 0, .map none] 100)) _ (by rw [World.size_alloc]) #[{ key := .string ⟨#[106, 97, 110]⟩, val := .int .u64 1, born := 0 }, { key := .string ⟨#[102, 101, 98]⟩, val := .int .u64 2, born := 1 }, { key := .string ⟨#[109, 97, 114]⟩, val := .int .u64 3, born := 2 }, { key := .string ⟨#[97, 112, 114]⟩, val := .int .u64 4, born := 3 }, { key := .string ⟨#[109, 97, 121]⟩, val := .int .u64 5, born := 4 }, { key := .string ⟨#[106, 117, 110]⟩, val := .int .u64 6, born := 5 }] 6 ⟨#[106, 117, 108]⟩ (by decide) _ (by
      intro e he
      simp only [List.mem_cons, List.not_mem_nil, or_false] at he
      rcases he with rfl | rfl | rfl | rfl | rfl | rfl
      all_goals exact ⟨_, rfl, by decide, by decide⟩)
  have i7 : (Instr.mapUpdate 98 (.map (some (w.heap.size + 1))) (.string ⟨#[97, 117, 103]⟩) (.int .u64 8)).run Tryz.prog ((w.alloc (.cells #[.int .u64 0, .int .u64 0, .map none] 100)).alloc (.map #[{ key := .string ⟨#[106, 97, 110]⟩, val := .int .u64 1, born := 0 }, { key := .string ⟨#[102, 101, 98]⟩, val := .int .u64 2, born := 1 }, { key := .string ⟨#[109, 97, 114]⟩, val := .int .u64 3, born := 2 }, { key := .string ⟨#[97, 112, 114]⟩, val := .int .u64 4, born := 3 }, { key := .string ⟨#[109, 97, 121]⟩, val := .int .u64 5, born := 4 }, { key := .string ⟨#[106, 117, 110]⟩, val := .int .u64 6, born := 5 }, { key := .string ⟨#[106, 117, 108]⟩, val := .int .u64 7, born := 6 }] 7)) = .ok () ((w.alloc (.cells #[.int .u64 0, .int .u64 0, .map none] 100)).alloc (.map #[{ key := .string ⟨#[106, 97, 110]⟩, val := .int .u64 1, born := 0 }, { key := .string ⟨#[102, 101, 98]⟩, val := .int .u64 2, born := 1 }, { key := .string ⟨#[109, 97, 114]⟩, val := .int .u64 3, born := 2 }, { key := .string ⟨#[97, 112, 114]⟩, val := .int .u64 4, born := 3 }, { key := .string ⟨#[109, 97, 121]⟩, val := .int .u64 5, born := 4 }, { key := .string ⟨#[106, 117, 110]⟩, val := .int .u64 6, born := 5 }, { key := .string ⟨#[106, 117, 108]⟩, val := .int .u64 7, born := 6 }, { key := .string ⟨#[97, 117, 103]⟩, val := .int .u64 8, born := 7 }] 8)) :=
    run_insert_none (w.alloc (.cells #[.int .u64 0, .int .u64 0, .map none] 100)) _ (by rw [World.size_alloc]) #[{ key := .string ⟨#[106, 97, 110]⟩, val := .int .u64 1, born := 0 }, { key := .string ⟨#[102, 101, 98]⟩, val := .int .u64 2, born := 1 }, { key := .string ⟨#[109, 97, 114]⟩, val := .int .u64 3, born := 2 }, { key := .string ⟨#[97, 112, 114]⟩, val := .int .u64 4, born := 3 }, { key := .string ⟨#[109, 97, 121]⟩, val := .int .u64 5, born := 4 }, { key := .string ⟨#[106, 117, 110]⟩, val := .int .u64 6, born := 5 }, { key := .string ⟨#[106, 117, 108]⟩, val := .int .u64 7, born := 6 }] 7 ⟨#[97, 117, 103]⟩ (by decide) _ (by
      intro e he
      simp only [List.mem_cons, List.not_mem_nil, or_false] at he
      rcases he with rfl | rfl | rfl | rfl | rfl | rfl | rfl
      all_goals exact ⟨_, rfl, by decide, by decide⟩)
  have i8 : (Instr.mapUpdate 98 (.map (some (w.heap.size + 1))) (.string ⟨#[115, 101, 112]⟩) (.int .u64 9)).run Tryz.prog ((w.alloc (.cells #[.int .u64 0, .int .u64 0, .map none] 100)).alloc (.map #[{ key := .string ⟨#[106, 97, 110]⟩, val := .int .u64 1, born := 0 }, { key := .string ⟨#[102, 101, 98]⟩, val := .int .u64 2, born := 1 }, { key := .string ⟨#[109, 97, 114]⟩, val := .int .u64 3, born := 2 }, { key := .string ⟨#[97, 112, 114]⟩, val := .int .u64 4, born := 3 }, { key := .string ⟨#[109, 97, 121]⟩, val := .int .u64 5, born := 4 }, { key := .string ⟨#[106, 117, 110]⟩, val := .int .u64 6, born := 5 }, { key := .string ⟨#[106, 117, 108]⟩, val := .int .u64 7, born := 6 }, { key := .string ⟨#[97, 117, 103]⟩, val := .int .u64 8, born := 7 }] 8)) = .ok () ((w.alloc (.cells #[.int .u64 0, .int .u64 0, .map none] 100)).alloc (.map #[{ key := .string ⟨#[106, 97, 110]⟩, val := .int .u64 1, born := 0 }, { key := .string ⟨#[102, 101, 98]⟩, val := .int .u64 2, born := 1 }, { key := .string ⟨#[109, 97, 114]⟩, val := .int .u64 3, born := 2 }, { key := .string ⟨#[97, 112, 114]⟩, val := .int .u64 4, born := 3 }, { key := .string ⟨#[109, 97, 121]⟩, val := .int .u64 5, born := 4 }, { key := .string ⟨#[106, 117, 110]⟩, val := .int .u64 6, born := 5 }, { key := .string ⟨#[106, 117, 108]⟩, val := .int .u64 7, born := 6 }, { key := .string ⟨#[97, 117, 103]⟩, val := .int .u64 8, born := 7 }, { key := .string ⟨#[115, 101, 112]⟩, val := .int .u64 9, born := 8 }] 9)) :=
    run_insert_none (w.alloc (.cells #[.int .u64 0, .int .u64 0, .map none] 100)) _ (by rw [World.size_alloc]) #[{ key := .string ⟨#[106, 97, 110]⟩, val := .int .u64 1, born := 0 }, { key := .string ⟨#[102, 101, 98]⟩, val := .int .u64 2, born := 1 }, { key := .string ⟨#[109, 97, 114]⟩, val := .int .u64 3, born := 2 }, { key := .string ⟨#[97, 112, 114]⟩, val := .int .u64 4, born := 3 }, { key := .string ⟨#[109, 97, 121]⟩, val := .int .u64 5, born := 4 }, { key := .string ⟨#[106, 117, 110]⟩, val := .int .u64 6, born := 5 }, { key := .string ⟨#[106, 117, 108]⟩, val := .int .u64 7, born := 6 }, { key := .string ⟨#[97, 117, 103]⟩, val := .int .u64 8, born := 7 }] 8 ⟨#[115, 101, 112]⟩ (by decide) _ (by
      intro e he
      simp only [List.mem_cons, List.not_mem_nil, or_false] at he
      rcases he with rfl | rfl | rfl | rfl | rfl | rfl | rfl | rfl
      all_goals exact ⟨_, rfl, by decide, by decide⟩)
  have i9 : (Instr.mapUpdate 98 (.map (some (w.heap.size + 1))) (.string ⟨#[111, 99, 116]⟩) (.int .u64 10)).run Tryz.prog ((w.alloc (.cells #[.int .u64 0, .int .u64 0, .map none] 100)).alloc (.map #[{ key := .string ⟨#[106, 97, 110]⟩, val := .int .u64 1, born := 0 }, { key := .string ⟨#[102, 101, 98]⟩, val := .int .u64 2, born := 1 }, { key := .string ⟨#[109, 97, 114]⟩, val := .int .u64 3, born := 2 }, { key := .string ⟨#[97, 112, 114]⟩, val := .int .u64 4, born := 3 }, { key := .string ⟨#[109, 97, 121]⟩, val := .int .u64 5, born := 4 }, { key := .string ⟨#[106, 117, 110]⟩, val := .int .u64 6, born := 5 }, { key := .string ⟨#[106, 117, 108]⟩, val := .int .u64 7, born := 6 }, { key := .string ⟨#[97, 117, 103]⟩, val := .int .u64 8, born := 7 }, { key := .string ⟨#[115, 101, 112]⟩, val := .int .u64 9, born := 8 }] 9)) = .ok () ((w.alloc (.cells #[.int .u64 0, .int .u64 0, .map none] 100)).alloc (.map #[{ key := .string ⟨#[106, 97, 110]⟩, val := .int .u64 1, born := 0 }, { key := .string ⟨#[102, 101, 98]⟩, val := .int .u64 2, born := 1 }, { key := .string ⟨#[109, 97, 114]⟩, val := .int .u64 3, born := 2 }, { key := .string ⟨#[97, 112, 114]⟩, val := .int .u64 4, born := 3 }, { key := .string ⟨#[109, 97, 121]⟩, val := .int .u64 5, born := 4 }, { key := .string ⟨#[106, 117, 110]⟩, val := .int .u64 6, born := 5 }, { key := .string ⟨#[106, 117, 108]⟩, val := .int .u64 7, born := 6 }, { key := .string ⟨#[97, 117, 103]⟩, val := .int .u64 8, born := 7 }, { key := .string ⟨#[115, 101, 112]⟩, val := .int .u64 9, born := 8 }, { key := .string ⟨#[111, 99, 116]⟩, val := .int .u64 10, born := 9 }] 10)) :=
    run_insert_none (w.alloc (.cells #[.int .u64 0, .int .u64 0, .map none] 100)) _ (by rw [World.size_alloc]) #[{ key := .string ⟨#[106, 97, 110]⟩, val := .int .u64 1, born := 0 }, { key := .string ⟨#[102, 101, 98]⟩, val := .int .u64 2, born := 1 }, { key := .string ⟨#[109, 97, 114]⟩, val := .int .u64 3, born := 2 }, { key := .string ⟨#[97, 112, 114]⟩, val := .int .u64 4, born := 3 }, { key := .string ⟨#[109, 97, 121]⟩, val := .int .u64 5, born := 4 }, { key := .string ⟨#[106, 117, 110]⟩, val := .int .u64 6, born := 5 }, { key := .string ⟨#[106, 117, 108]⟩, val := .int .u64 7, born := 6 }, { key := .string ⟨#[97, 117, 103]⟩, val := .int .u64 8, born := 7 }, { key := .string ⟨#[115, 101, 112]⟩, val := .int .u64 9, born := 8 }] 9 ⟨#[111, 99, 116]⟩ (by decide) _ (by
      intro e he
      simp only [List.mem_cons, List.not_mem_nil, or_false] at he
      rcases he with rfl | rfl | rfl | rfl | rfl | rfl | rfl | rfl | rfl
      all_goals exact ⟨_, rfl, by decide, by decide⟩)
  have i10 : (Instr.mapUpdate 98 (.map (some (w.heap.size + 1))) (.string ⟨#[110, 111, 118]⟩) (.int .u64 11)).run Tryz.prog ((w.alloc (.cells #[.int .u64 0, .int .u64 0, .map none] 100)).alloc (.map #[{ key := .string ⟨#[106, 97, 110]⟩, val := .int .u64 1, born := 0 }, { key := .string ⟨#[102, 101, 98]⟩, val := .int .u64 2, born := 1 }, { key := .string ⟨#[109, 97, 114]⟩, val := .int .u64 3, born := 2 }, { key := .string ⟨#[97, 112, 114]⟩, val := .int .u64 4, born := 3 }, { key := .string ⟨#[109, 97, 121]⟩, val := .int .u64 5, born := 4 }, { key := .string ⟨#[106, 117, 110]⟩, val := .int .u64 6, born := 5 }, { key := .string ⟨#[106, 117, 108]⟩, val := .int .u64 7, born := 6 }, { key := .string ⟨#[97, 117, 103]⟩, val := .int .u64 8, born := 7 }, { key := .string ⟨#[115, 101, 112]⟩, val := .int .u64 9, born := 8 }, { key := .string ⟨#[111, 99, 116]⟩, val := .int .u64 10, born := 9 }] 10)) = .ok () ((w.alloc (.cells #[.int .u64 0, .int .u64 0, .map none] 100)).alloc (.map #[{ key := .string ⟨#[106, 97, 110]⟩, val := .int .u64 1, born := 0 }, { key := .string ⟨#[102, 101, 98]⟩, val := .int .u64 2, born := 1 }, { key := .string ⟨#[109, 97, 114]⟩, val := .int .u64 3, born := 2 }, { key := .string ⟨#[97, 112, 114]⟩, val := .int .u64 4, born := 3 }, { key := .string ⟨#[109, 97, 121]⟩, val := .int .u64 5, born := 4 }, { key := .string ⟨#[106, 117, 110]⟩, val := .int .u64 6, born := 5 }, { key := .string ⟨#[106, 117, 108]⟩, val := .int .u64 7, born := 6 }, { key := .string ⟨#[97, 117, 103]⟩, val := .int .u64 8, born := 7 }, { key := .string ⟨#[115, 101, 112]⟩, val := .int .u64 9, born := 8 }, { key := .string ⟨#[111, 99, 116]⟩, val := .int .u64 10, born := 9 }, { key := .string ⟨#[110, 111, 118]⟩, val := .int .u64 11, born := 10 }] 11)) :=
    run_insert_none (w.alloc (.cells #[.int .u64 0, .int .u64 0, .map none] 100)) _ (by rw [World.size_alloc]) #[{ key := .string ⟨#[106, 97, 110]⟩, val := .int .u64 1, born := 0 }, { key := .string ⟨#[102, 101, 98]⟩, val := .int .u64 2, born := 1 }, { key := .string ⟨#[109, 97, 114]⟩, val := .int .u64 3, born := 2 }, { key := .string ⟨#[97, 112, 114]⟩, val := .int .u64 4, born := 3 }, { key := .string ⟨#[109, 97, 121]⟩, val := .int .u64 5, born := 4 }, { key := .string ⟨#[106, 117, 110]⟩, val := .int .u64 6, born := 5 }, { key := .string ⟨#[106, 117, 108]⟩, val := .int .u64 7, born := 6 }, { key := .string ⟨#[97, 117, 103]⟩, val := .int .u64 8, born := 7 }, { key := .string ⟨#[115, 101, 112]⟩, val := .int .u64 9, born := 8 }, { key := .string ⟨#[111, 99, 116]⟩, val := .int .u64 10, born := 9 }] 10 ⟨#[110, 111, 118]⟩ (by decide) _ (by
      intro e he
      simp only [List.mem_cons, List.not_mem_nil, or_false] at he
      rcases he with rfl | rfl | rfl | rfl | rfl | rfl | rfl | rfl | rfl | rfl
      all_goals exact ⟨_, rfl, by decide, by decide⟩)
  have i11 : (Instr.mapUpdate 98 (.map (some (w.heap.size + 1))) (.string ⟨#[100, 101, 99]⟩) (.int .u64 12)).run Tryz.prog ((w.alloc (.cells #[.int .u64 0, .int .u64 0, .map none] 100)).alloc (.map #[{ key := .string ⟨#[106, 97, 110]⟩, val := .int .u64 1, born := 0 }, { key := .string ⟨#[102, 101, 98]⟩, val := .int .u64 2, born := 1 }, { key := .string ⟨#[109, 97, 114]⟩, val := .int .u64 3, born := 2 }, { key := .string ⟨#[97, 112, 114]⟩, val := .int .u64 4, born := 3 }, { key := .string ⟨#[109, 97, 121]⟩, val := .int .u64 5, born := 4 }, { key := .string ⟨#[106, 117, 110]⟩, val := .int .u64 6, born := 5 }, { key := .string ⟨#[106, 117, 108]⟩, val := .int .u64 7, born := 6 }, { key := .string ⟨#[97, 117, 103]⟩, val := .int .u64 8, born := 7 }, { key := .string ⟨#[115, 101, 112]⟩, val := .int .u64 9, born := 8 }, { key := .string ⟨#[111, 99, 116]⟩, val := .int .u64 10, born := 9 }, { key := .string ⟨#[110, 111, 118]⟩, val := .int .u64 11, born := 10 }] 11)) = .ok () ((w.alloc (.cells #[.int .u64 0, .int .u64 0, .map none] 100)).alloc (.map #[{ key := .string ⟨#[106, 97, 110]⟩, val := .int .u64 1, born := 0 }, { key := .string ⟨#[102, 101, 98]⟩, val := .int .u64 2, born := 1 }, { key := .string ⟨#[109, 97, 114]⟩, val := .int .u64 3, born := 2 }, { key := .string ⟨#[97, 112, 114]⟩, val := .int .u64 4, born := 3 }, { key := .string ⟨#[109, 97, 121]⟩, val := .int .u64 5, born := 4 }, { key := .string ⟨#[106, 117, 110]⟩, val := .int .u64 6, born := 5 }, { key := .string ⟨#[106, 117, 108]⟩, val := .int .u64 7, born := 6 }, { key := .string ⟨#[97, 117, 103]⟩, val := .int .u64 8, born := 7 }, { key := .string ⟨#[115, 101, 112]⟩, val := .int .u64 9, born := 8 }, { key := .string ⟨#[111, 99, 116]⟩, val := .int .u64 10, born := 9 }, { key := .string ⟨#[110, 111, 118]⟩, val := .int .u64 11, born := 10 }, { key := .string ⟨#[100, 101, 99]⟩, val := .int .u64 12, born := 11 }] 12)) :=
    run_insert_none (w.alloc (.cells #[.int .u64 0, .int .u64 0, .map none] 100)) _ (by rw [World.size_alloc]) #[{ key := .string ⟨#[106, 97, 110]⟩, val := .int .u64 1, born := 0 }, { key := .string ⟨#[102, 101, 98]⟩, val := .int .u64 2, born := 1 }, { key := .string ⟨#[109, 97, 114]⟩, val := .int .u64 3, born := 2 }, { key := .string ⟨#[97, 112, 114]⟩, val := .int .u64 4, born := 3 }, { key := .string ⟨#[109, 97, 121]⟩, val := .int .u64 5, born := 4 }, { key := .string ⟨#[106, 117, 110]⟩, val := .int .u64 6, born := 5 }, { key := .string ⟨#[106, 117, 108]⟩, val := .int .u64 7, born := 6 }, { key := .string ⟨#[97, 117, 103]⟩, val := .int .u64 8, born := 7 }, { key := .string ⟨#[115, 101, 112]⟩, val := .int .u64 9, born := 8 }, { key := .string ⟨#[111, 99, 116]⟩, val := .int .u64 10, born := 9 }, { key := .string ⟨#[110, 111, 118]⟩, val := .int .u64 11, born := 10 }] 11 ⟨#[100, 101, 99]⟩ (by decide) _ (by
      intro e he
      simp only [List.mem_cons, List.not_mem_nil, or_false] at he
      rcases he with rfl | rfl | rfl | rfl | rfl | rfl | rfl | rfl | rfl | rfl | rfl
      all_goals exact ⟨_, rfl, by decide, by decide⟩)
  go_enter Tryz.func53, Tryz.ntmps53
  go_wp2_with fail
  go_returns
  exact ⟨rfl, rfl⟩

def dowE : Array MapEntry := #[{ key := .string ⟨#[115, 117, 110]⟩, val := .int .u64 0, born := 0 }, { key := .string ⟨#[109, 111, 110]⟩, val := .int .u64 1, born := 1 }, { key := .string ⟨#[116, 117, 101]⟩, val := .int .u64 2, born := 2 }, { key := .string ⟨#[119, 101, 100]⟩, val := .int .u64 3, born := 3 }, { key := .string ⟨#[116, 104, 117]⟩, val := .int .u64 4, born := 4 }, { key := .string ⟨#[102, 114, 105]⟩, val := .int .u64 5, born := 5 }, { key := .string ⟨#[115, 97, 116]⟩, val := .int .u64 6, born := 6 }]
set_option maxRecDepth 100000 in
theorem noKey_dow (n : Nat) : NoKey (dec n) dowE.toList := by
  intro e he
  have hd := (dec_digits n).1
  simp only [dowE, List.mem_cons, List.not_mem_nil, or_false] at he
  rcases he with rfl | rfl | rfl | rfl | rfl | rfl | rfl
  all_goals
    refine ⟨_, rfl, by decide, fun h => ?_⟩
    have h2 := congrArg (fun x : ByteArray => x.data.toList.all isDig) h
    have h3 : (dec n).data.toList.all isDig = true := hd
    simp only [h3] at h2
    exact absurd h2 (by decide)

set_option maxHeartbeats 3200000 in
set_option maxRecDepth 100000 in
theorem dow_any (w : World) : Calls Tryz.prog 54 #[] w fun e w' => e = .returned (.agg #[.int .u64 0, .int .u64 6, .map (some (w.heap.size + 1))]) ∧ w' = (w.alloc (.cells #[.int .u64 0, .int .u64 6, .map (some (w.heap.size + 1))] 100)).alloc (.map #[{ key := .string ⟨#[115, 117, 110]⟩, val := .int .u64 0, born := 0 }, { key := .string ⟨#[109, 111, 110]⟩, val := .int .u64 1, born := 1 }, { key := .string ⟨#[116, 117, 101]⟩, val := .int .u64 2, born := 2 }, { key := .string ⟨#[119, 101, 100]⟩, val := .int .u64 3, born := 3 }, { key := .string ⟨#[116, 104, 117]⟩, val := .int .u64 4, born := 4 }, { key := .string ⟨#[102, 114, 105]⟩, val := .int .u64 5, born := 5 }, { key := .string ⟨#[115, 97, 116]⟩, val := .int .u64 6, born := 6 }] 7) := by
  have hmk : (Instr.makeMap 98 none).run Tryz.prog (w.alloc (.cells #[.int .u64 0, .int .u64 0, .map none] 100)) = .ok (.map (some (w.heap.size + 1))) ((w.alloc (.cells #[.int .u64 0, .int .u64 0, .map none] 100)).alloc (.map #[] 0)) := by
    have := run_newMap (w.alloc (.cells #[.int .u64 0, .int .u64 0, .map none] 100))
    rwa [World.size_alloc] at this
  have i0 : (Instr.mapUpdate 98 (.map (some (w.heap.size + 1))) (.string ⟨#[115, 117, 110]⟩) (.int .u64 0)).run Tryz.prog ((w.alloc (.cells #[.int .u64 0, .int .u64 0, .map none] 100)).alloc (.map #[] 0)) = .ok () ((w.alloc (.cells #[.int .u64 0, .int .u64 0, .map none] 100)).alloc (.map #[{ key := .string ⟨#[115, 117, 110]⟩, val := .int .u64 0, born := 0 }] 1)) :=
    run_insert_none (w.alloc (.cells #[.int .u64 0, .int .u64 0, .map none] 100)) _ (by rw [World.size_alloc]) #[] 0 ⟨#[115, 117, 110]⟩ (by decide) _ (by
      intro e he
      simp only [List.mem_cons, List.not_mem_nil, or_false] at he
)
  have i1 : (Instr.mapUpdate 98 (.map (some (w.heap.size + 1))) (.string ⟨#[109, 111, 110]⟩) (.int .u64 1)).run Tryz.prog ((w.alloc (.cells #[.int .u64 0, .int .u64 0, .map none] 100)).alloc (.map #[{ key := .string ⟨#[115, 117, 110]⟩, val := .int .u64 0, born := 0 }] 1)) = .ok () ((w.alloc (.cells #[.int .u64 0, .int .u64 0, .map none] 100)).alloc (.map #[{ key := .string ⟨#[115, 117, 110]⟩, val := .int .u64 0, born := 0 }, { key := .string ⟨#[109, 111, 110]⟩, val := .int .u64 1, born := 1 }] 2)) :=
    run_insert_none (w.alloc (.cells #[.int .u64 0, .int .u64 0, .map none] 100)) _ (by rw [World.size_alloc]) #[{ key := .string ⟨#[115, 117, 110]⟩, val := .int .u64 0, born := 0 }] 1 ⟨#[109, 111, 110]⟩ (by decide) _ (by
      intro e he
      simp only [List.mem_cons, List.not_mem_nil, or_false] at he
      rcases he with rfl
      all_goals exact ⟨_, rfl, by decide, by decide⟩)
  have i2 : (Instr.mapUpdate 98 (.map (some (w.heap.size + 1))) (.string ⟨#[116, 117, 101]⟩) (.int .u64 2)).run Tryz.prog ((w.alloc (.cells #[.int .u64 0, .int .u64 0, .map none] 100)).alloc (.map #[{ key := .string ⟨#[115, 117, 110]⟩, val := .int .u64 0, born := 0 }, { key := .string ⟨#[109, 111, 110]⟩, val := .int .u64 1, born := 1 }] 2)) = .ok () ((w.alloc (.cells #[.int .u64 0, .int .u64 0, .map none] 100)).alloc (.map #[{ key := .string ⟨#[115, 117, 110]⟩, val := .int .u64 0, born := 0 }, { key := .string ⟨#[109, 111, 110]⟩, val := .int .u64 1, born := 1 }, { key := .string ⟨#[116, 117, 101]⟩, val := .int .u64 2, born := 2 }] 3)) :=
    run_insert_none (w.alloc (.cells #[.int .u64 0, .int .u64 0, .map none] 100)) _ (by rw [World.size_alloc]) #[{ key := .string ⟨#[115, 117, 110]⟩, val := .int .u64 0, born := 0 }, { key := .string ⟨#[109, 111, 110]⟩, val := .int .u64 1, born := 1 }] 2 ⟨#[116, 117, 101]⟩ (by decide) _ (by
      intro e he
      simp only [List.mem_cons, List.not_mem_nil, or_false] at he
      rcases he with rfl | rfl
      all_goals exact ⟨_, rfl, by decide, by decide⟩)
  have i3 : (Instr.mapUpdate 98 (.map (some (w.heap.size + 1))) (.string ⟨#[119, 101, 100]⟩) (.int .u64 3)).run Tryz.prog ((w.alloc (.cells #[.int .u64 0, .int .u64 0, .map none] 100)).alloc (.map #[{ key := .string ⟨#[115, 117, 110]⟩, val := .int .u64 0, born := 0 }, { key := .string ⟨#[109, 111, 110]⟩, val := .int .u64 1, born := 1 }, { key := .string ⟨#[116, 117, 101]⟩, val := .int .u64 2, born := 2 }] 3)) = .ok () ((w.alloc (.cells #[.int .u64 0, .int .u64 0, .map none] 100)).alloc (.map #[{ key := .string ⟨#[115, 117, 110]⟩, val := .int .u64 0, born := 0 }, { key := .string ⟨#[109, 111, 110]⟩, val := .int .u64 1, born := 1 }, { key := .string ⟨#[116, 117, 101]⟩, val := .int .u64 2, born := 2 }, { key := .string ⟨#[119, 101, 100]⟩, val := .int .u64 3, born := 3 }] 4)) :=
    run_insert_none (w.alloc (.cells #[.int .u64 0, .int .u64 0, .map none] 100)) _ (by rw [World.size_alloc]) #[{ key := .string ⟨#[115, 117, 110]⟩, val := .int .u64 0, born := 0 }, { key := .string ⟨#[109, 111, 110]⟩, val := .int .u64 1, born := 1 }, { key := .string ⟨#[116, 117, 101]⟩, val := .int .u64 2, born := 2 }] 3 ⟨#[119, 101, 100]⟩ (by decide) _ (by
      intro e he
      simp only [List.mem_cons, List.not_mem_nil, or_false] at he
      rcases he with rfl | rfl | rfl
      all_goals exact ⟨_, rfl, by decide, by decide⟩)
  have i4 : (Instr.mapUpdate 98 (.map (some (w.heap.size + 1))) (.string ⟨#[116, 104, 117]⟩) (.int .u64 4)).run Tryz.prog ((w.alloc (.cells #[.int .u64 0, .int .u64 0, .map none] 100)).alloc (.map #[{ key := .string ⟨#[115, 117, 110]⟩, val := .int .u64 0, born := 0 }, { key := .string ⟨#[109, 111, 110]⟩, val := .int .u64 1, born := 1 }, { key := .string ⟨#[116, 117, 101]⟩, val := .int .u64 2, born := 2 }, { key := .string ⟨#[119, 101, 100]⟩, val := .int .u64 3, born := 3 }] 4)) = .ok () ((w.alloc (.cells #[.int .u64 0, .int .u64 0, .map none] 100)).alloc (.map #[{ key := .string ⟨#[115, 117, 110]⟩, val := .int .u64 0, born := 0 }, { key := .string ⟨#[109, 111, 110]⟩, val := .int .u64 1, born := 1 }, { key := .string ⟨#[116, 117, 101]⟩, val := .int .u64 2, born := 2 }, { key := .string ⟨#[119, 101, 100]⟩, val := .int .u64 3, born := 3 }, { key := .string ⟨#[116, 104, 117]⟩, val := .int .u64 4, born := 4 }] 5)) :=
    run_insert_none (w.alloc (.cells #[.int .u64 0, .int .u64 0, .map none] 100)) _ (by rw [World.size_alloc]) #[{ key := .string ⟨#[115, 117, 110]⟩, val := .int .u64 0, born := 0 }, { key := .string ⟨#[109, 111, 110]⟩, val := .int .u64 1, born := 1 }, { key := .string ⟨#[116, 117, 101]⟩, val := .int .u64 2, born := 2 }, { key := .string ⟨#[119, 101, 100]⟩, val := .int .u64 3, born := 3 }] 4 ⟨#[116, 104, 117]⟩ (by decide) _ (by
      intro e he
      simp only [List.mem_cons, List.not_mem_nil, or_false] at he
      rcases he with rfl | rfl | rfl | rfl
      all_goals exact ⟨_, rfl, by decide, by decide⟩)
  have i5 : (Instr.mapUpdate 98 (.map (some (w.heap.size + 1))) (.string ⟨#[102, 114, 105]⟩) (.int .u64 5)).run Tryz.prog ((w.alloc (.cells #[.int .u64 0, .int .u64 0, .map none] 100)).alloc (.map #[{ key := .string ⟨#[115, 117, 110]⟩, val := .int .u64 0, born := 0 }, { key := .string ⟨#[109, 111, 110]⟩, val := .int .u64 1, born := 1 }, { key := .string ⟨#[116, 117, 101]⟩, val := .int .u64 2, born := 2 }, { key := .string ⟨#[119, 101, 100]⟩, val := .int .u64 3, born := 3 }, { key := .string ⟨#[116, 104, 117]⟩, val := .int .u64 4, born := 4 }] 5)) = .ok () ((w.alloc (.cells #[.int .u64 0, .int .u64 0, .map none] 100)).alloc (.map #[{ key := .string ⟨#[115, 117, 110]⟩, val := .int .u64 0, born := 0 }, { key := .string ⟨#[109, 111, 110]⟩, val := .int .u64 1, born := 1 }, { key := .string ⟨#[116, 117, 101]⟩, val := .int .u64 2, born := 2 }, { key := .string ⟨#[119, 101, 100]⟩, val := .int .u64 3, born := 3 }, { key := .string ⟨#[116, 104, 117]⟩, val := .int .u64 4, born := 4 }, { key := .string ⟨#[102, 114, 105]⟩, val := .int .u64 5, born := 5 }] 6)) :=
    run_insert_none (w.alloc (.cells #[.int .u64 0, .int .u64 0, .map none] 100)) _ (by rw [World.size_alloc]) #[{ key := .string ⟨#[115, 117, 110]⟩, val := .int .u64 0, born := 0 }, { key := .string ⟨#[109, 111, 110]⟩, val := .int .u64 1, born := 1 }, { key := .string ⟨#[116, 117, 101]⟩, val := .int .u64 2, born := 2 }, { key := .string ⟨#[119, 101, 100]⟩, val := .int .u64 3, born := 3 }, { key := .string ⟨#[116, 104, 117]⟩, val := .int .u64 4, born := 4 }] 5 ⟨#[102, 114, 105]⟩ (by decide) _ (by
      intro e he
      simp only [List.mem_cons, List.not_mem_nil, or_false] at he
      rcases he with rfl | rfl | rfl | rfl | rfl
      all_goals exact ⟨_, rfl, by decide, by decide⟩)
  have i6 : (Instr.mapUpdate 98 (.map (some (w.heap.size + 1))) (.string ⟨#[115, 97, 116]⟩) (.int .u64 6)).run Tryz.prog ((w.alloc (.cells #[.int .u64 0, .int .u64 0, .map none] 100)).alloc (.map #[{ key := .string ⟨#[115, 117, 110]⟩, val := .int .u64 0, born := 0 }, { key := .string ⟨#[109, 111, 110]⟩, val := .int .u64 1, born := 1 }, { key := .string ⟨#[116, 117, 101]⟩, val := .int .u64 2, born := 2 }, { key := .string ⟨#[119, 101, 100]⟩, val := .int .u64 3, born := 3 }, { key := .string ⟨#[116, 104, 117]⟩, val := .int .u64 4, born := 4 }, { key := .string ⟨#[102, 114, 105]⟩, val := .int .u64 5, born := 5 }] 6)) = .ok () ((w.alloc (.cells #[.int .u64 0, .int .u64 0, .map none] 100)).alloc (.map #[{ key := .string ⟨#[115, 117, 110]⟩, val := .int .u64 0, born := 0 }, { key := .string ⟨#[109, 111, 110]⟩, val := .int .u64 1, born := 1 }, { key := .string ⟨#[116, 117, 101]⟩, val := .int .u64 2, born := 2 }, { key := .string ⟨#[119, 101, 100]⟩, val := .int .u64 3, born := 3 }, { key := .string ⟨#[116, 104, 117]⟩, val := .int .u64 4, born := 4 }, { key := .string ⟨#[102, 114, 105]⟩, val := .int .u64 5, born := 5 }, { key := .string ⟨#[115, 97, 116]⟩, val := .int .u64 6, born := 6 }] 7)) :=
    run_insert_none (w.alloc (.cells #[.int .u64 0, .int .u64 0, .map none] 100)) _ (by rw [World.size_alloc]) #[{ key := .string ⟨#[115, 117, 110]⟩, val := .int .u64 0, born := 0 }, { key := .string ⟨#[109, 111, 110]⟩, val := .int .u64 1, born := 1 }, { key := .string ⟨#[116, 117, 101]⟩, val := .int .u64 2, born := 2 }, { key := .string ⟨#[119, 101, 100]⟩, val := .int .u64 3, born := 3 }, { key := .string ⟨#[116, 104, 117]⟩, val := .int .u64 4, born := 4 }, { key := .string ⟨#[102, 114, 105]⟩, val := .int .u64 5, born := 5 }] 6 ⟨#[115, 97, 116]⟩ (by decide) _ (by
      intro e he
      simp only [List.mem_cons, List.not_mem_nil, or_false] at he
      rcases he with rfl | rfl | rfl | rfl | rfl | rfl
      all_goals exact ⟨_, rfl, by decide, by decide⟩)
  go_enter Tryz.func54, Tryz.ntmps54
  go_wp2_with fail
  go_returns
  exact ⟨rfl, rfl⟩
end Go.Proofs.YtomkhhpigpilfaaGreatDoor
