/- spec.GoodTerms, laws.scGood, walked. -/
import Derived.Test.YtkohcmgckkenpaaDoorTmsF
set_option linter.unusedVariables false
set_option linter.unusedSimpArgs false
namespace Go.Proofs.YtkohcmgckkenpaaDoor
open Go.RowKit

/-- A list that is not too long, of good terms. -/
def GoodL (l : List Tm) : Prop := l ≠ [] ∧ l.length ≤ 24 ∧ ∀ t ∈ l, goodT t.o t.k t.a t.b t.c t.p = true

set_option maxHeartbeats 3200000 in
set_option maxRecDepth 100000 in
theorem goodTerms_any (ao : Option Addr) (L : List (List Tm)) (cp : Nat) (w : World) (hn : L.length ≤ 2147483647) (hp : ∀ l ∈ L, l.length ≤ 2147483647 ∧ ∀ t ∈ l, t.p.size ≤ 2147483647) (hL : LL w ao L) : Calls Tryd.prog 18 #[.slice ao L.length cp, .int .i64 24] w fun e w' =>
    Says e (0 < L.length ∧ L.length ≤ 24 ∧ ∀ l ∈ L, GoodL l) ∧ Below w.heap.size w w' := by
  obtain ⟨N, hN⟩ : ∃ N, L.length = N := ⟨_, rfl⟩
  rw [hN] at hn ⊢
  have HL := hid hL
  have HN := hid hN
  have HP := hid hp
  clear hL hN hp
  go_enter Tryd.func18, Tryd.ntmps18
  go_wp2_with fail
  go_loopw [12, 5] (fun i s wr => ∃ k n : Nat, k ≤ N ∧ i = .int .i64 k ∧ s = .int .i64 n ∧ k ≤ n ∧ n ≤ 24 ∧ (k = 0 → n = 0) ∧ Hid (∀ j l, j < k → L[j]? = some l → GoodL l) ∧ Hid (Below w.heap.size w wr)) (fun i _ _ => N - (intOf i).toNat)
  case atStart => exact ⟨0, 0, Nat.zero_le _, rfl, rfl, Nat.le_refl _, by omega, fun _ => rfl, (fun j l hj => absurd hj (Nat.not_lt_zero _) : ∀ j l, j < 0 → L[j]? = some l → GoodL l), Below.refl _ _⟩
  case round =>
    obtain ⟨k, n, hk, rfl, rfl, hkn, hn24, hz, G0, B0⟩ := hrel
    have HZ := hid hz
    clear hz
    rename World => wo
    by_cases hlt : k < N
    · obtain ⟨l, hl⟩ : ∃ l, L[k]? = some l := ⟨_, List.getElem?_eq_getElem (by rw [HN.out]; exact hlt)⟩
      obtain ⟨a, bo, cq, rfl, hc, hT⟩ := (HL.out.below B0.out) k l hl
      obtain ⟨hm0, hps⟩ := HP.out l (List.mem_of_getElem? hl)
      obtain ⟨m, hm⟩ : ∃ m, l.length = m := ⟨_, rfl⟩
      rw [hm] at hc hm0
      have HK := hid hl
      have HM := hid hm
      have HT := hid hT
      have HPS := hid hps
      clear hl hm hT hps
      have hw : IntKind.i64.wrap ((k : Int) + 1) = (k : Int) + 1 := IntWalk.i64_in _ (by omega)
      have hw3 : IntKind.i64.wrap ((n : Int) + (m : Int)) = ((n + m : Nat) : Int) := by rw [IntWalk.i64_in _ (by omega)]; omega
      go_wp2_with fail
      go_loopw [18] (fun j wr2 => ∃ q : Nat, q ≤ m ∧ j = .int .i64 q ∧ Hid (∀ i t, i < q → l[i]? = some t → goodT t.o t.k t.a t.b t.c t.p = true) ∧ Hid (Below wo.heap.size wo wr2)) (fun j _ => m - (intOf j).toNat)
      case atStart => exact ⟨0, Nat.zero_le _, rfl, (fun i t hi => absurd hi (Nat.not_lt_zero _) : ∀ i t, i < 0 → l[i]? = some t → goodT t.o t.k t.a t.b t.c t.p = true), Below.refl _ _⟩
      case round =>
        obtain ⟨q, hq, rfl, A1, B1⟩ := hrel
        by_cases hlt2 : q < m
        · obtain ⟨t, ht⟩ : ∃ t, l[q]? = some t := ⟨_, List.getElem?_eq_getElem (by rw [HM.out]; exact hlt2)⟩
          obtain ⟨b, rfl, c0, c1, c2, c3, c4, c5⟩ := (HT.out.below B1.out) q t ht
          have C := fun w => goodTerm_any t.o t.k t.a t.b t.c t.p w (HPS.out t (List.mem_of_getElem? ht))
          obtain ⟨r, hr⟩ : ∃ r, goodT t.o t.k t.a t.b t.c t.p = r := ⟨_, rfl⟩
          rw [hr] at C
          have CC := hid C
          have HR := hid hr
          have H1 := hid ht
          clear C hr ht
          have hw2 : IntKind.i64.wrap ((q : Int) + 1) = (q : Int) + 1 := IntWalk.i64_in _ (by omega)
          cases r with
          | true =>
            go_wp2_with (go_at_call 27; refine (CC.out _).mono ?_; rintro e w2 ⟨rfl, hb2⟩; have B2 := hid (bt (bt B1.out (by go_grown)) hb2); clear hb2)
            go_roundw
            case rel =>
              refine ⟨q + 1, by omega, by go_num, (fun i s hi hs => ?_ : ∀ i t, i < q + 1 → l[i]? = some t → goodT t.o t.k t.a t.b t.c t.p = true), B2.out⟩
              rcases Nat.lt_or_ge i q with h | h
              · exact A1.out i s h hs
              · obtain rfl : i = q := by omega
                obtain rfl : t = s := Option.some.inj (H1.out.symm.trans hs)
                exact HR.out
            case measure => simp [intOf]; omega
          | false =>
            go_wp2_with (go_at_call 27; refine (CC.out _).mono ?_; rintro e w2 ⟨rfl, hb2⟩; have B2 := hid (bt (bt B1.out (by go_grown)) hb2); clear hb2)
            go_ret
            exact ⟨⟨_, rfl, fun h => by cases h⟩, bt B0.out B2.out⟩
        · have hqm : q = m := by omega
          have GA : Hid (∀ t ∈ l, goodT t.o t.k t.a t.b t.c t.p = true) := hid fun t ht => by
            obtain ⟨j, hj⟩ := List.getElem?_of_mem ht
            exact A1.out j t (by have := (List.getElem?_eq_some_iff.1 hj).1; rw [HM.out] at this; omega) hj
          by_cases hm1 : m = 0
          · subst hm1
            go_wp2_with fail
            go_ret
            exact ⟨⟨_, rfl, fun h => by cases h⟩, bt B0.out B1.out⟩
          · have e0 : ((m : Int) == 0) = false := by simp; omega
            by_cases hs : n + m ≤ 24
            · have u1 : ¬ (24 : Int) < ((n + m : Nat) : Int) := by omega
              have HS := hid (show n + m ≤ 24 ∧ m ≠ 0 from ⟨hs, hm1⟩)
              clear hs hm1
              go_wp2_with fail
              go_roundw
              case rel =>
                have hs := HS.out
                refine ⟨k + 1, n + m, by omega, by go_num, by first | rfl | (rw [hw3]) | simp, by omega, by omega, by omega, (fun j s hj hs => ?_ : ∀ j l, j < k + 1 → L[j]? = some l → GoodL l), bt B0.out B1.out⟩
                rcases Nat.lt_or_ge j k with h | h
                · exact G0.out j s h hs
                · obtain rfl : j = k := by omega
                  obtain rfl : l = s := Option.some.inj (HK.out.symm.trans hs)
                  refine ⟨fun e => ?_, ?_, GA.out⟩
                  · have := HM.out
                    rw [e] at this
                    simp at this
                    omega
                  · rw [HM.out]; omega
              case measure => simp [intOf]; omega
            · have u1 : (24 : Int) < ((n + m : Nat) : Int) := by omega
              clear hs hm1
              go_wp2_with fail
              go_ret
              exact ⟨⟨_, rfl, fun h => by cases h⟩, bt B0.out B1.out⟩
    · have hkN : k = N := by omega
      go_wp2_with fail
      go_ret
      refine ⟨⟨_, rfl, fun h => ⟨?_, by omega, fun l hl => ?_⟩⟩, B0.out⟩
      · have hz := HZ.out
        have : (0 : Int) < (n : Int) := by simpa using h
        omega
      · obtain ⟨j, hj⟩ := List.getElem?_of_mem hl
        exact G0.out j l (by have := (List.getElem?_eq_some_iff.1 hj).1; rw [HN.out] at this; omega) hj

set_option maxHeartbeats 3200000 in
set_option maxRecDepth 100000 in
theorem scGood_any (ao : Option Addr) (L : List (List Tm)) (cp : Nat) (w : World) (hn : L.length ≤ 2147483647) (hp : ∀ l ∈ L, l.length ≤ 2147483647 ∧ ∀ t ∈ l, t.p.size ≤ 2147483647) (hL : LL w ao L) : Calls Tryd.prog 7 #[.slice ao L.length cp] w fun e w' =>
    Says e (0 < L.length ∧ L.length ≤ 24 ∧ ∀ l ∈ L, GoodL l) ∧ Below w.heap.size w w' := by
  have C := hid (goodTerms_any ao L cp w hn hp hL)
  obtain ⟨N, hN⟩ : ∃ N, L.length = N := ⟨_, rfl⟩
  rw [hN] at hn C ⊢
  have HL := hid hL
  have HN := hid hN
  have HP := hid hp
  clear hL hN hp
  go_enter Tryd.func7, Tryd.ntmps7
  go_wp2_with fail
  go_at_call 18
  refine C.out.mono ?_
  rintro e w1 ⟨⟨b, rfl, hs⟩, hb⟩
  have HB1 := hid hb
  clear hb
  cases b with
  | false =>
    clear hs
    go_wp2_with fail
    go_ret
    exact ⟨⟨_, rfl, fun h => by cases h⟩, HB1.out⟩
  | true =>
  have HS := hid (hs rfl)
  clear hs
  go_wp2_with fail
  go_loopw [12] (fun i wr => ∃ k : Nat, k ≤ N ∧ i = .int .i64 k ∧ Hid (Below w.heap.size w wr)) (fun i _ => N - (intOf i).toNat)
  case atStart => exact ⟨0, Nat.zero_le _, rfl, HB1.out⟩
  case round =>
    obtain ⟨k, hk, rfl, B0⟩ := hrel
    rename World => wo
    by_cases hlt : k < N
    · obtain ⟨l, hl⟩ : ∃ l, L[k]? = some l := ⟨_, List.getElem?_eq_getElem (by rw [HN.out]; exact hlt)⟩
      obtain ⟨a, bo, cq, rfl, hc, hT⟩ := (HL.out.below B0.out) k l hl
      obtain ⟨hm0, hps⟩ := HP.out l (List.mem_of_getElem? hl)
      obtain ⟨m, hm⟩ : ∃ m, l.length = m := ⟨_, rfl⟩
      rw [hm] at hc hm0
      have HM := hid hm
      have HT := hid hT
      clear hl hm hT hps
      have hw : IntKind.i64.wrap ((k : Int) + 1) = (k : Int) + 1 := IntWalk.i64_in _ (by omega)
      go_wp2_with fail
      go_loopw [18] (fun j wr2 => ∃ q : Nat, q ≤ m ∧ j = .int .i64 q ∧ Hid (Below wo.heap.size wo wr2)) (fun j _ => m - (intOf j).toNat)
      case atStart => exact ⟨0, Nat.zero_le _, rfl, Below.refl _ _⟩
      case round =>
        obtain ⟨q, hq, rfl, B1⟩ := hrel
        by_cases hlt2 : q < m
        · obtain ⟨t, ht⟩ : ∃ t, l[q]? = some t := ⟨_, List.getElem?_eq_getElem (by rw [HM.out]; exact hlt2)⟩
          obtain ⟨b, rfl, c0, c1, c2, c3, c4, c5⟩ := (HT.out.below B1.out) q t ht
          clear ht
          have hw2 : IntKind.i64.wrap ((q : Int) + 1) = (q : Int) + 1 := IntWalk.i64_in _ (by omega)
          by_cases h64 : t.p.size ≤ 64
          · have u1 : ¬ (64 : Int) < (t.p.size : Int) := by omega
            go_wp2_with fail
            go_roundw
            case rel => exact ⟨q + 1, by omega, by go_num, bt B1.out (by go_grown)⟩
            case measure => simp [intOf]; omega
          · have u1 : (64 : Int) < (t.p.size : Int) := by omega
            go_wp2_with fail
            go_ret
            exact ⟨⟨_, rfl, fun h => by cases h⟩, bt B0.out (bt B1.out (by go_grown))⟩
        · have hqm : q = m := by omega
          go_wp2_with fail
          go_roundw
          case rel => exact ⟨k + 1, by omega, by go_num, bt B0.out B1.out⟩
          case measure => simp [intOf]; omega
    · have hkN : k = N := by omega
      go_wp2_with fail
      go_ret
      exact ⟨⟨_, rfl, fun _ => HS.out⟩, B0.out⟩
end Go.Proofs.YtkohcmgckkenpaaDoor
