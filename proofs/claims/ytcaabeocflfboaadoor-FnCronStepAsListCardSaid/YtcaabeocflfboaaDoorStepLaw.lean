/- The law FnCronStepAsList: a range with a step is the list of its values. Joined. -/
import Derived.Test.YtcaabeocflfboaaDoorStepP
import Derived.Test.YtcaabeocflfboaaDoorApp
import Derived.Deep.LoopGhost
set_option linter.unusedVariables false
set_option linter.unusedSimpArgs false
namespace Go.Proofs.YtcaabeocflfboaaDoor
open Go.RowKit

theorem own_below {w w' : World} {B : Nat} {e : TypeId} {size n : Nat} {v : Value} {xs : List Value} (h : w.ownsRow B e size v n xs) (hb : Below w.heap.size w w') : w'.ownsRow B e size v n xs := by
  obtain ⟨h1, h2⟩ := h
  refine ⟨h1, ?_⟩
  rcases h2 with h2 | ⟨g, cap, cur, a, b, c, d⟩
  · exact .inl h2
  · exact .inr ⟨g, cap, cur, a, b, (hb.block g (Array.getElem?_eq_some_iff.1 c).1).trans c, d⟩

theorem field_list (k lo hi st : Nat) (hk : k ≤ 5) (h1 : kLo k ≤ lo) (h2 : lo ≤ hi) (h3 : hi ≤ kHi k) (h4 : 1 ≤ st) (w : World) :
    Calls Tryd.prog 19 #[.int .i64 k, .string (jn (vl lo st ((hi - lo) / st + 1)) ((hi - lo) / st + 1))] w fun e w' => e = .returned (.tuple #[.int .u64 (gb lo hi st : Nat), .bool true]) ∧ Below w.heap.size w w' := by
  have hh := kHi_le k
  have hv : ∀ i, i < (hi - lo) / st + 1 → lo + i * st ≤ hi := by
    intro j hj
    have : j * st ≤ hi - lo := Nat.le_trans (Nat.mul_le_mul_right st (show j ≤ (hi - lo) / st by omega)) (Nat.div_mul_le_self _ _)
    omega
  have hm : (hi - lo) / st + 1 ≤ 60 := by
    have := Nat.div_le_self (hi - lo) st
    omega
  obtain ⟨q, hq⟩ : ∃ q, (hi - lo) / st = q := ⟨_, rfl⟩
  have hor := or_values lo hi st h2 (by omega) h4
  rw [hq] at hv hm hor ⊢
  have hlen := vl_len lo st (q + 1)
  have hcut : cut 44 (jn (vl lo st (q + 1)) (q + 1)).toList = (vl lo st (q + 1)).map (·.toList) := by
    have := jn_cut (vl lo st (q + 1)) (fun x hx => by obtain ⟨i, _, rfl⟩ := vl_mem hx; exact dec_free 44 (by decide) _) q (by omega)
    rwa [List.take_of_length_le (by omega)] at this
  have hsz : (jn (vl lo st (q + 1)) (q + 1)).size ≤ 21 * (q + 1) := jn_size _ (fun x hx => by obtain ⟨i, hi', rfl⟩ := vl_mem hx; exact dec_size _ (by have := hv i hi'; omega)) (q + 1) (by omega)
  have hasc := jn_ascii (vl lo st (q + 1)) (fun x hx => by obtain ⟨i, _, rfl⟩ := vl_mem hx; rw [dec_list]; exact dig_ascii (dec_digits _).1) (q + 1) (by omega)
  refine (cronField_any k hk (jn (vl lo st (q + 1)) (q + 1)) one w (by omega) (ascii_of hasc) (by rw [hcut]; intro p hp; obtain ⟨x, hx, rfl⟩ := List.mem_map.1 hp; obtain ⟨i, _, rfl⟩ := vl_mem hx; exact dec_ne _) one_lt ?_).mono ?_
  · intro mv M hM hP x hx w hw
    rw [hcut] at hx
    obtain ⟨y, hy, e⟩ := List.mem_map.1 hx
    obtain ⟨i, hi', rfl⟩ := vl_mem hy
    obtain rfl := bytes_inj e
    have hvi := hv i hi'
    have := rangeN_one (dec (lo + i * st)) (dec (lo + i * st)) (kLo k) (kHi k) (lo + i * st) w mv M hM hw (by have := dec_size (lo + i * st) (by omega); omega) (hP _ (by omega)) (dec_not 42 (by decide) _) (dec_not 63 (by decide) _) (by omega) (by omega) (by omega) (dec_free 47 (by decide) _) (dec_free 45 (by decide) _) rfl
    rw [one_dec _ (by omega)]
    exact this
  · rintro e w' ⟨xs, hx, rfl, hb⟩
    rw [hcut] at hx
    rw [map_inj hx, hor]
    exact ⟨rfl, hb⟩

theorem low_any (k : Nat) (hk : k ≤ 5) (w : World) : Calls Tryd.prog 17 #[.int .i64 k] w fun e w' => e = .returned (.int .i64 (kLo k : Nat)) ∧ w = w' := by
  match k, hk with
  | 0, _ | 1, _ | 2, _ | 3, _ | 4, _ | 5, _ =>
    go_enter Tryd.func17, Tryd.ntmps17
    go_wp2
    go_ret
    exact ⟨rfl, rfl⟩
  | k + 6, h => omega
theorem high_any (k : Nat) (hk : k ≤ 5) (w : World) : Calls Tryd.prog 18 #[.int .i64 k] w fun e w' => e = .returned (.int .i64 (kHi k : Nat)) ∧ w = w' := by
  match k, hk with
  | 0, _ | 1, _ | 2, _ | 3, _ | 4, _ | 5, _ =>
    go_enter Tryd.func18, Tryd.ntmps18
    go_wp2
    go_ret
    exact ⟨rfl, rfl⟩
  | k + 6, h => omega

theorem step_out_neg (k lo hi st : Int) (w : World) (h0 : ¬ (0 : Int) ≤ k) : Calls Tryd.prog 6 #[.int .i64 k, .int .i64 lo, .int .i64 hi, .int .i64 st] w fun e w' => e = .returned (.bool true) ∧ Below w.heap.size w w' := by
  go_enter Tryd.func6, Tryd.ntmps6
  go_wp2_with (go_at_call 12; go_in)
  go_ret
  exact ⟨rfl, Below.refl _ _⟩

theorem step_out_six (k lo hi st : Int) (w : World) (h0 : (0 : Int) ≤ k) (h1 : ¬ k < 6) : Calls Tryd.prog 6 #[.int .i64 k, .int .i64 lo, .int .i64 hi, .int .i64 st] w fun e w' => e = .returned (.bool true) ∧ Below w.heap.size w w' := by
  go_enter Tryd.func6, Tryd.ntmps6
  go_wp2_with (go_at_call 12; go_in)
  go_ret
  exact ⟨rfl, Below.refl _ _⟩

theorem step_out_0 (k : Nat) (lo hi st : Int) (kl kh : Nat) (w : World) (h0 : (0 : Int) ≤ (k : Int)) (h1 : (k : Int) < 6) (hL : Hid (∀ w, Calls Tryd.prog 17 #[.int .i64 k] w fun e w' => e = .returned (.int .i64 kl) ∧ w = w')) (hH : Hid (∀ w, Calls Tryd.prog 18 #[.int .i64 k] w fun e w' => e = .returned (.int .i64 kh) ∧ w = w'))  (b0 : lo < (kl : Int)) : Calls Tryd.prog 6 #[.int .i64 k, .int .i64 lo, .int .i64 hi, .int .i64 st] w fun e w' => e = .returned (.bool true) ∧ Below w.heap.size w w' := by
  go_enter Tryd.func6, Tryd.ntmps6
  go_wp2_with (first | (go_at_call 12; go_in) | (go_at_call 17; refine (hL.out _).mono ?_; rintro e w' ⟨rfl, rfl⟩) | (go_at_call 18; refine (hH.out _).mono ?_; rintro e w' ⟨rfl, rfl⟩))
  go_ret
  exact ⟨rfl, Below.refl _ _⟩

theorem step_out_1 (k : Nat) (lo hi st : Int) (kl kh : Nat) (w : World) (h0 : (0 : Int) ≤ (k : Int)) (h1 : (k : Int) < 6) (hL : Hid (∀ w, Calls Tryd.prog 17 #[.int .i64 k] w fun e w' => e = .returned (.int .i64 kl) ∧ w = w')) (hH : Hid (∀ w, Calls Tryd.prog 18 #[.int .i64 k] w fun e w' => e = .returned (.int .i64 kh) ∧ w = w')) (b0 : ¬ lo < (kl : Int)) (b1 : (kh : Int) < hi) : Calls Tryd.prog 6 #[.int .i64 k, .int .i64 lo, .int .i64 hi, .int .i64 st] w fun e w' => e = .returned (.bool true) ∧ Below w.heap.size w w' := by
  go_enter Tryd.func6, Tryd.ntmps6
  go_wp2_with (first | (go_at_call 12; go_in) | (go_at_call 17; refine (hL.out _).mono ?_; rintro e w' ⟨rfl, rfl⟩) | (go_at_call 18; refine (hH.out _).mono ?_; rintro e w' ⟨rfl, rfl⟩))
  go_ret
  exact ⟨rfl, Below.refl _ _⟩

theorem step_out_2 (k : Nat) (lo hi st : Int) (kl kh : Nat) (w : World) (h0 : (0 : Int) ≤ (k : Int)) (h1 : (k : Int) < 6) (hL : Hid (∀ w, Calls Tryd.prog 17 #[.int .i64 k] w fun e w' => e = .returned (.int .i64 kl) ∧ w = w')) (hH : Hid (∀ w, Calls Tryd.prog 18 #[.int .i64 k] w fun e w' => e = .returned (.int .i64 kh) ∧ w = w')) (b0 : ¬ lo < (kl : Int)) (b1 : ¬ (kh : Int) < hi) (b2 : hi < lo) : Calls Tryd.prog 6 #[.int .i64 k, .int .i64 lo, .int .i64 hi, .int .i64 st] w fun e w' => e = .returned (.bool true) ∧ Below w.heap.size w w' := by
  go_enter Tryd.func6, Tryd.ntmps6
  go_wp2_with (first | (go_at_call 12; go_in) | (go_at_call 17; refine (hL.out _).mono ?_; rintro e w' ⟨rfl, rfl⟩) | (go_at_call 18; refine (hH.out _).mono ?_; rintro e w' ⟨rfl, rfl⟩))
  go_ret
  exact ⟨rfl, Below.refl _ _⟩

theorem step_out_3 (k : Nat) (lo hi st : Int) (kl kh : Nat) (w : World) (h0 : (0 : Int) ≤ (k : Int)) (h1 : (k : Int) < 6) (hL : Hid (∀ w, Calls Tryd.prog 17 #[.int .i64 k] w fun e w' => e = .returned (.int .i64 kl) ∧ w = w')) (hH : Hid (∀ w, Calls Tryd.prog 18 #[.int .i64 k] w fun e w' => e = .returned (.int .i64 kh) ∧ w = w')) (b0 : ¬ lo < (kl : Int)) (b1 : ¬ (kh : Int) < hi) (b2 : ¬ hi < lo) (b3 : st < 1) : Calls Tryd.prog 6 #[.int .i64 k, .int .i64 lo, .int .i64 hi, .int .i64 st] w fun e w' => e = .returned (.bool true) ∧ Below w.heap.size w w' := by
  go_enter Tryd.func6, Tryd.ntmps6
  go_wp2_with (first | (go_at_call 12; go_in) | (go_at_call 17; refine (hL.out _).mono ?_; rintro e w' ⟨rfl, rfl⟩) | (go_at_call 18; refine (hH.out _).mono ?_; rintro e w' ⟨rfl, rfl⟩))
  go_ret
  exact ⟨rfl, Below.refl _ _⟩

theorem step_out_4 (k : Nat) (lo hi st : Int) (kl kh : Nat) (w : World) (h0 : (0 : Int) ≤ (k : Int)) (h1 : (k : Int) < 6) (hL : Hid (∀ w, Calls Tryd.prog 17 #[.int .i64 k] w fun e w' => e = .returned (.int .i64 kl) ∧ w = w')) (hH : Hid (∀ w, Calls Tryd.prog 18 #[.int .i64 k] w fun e w' => e = .returned (.int .i64 kh) ∧ w = w')) (b0 : ¬ lo < (kl : Int)) (b1 : ¬ (kh : Int) < hi) (b2 : ¬ hi < lo) (b3 : ¬ st < 1) (b4 : 2147483648 < st) : Calls Tryd.prog 6 #[.int .i64 k, .int .i64 lo, .int .i64 hi, .int .i64 st] w fun e w' => e = .returned (.bool true) ∧ Below w.heap.size w w' := by
  go_enter Tryd.func6, Tryd.ntmps6
  go_wp2_with (first | (go_at_call 12; go_in) | (go_at_call 17; refine (hL.out _).mono ?_; rintro e w' ⟨rfl, rfl⟩) | (go_at_call 18; refine (hH.out _).mono ?_; rintro e w' ⟨rfl, rfl⟩))
  go_ret
  exact ⟨rfl, Below.refl _ _⟩

set_option maxHeartbeats 3200000 in
set_option maxRecDepth 100000 in
theorem step_in (k lo hi st m kl kh G : Nat) (w : World) (h0 : (0 : Int) ≤ (k : Int)) (h1 : (k : Int) < 6) (hL : Hid (∀ w, Calls Tryd.prog 17 #[.int .i64 k] w fun e w' => e = .returned (.int .i64 kl) ∧ w = w')) (hH : Hid (∀ w, Calls Tryd.prog 18 #[.int .i64 k] w fun e w' => e = .returned (.int .i64 kh) ∧ w = w'))
    (b0 : ¬ (lo : Int) < (kl : Int)) (b1 : ¬ (kh : Int) < (hi : Int)) (b2 : ¬ (hi : Int) < (lo : Int)) (b3 : ¬ (st : Int) < 1) (b4 : ¬ (2147483648 : Int) < (st : Int)) (bh : hi ≤ 59) (hm : 1 ≤ m) (hm2 : m ≤ 60) (hin : ∀ i, i < m → lo + i * st ≤ hi) (hout : hi < lo + m * st)
    (hI0 : Hid (∀ w, Tab w → Calls Tryd.prog 7 #[.int .i64 lo] w fun e w' => e = .returned (.string (dec lo)) ∧ Below w.heap.size w w')) (hI1 : Hid (∀ w, Tab w → Calls Tryd.prog 7 #[.int .i64 hi] w fun e w' => e = .returned (.string (dec hi)) ∧ Below w.heap.size w w')) (hI2 : Hid (∀ w, Tab w → Calls Tryd.prog 7 #[.int .i64 st] w fun e w' => e = .returned (.string (dec st)) ∧ Below w.heap.size w w'))
    (hC1 : Hid (∀ w, Calls Tryd.prog 19 #[.int .i64 k, .string (dec lo ++ ⟨#[45]⟩ ++ dec hi ++ ⟨#[47]⟩ ++ dec st)] w fun e w' => e = .returned (.tuple #[.int .u64 G, .bool true]) ∧ Below w.heap.size w w'))
    (hC2 : Hid (∀ w, Calls Tryd.prog 19 #[.int .i64 k, .string (jn (vl lo st m) m)] w fun e w' => e = .returned (.tuple #[.int .u64 G, .bool true]) ∧ Below w.heap.size w w'))
    (hJ : Hid (∀ (g c : Nat) (w : World), StrsAt w g (vl lo st m) → Calls Tryd.prog 20 #[.slice (some ⟨g, 0, none⟩) m c, .string ⟨#[44]⟩] w fun e w' => e = .returned (.string (jn (vl lo st m) m)) ∧ w = w')) (ht : Tab w) :
    Calls Tryd.prog 6 #[.int .i64 k, .int .i64 lo, .int .i64 hi, .int .i64 st] w fun e w' => e = .returned (.bool true) ∧ Below w.heap.size w w' := by
  have z0 := dec_size lo (by omega)
  have z1 := dec_size hi (by omega)
  have z2 := dec_size st (by omega)
  have c1 : ¬ 9223372036854775807 < (dec lo).size + 1 := by omega
  have c2 : ¬ 9223372036854775807 < (dec lo).size + 1 + (dec hi).size := by omega
  have c3 : ¬ 9223372036854775807 < (dec lo).size + 1 + (dec hi).size + 1 := by omega
  have c4 : ¬ 9223372036854775807 < (dec lo).size + 1 + (dec hi).size + 1 + (dec st).size := by omega
  have e0 : decide (lo < kl) = false := decide_eq_false (by omega)
  have e1 : decide (kh < hi) = false := decide_eq_false (by omega)
  have e2 : decide (hi < lo) = false := decide_eq_false (by omega)
  have e3 : decide ((st : Int) < 1) = false := decide_eq_false (by omega)
  have e4 : decide ((2147483648 : Int) < (st : Int)) = false := decide_eq_false (by omega)
  have HIN := hid hin
  have HOUT := hid hout
  have HT0 := hid ht
  clear ht z0 z1 z2 hin hout
  go_enter Tryd.func6, Tryd.ntmps6
  go_wp2_with (first | (go_at_call 12; go_in) | (go_at_call 17; refine (hL.out _).mono ?_; rintro e w' ⟨rfl, rfl⟩) | (go_at_call 18; refine (hH.out _).mono ?_; rintro e w' ⟨rfl, rfl⟩))
  have B3 := hid b3
  have B4 := hid b4
  clear b0 b1 b2 b3 b4
  go_loopg [9, 10] m (fun gf v t wx => ∃ i : Nat, i + gf = m ∧ t = .int .i64 ((lo + i * st : Nat) : Int) ∧ wx.ownsRow w.heap.size 9 1 v ((vl lo st i).map Value.string).length ((vl lo st i).map Value.string) ∧ Below w.heap.size w wx)
  case atStart => exact ⟨0, by omega, by simp, World.ownsRow_nil _ _ _ _, Below.refl _ _⟩
  case round =>
    obtain ⟨i, hi', rfl, hown, hb⟩ := hrel
    have HT := hid (tab_below HT0.out hb)
    by_cases hlt : i < m
    · obtain ⟨g', rfl⟩ : ∃ g', gk = g' + 1 := ⟨gk - 1, by omega⟩
      have hv := HIN.out i hlt
      obtain ⟨n, hn⟩ : ∃ n, lo + i * st = n := ⟨_, rfl⟩
      have hn2 := hid (show lo + (i + 1) * st = n + st by rw [← hn, Nat.add_mul, Nat.one_mul, Nat.add_assoc])
      have hsu := hid (vl_succ lo st i)
      have hle := vl_len lo st i
      have hst4 : st ≤ 2147483648 := by have := B4.out; omega
      have HN := hid hn
      rw [hn] at hv ⊢
      have bn : (n : Int) ≤ (hi : Int) := by omega
      have hwr : IntKind.i64.wrap ((n : Int) + (st : Int)) = (n : Int) + (st : Int) := IntWalk.i64_in _ (by omega)
      clear hst4
      go_wp2_with fail
      go_at_call 7
      refine (itoa_any n (by omega) _ HT.out).mono ?_
      rintro e w2 ⟨rfl, hb2⟩
      replace hown := own_below hown hb2
      replace hb := bt hb hb2
      clear hb2
      go_wp2_with (at_builtin; refine app_one (w0 := w) w.heap.size rfl (.tmp 50) (.tmp 53) _ _ _ 16 rfl Tryd.underlying46 info_str rfl _ ((vl lo st i).map Value.string) _ rfl rfl rfl hown hb hb.size (by simp [maxLen, hle]; omega) (by simp [hle]; omega) ?_; intro v1 w3 hown1 hb1; replace hown1 := hid hown1; replace hb1 := hid hb1)
      go_roundg g'
      case measure => omega
      case rel =>
        refine ⟨i + 1, by omega, ?_, ?_, hb1.out⟩
        · rw [hn2.out]; simp
        · rw [hsu.out, HN.out]
          simpa using hown1.out
    · have e : i = m := by omega
      subst e
      have ho := HOUT.out
      have bn : ¬ ((lo + i * st : Nat) : Int) ≤ (hi : Int) := by omega
      obtain ⟨n, hn⟩ : ∃ n, lo + i * st = n := ⟨_, rfl⟩
      rw [hn] at bn ⊢
      have hle := vl_len lo st i
      have hown2 : wr.ownsRow w.heap.size 9 1 u9 (vl lo st i).length ((vl lo st i).map Value.string) := by rw [List.length_map] at hown; exact hown
      obtain ⟨g, c, hv, _, hst⟩ := strs_of_own hown2 (by intro e; rw [e] at hle; simp at hle; omega)
      rw [hle] at hv
      subst hv
      have HS := hid hst
      have HB := hid hb
      clear hown hown2 hst hb hi' ho hn hle
      go_wp2_with fail
      go_at_call 7
      refine (hI0.out _ HT.out).mono ?_
      rintro e uI0 ⟨rfl, hb⟩
      replace HT := hid (tab_below HT.out hb)
      replace HB := hid (bt HB.out hb)
      replace HS := hid (HS.out.below hb)
      clear hb
      go_wp2_with fail
      go_at_call 7
      refine (hI1.out _ HT.out).mono ?_
      rintro e uI1 ⟨rfl, hb⟩
      replace HT := hid (tab_below HT.out hb)
      replace HB := hid (bt HB.out hb)
      replace HS := hid (HS.out.below hb)
      clear hb
      go_wp2_with fail
      go_at_call 7
      refine (hI2.out _ HT.out).mono ?_
      rintro e uI2 ⟨rfl, hb⟩
      replace HT := hid (tab_below HT.out hb)
      replace HB := hid (bt HB.out hb)
      replace HS := hid (HS.out.below hb)
      clear hb
      go_wp2_with fail
      go_at_call 19
      refine (hC1.out _).mono ?_
      rintro e uC1 ⟨rfl, hb⟩
      replace HT := hid (tab_below HT.out hb)
      replace HB := hid (bt HB.out hb)
      replace HS := hid (HS.out.below hb)
      clear hb
      go_wp2_with fail
      go_at_call 20
      refine (hJ.out _ _ _ HS.out).mono ?_
      rintro e uJ ⟨rfl, rfl⟩
      go_wp2_with fail
      go_at_call 19
      refine (hC2.out _).mono ?_
      rintro e uC ⟨rfl, hb⟩
      replace HB := hid (bt HB.out hb)
      clear hb
      go_wp2_with fail
      go_ret
      exact ⟨ret_b (by simp), HB.out⟩

theorem fnCronStepAsList_walk (k lo hi st : Int) (w : World) (wk : (Lit.int .i64 k).wf = true) (wl : (Lit.int .i64 lo).wf = true) (wh : (Lit.int .i64 hi).wf = true) (ws : (Lit.int .i64 st).wf = true) (ht : Tab w) :
    Calls Tryd.prog 6 #[.int .i64 k, .int .i64 lo, .int .i64 hi, .int .i64 st] w fun e w' => e = .returned (.bool true) ∧ Below w.heap.size w w' := by
  by_cases h0 : (0 : Int) ≤ k
  case neg => exact step_out_neg k lo hi st w h0
  by_cases h1 : k < 6
  case neg => exact step_out_six k lo hi st w h0 h1
  obtain ⟨n, rfl⟩ := Int.eq_ofNat_of_zero_le h0
  have hk : n ≤ 5 := by omega
  have hL := hid (fun w => low_any n hk w)
  have hH := hid (fun w => high_any n hk w)
  have hh := kHi_le n
  by_cases b0 : lo < (kLo n : Int)
  · exact step_out_0 n lo hi st _ _ w h0 h1 hL hH b0
  by_cases b1 : (kHi n : Int) < hi
  · exact step_out_1 n lo hi st _ _ w h0 h1 hL hH b0 b1
  by_cases b2 : hi < lo
  · exact step_out_2 n lo hi st _ _ w h0 h1 hL hH b0 b1 b2
  by_cases b3 : st < 1
  · exact step_out_3 n lo hi st _ _ w h0 h1 hL hH b0 b1 b2 b3
  by_cases b4 : 2147483648 < st
  · exact step_out_4 n lo hi st _ _ w h0 h1 hL hH b0 b1 b2 b3 b4
  obtain ⟨a, rfl⟩ := Int.eq_ofNat_of_zero_le (show 0 ≤ lo by omega)
  obtain ⟨b, rfl⟩ := Int.eq_ofNat_of_zero_le (show 0 ≤ hi by omega)
  obtain ⟨s, rfl⟩ := Int.eq_ofNat_of_zero_le (show 0 ≤ st by omega)
  have hd := Nat.div_mul_le_self (b - a) s
  have hd2 := Nat.lt_div_mul_add (a := b - a) (b := s) (by omega)
  have hq := Nat.div_le_self (b - a) s
  have F1 := fun w => field_list n a b s hk (by omega) (by omega) (by omega) (by omega) w
  obtain ⟨q, hq0⟩ : ∃ q, (b - a) / s = q := ⟨_, rfl⟩
  simp only [hq0] at hd hd2 hq F1
  have hv : ∀ i, i < q + 1 → a + i * s ≤ b := fun i hi' => by
    have : i * s ≤ q * s := Nat.mul_le_mul_right s (by omega)
    omega
  refine step_in n a b s (q + 1) _ _ (gb a b s) w h0 h1 hL hH b0 b1 b2 b3 b4 (by omega) (by omega) (by omega) hv ?_
    (hid fun w h => itoa_any a (by omega) w h) (hid fun w h => itoa_any b (by omega) w h) (hid fun w h => itoa_any s (by omega) w h)
    (hid fun w => field_range n a b s hk (by omega) (by omega) (by omega) (by omega) (by omega) w) (hid F1)
    (hid fun g c w hst => ?_) ht
  · rw [Nat.add_mul, Nat.one_mul]; omega
  · have hl := vl_len a s (q + 1)
    have := join_any (vl a s (q + 1)) g c w (by omega) (fun x hx => by
      obtain ⟨i, hi', rfl⟩ := vl_mem hx
      have := hv i hi'
      exact dec_size _ (by omega)) hst
    rw [hl] at this
    exact this
end Go.Proofs.YtcaabeocflfboaaDoor
