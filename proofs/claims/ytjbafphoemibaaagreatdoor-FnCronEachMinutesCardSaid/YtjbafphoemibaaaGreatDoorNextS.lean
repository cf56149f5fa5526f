/- The state of a search for the next activation in memory, and the contracts of the steps at it. -/
import Derived.Test.YtjbafphoemibaaaGreatDoorNextM
set_option linter.unusedVariables false
set_option linter.unusedSimpArgs false
namespace Go.Proofs.YtjbafphoemibaaaGreatDoor
open Go.RowKit

/-- A location's block that a store into the call's own two blocks leaves alone. -/
def LocS (w wr : World) (g : Nat) (b : Bool) (off : Int) : Prop :=
  (b = true ∧ off = 0 ∧ Blk wr g 109 ucells ∧ w.heap.size + 1 < g) ∨ (b = false ∧ LocB w g b off)
theorem LocS.loc {w wr : World} {g : Nat} {b : Bool} {off : Int} (h : LocS w wr g b off) (hb : Below w.heap.size w wr) : LocB wr g b off := by
  rcases h with ⟨h1, h2, h3, h4⟩ | ⟨h1, h2⟩
  · exact .inl ⟨h1, h2, h3⟩
  · exact h2.below hb
theorem LocS.below {w wr w' : World} {g : Nat} {b : Bool} {off : Int} (h : LocS w wr g b off) (hb : Below wr.heap.size wr w') : LocS w w' g b off := by
  rcases h with ⟨h1, h2, h3, h4⟩ | ⟨h1, h2⟩
  · exact .inl ⟨h1, h2, h3.below hb, h4⟩
  · exact .inr ⟨h1, h2⟩
theorem blk_far3 {w : World} {g h : Nat} {t : TypeId} {cs : Array Value} (hb : Blk w g t cs) (hne : g ≠ h) (n e : Int) (p : Option Addr) : Blk (w.setCells h 0 (tcells n e p).toList) g t cs :=
  ((hb.other hne 0 _).other hne 1 _).other hne 2 _
theorem LocS.put {w wr : World} {g k : Nat} {b : Bool} {off : Int} (h : LocS w wr g b off) (hk : k ≤ w.heap.size + 1) (n e : Int) (p : Option Addr) : LocS w (wr.setCells k 0 (tcells n e p).toList) g b off := by
  rcases h with ⟨h1, h2, h3, h4⟩ | ⟨h1, h2⟩
  · exact .inl ⟨h1, h2, blk_far3 h3 (by omega) n e p, h4⟩
  · exact .inr ⟨h1, h2⟩

/-- The search's memory: the moment it stands at, its result's block, the schedule, the two locations. -/
structure St (w wr : World) (gs g5 g6 : Nat) (cs : Array Value) (b : Bool) (off : Int) (p : Option Addr) (n e : Int) : Prop where
  t : Blk wr w.heap.size 52 (tcells n e p)
  r : Blk wr (w.heap.size + 1) 52 (tcells 0 0 none)
  s : Blk wr gs 60 cs
  l5 : LocS w wr g5 b off
  l6 : LocS w wr g6 b off
  bw : Below w.heap.size w wr
  hs : gs < w.heap.size
  e5 : locOf b g5 = p
  e6 : locOf b g6 = p
theorem St.below {w wr w' : World} {gs g5 g6 : Nat} {cs : Array Value} {b : Bool} {off : Int} {p : Option Addr} {n e : Int} (h : St w wr gs g5 g6 cs b off p n e) (hb : Below wr.heap.size wr w') : St w w' gs g5 g6 cs b off p n e :=
  ⟨h.t.below hb, h.r.below hb, h.s.below hb, h.l5.below hb, h.l6.below hb, bt h.bw hb, h.hs, h.e5, h.e6⟩
theorem St.put {w wr : World} {gs g5 g6 : Nat} {cs : Array Value} {b : Bool} {off : Int} {p : Option Addr} {n e : Int} (h : St w wr gs g5 g6 cs b off p n e) (n' e' : Int) : St w (wr.setCells w.heap.size 0 (tcells n' e' p).toList) gs g5 g6 cs b off p n' e' :=
  ⟨set3_blk h.t rfl n' e' p, blk_far3 h.r (by omega) n' e' p, blk_far3 h.s (by have := h.hs; omega) n' e' p, h.l5.put (by omega) n' e' p, h.l6.put (by omega) n' e' p, set3_below h.bw (Nat.le_refl _) n' e' p, h.hs, h.e5, h.e6⟩
theorem St.fx {w wr : World} {gs g5 g6 : Nat} {cs : Array Value} {b : Bool} {off : Int} {p : Option Addr} {n e : Int} (h : St w wr gs g5 g6 cs b off p n e) : Fx wr p off := by
  have := (h.l6.loc h.bw).fx
  rw [h.e6] at this
  exact this

/-- Date over the moments of a search: the beginnings of its month, its day, its hour; a month, a day later. -/
theorem tod {l : Int} : 0 ≤ l % 86400 / 3600 ∧ l % 86400 / 3600 < 24 ∧ 0 ≤ l % 3600 / 60 ∧ l % 3600 / 60 < 60 ∧ 0 ≤ l % 60 ∧ l % 60 < 60 := by omega
theorem date_month {l off : Int} {b : Bool} (hl : okL l) (ho : offOk off) (X : World) (g : Nat) (hx : LocB X g b off) :
    Calls Tryz.prog 121 #[.int .i64 (yP (l / 86400)), .int .i64 (mP (l / 86400)), .int .i64 1, .int .i64 0, .int .i64 0, .int .i64 0, .int .i64 0, .pointer (some ⟨g, 0, none⟩)] X fun e w' => e = .returned (.agg (tcells 0 (eL off (86400 * (l / 86400 - dP (l / 86400) + 1))) (locOf b g))) ∧ Below X.heap.size X w' := by
  obtain ⟨a, c⟩ := hl
  obtain ⟨m1, m2, d1, d2⟩ := mP_bounds (day := l / 86400) (by omega) (by omega)
  have mdp := (md_pos (yP (l / 86400)) (mP (l / 86400))).2
  obtain ⟨p, q⟩ := abs_date (l / 86400) (by omega) (by omega)
  rw [dateIs_iff] at p
  have y1 := day_year (y := 0) (day := l / 86400) (by omega) (by omega)
  have e : dayOf (yP (l / 86400)) (mP (l / 86400)) 1 = l / 86400 - dP (l / 86400) + 1 := by
    have : dayOf (yP (l / 86400)) (mP (l / 86400)) 1 = dayOf (yP (l / 86400)) (mP (l / 86400)) (dP (l / 86400)) - dP (l / 86400) + 1 := by unfold dayOf; omega
    omega
  have yy := (dayOf_year q)
  rw [← p] at yy
  have yb : -1000 ≤ yP (l / 86400) ∧ yP (l / 86400) ≤ 50000 := by
    unfold ys at yy
    omega
  exact dateN_walk (yP (l / 86400)) (mP (l / 86400)) (yP (l / 86400)) (mP (l / 86400)) 1 0 0 0 0 off _ g b X (fun w => norm_same _ _ 12 w (by omega) (by omega)) m1 (by omega) m1 m2 yb.1 yb.2 (by decide) (by decide) (by decide) (by decide) (by decide) (by decide) (by decide) (by decide) (by decide) (by decide) (by rw [e]; omega) ⟨by omega, by omega⟩ ho hx
theorem year_bounds {l : Int} (hl : okL l) : -1000 ≤ yP (l / 86400) ∧ yP (l / 86400) ≤ 49990 := by
  obtain ⟨a, c⟩ := hl
  obtain ⟨p, q⟩ := abs_date (l / 86400) (by omega) (by omega)
  rw [dateIs_iff] at p
  have yy := (dayOf_year q)
  rw [← p] at yy
  unfold ys at yy
  omega
theorem date_day {l off : Int} {b : Bool} (hl : okL l) (ho : offOk off) (X : World) (g : Nat) (hx : LocB X g b off) :
    Calls Tryz.prog 121 #[.int .i64 (yP (l / 86400)), .int .i64 (mP (l / 86400)), .int .i64 (dP (l / 86400)), .int .i64 0, .int .i64 0, .int .i64 0, .int .i64 0, .pointer (some ⟨g, 0, none⟩)] X fun e w' => e = .returned (.agg (tcells 0 (eL off (86400 * (l / 86400))) (locOf b g))) ∧ Below X.heap.size X w' := by
  have yb := year_bounds hl
  obtain ⟨a, c⟩ := hl
  obtain ⟨m1, m2, d1, d2⟩ := mP_bounds (day := l / 86400) (by omega) (by omega)
  have mdp := (md_pos (yP (l / 86400)) (mP (l / 86400))).2
  have p := dateIs_iff.1 (abs_date (l / 86400) (by omega) (by omega)).1
  exact dateN_walk (yP (l / 86400)) (mP (l / 86400)) (yP (l / 86400)) (mP (l / 86400)) (dP (l / 86400)) 0 0 0 0 off _ g b X (fun w => norm_same _ _ 12 w (by omega) (by omega)) m1 (by omega) m1 m2 yb.1 (by omega) d1 (by omega) (by decide) (by decide) (by decide) (by decide) (by decide) (by decide) (by decide) (by decide) (by rw [← p]; omega) ⟨by omega, by omega⟩ ho hx
theorem date_hour {l off : Int} {b : Bool} (hl : okL l) (ho : offOk off) (X : World) (g : Nat) (hx : LocB X g b off) :
    Calls Tryz.prog 121 #[.int .i64 (yP (l / 86400)), .int .i64 (mP (l / 86400)), .int .i64 (dP (l / 86400)), .int .i64 (l % 86400 / 3600), .int .i64 0, .int .i64 0, .int .i64 0, .pointer (some ⟨g, 0, none⟩)] X fun e w' => e = .returned (.agg (tcells 0 (eL off (3600 * (l / 3600))) (locOf b g))) ∧ Below X.heap.size X w' := by
  have yb := year_bounds hl
  obtain ⟨a, c⟩ := hl
  obtain ⟨m1, m2, d1, d2⟩ := mP_bounds (day := l / 86400) (by omega) (by omega)
  have mdp := (md_pos (yP (l / 86400)) (mP (l / 86400))).2
  have p := dateIs_iff.1 (abs_date (l / 86400) (by omega) (by omega)).1
  have t := @tod l
  exact dateN_walk (yP (l / 86400)) (mP (l / 86400)) (yP (l / 86400)) (mP (l / 86400)) (dP (l / 86400)) (l % 86400 / 3600) 0 0 0 off _ g b X (fun w => norm_same _ _ 12 w (by omega) (by omega)) m1 (by omega) m1 m2 yb.1 (by omega) d1 (by omega) t.1 t.2.1 (by decide) (by decide) (by decide) (by decide) (by decide) (by decide) (by rw [← p]; omega) ⟨by omega, by omega⟩ ho hx

/-- AddDate over a search's moments. -/
theorem nat_tod (l : Int) : ∃ h m c : Nat, l % 86400 / 3600 = h ∧ l % 3600 / 60 = m ∧ l % 60 = c :=
  ⟨(l % 86400 / 3600).toNat, (l % 3600 / 60).toNat, (l % 60).toNat, by omega, by omega, by omega⟩
theorem add_day {l off : Int} {b : Bool} (hl : okL l) (ho : offOk off) (X : World) (g : Nat) (hx : LocB X g b off) :
    Calls Tryz.prog 122 #[.agg (tcells 0 (eL off l) (locOf b g)), .int .i64 0, .int .i64 0, .int .i64 1] X fun e w' => e = .returned (.agg (tcells 0 (eL off (l + 86400)) (locOf b g))) ∧ Below X.heap.size X w' := by
  have yb := year_bounds hl
  obtain ⟨h, m, c, hh, hm, hc⟩ := nat_tod l
  have nl := hl.near
  obtain ⟨a, c'⟩ := hl
  obtain ⟨m1, m2, d1, d2⟩ := mP_bounds (day := l / 86400) (by omega) (by omega)
  have mdp := (md_pos (yP (l / 86400)) (mP (l / 86400))).2
  have p := dateIs_iff.1 (abs_date (l / 86400) (by omega) (by omega)).1
  have e : dayOf (yP (l / 86400)) (mP (l / 86400)) (dP (l / 86400) + 1) = l / 86400 + 1 := by
    have : dayOf (yP (l / 86400)) (mP (l / 86400)) (dP (l / 86400) + 1) = dayOf (yP (l / 86400)) (mP (l / 86400)) (dP (l / 86400)) + 1 := by unfold dayOf; omega
    omega
  exact addDate_day l off (l + 86400) g b _ _ _ h m c X nl ho hx rfl rfl rfl hh hm hc (by omega) (by omega) (by omega) (by omega) (by omega) (by omega)
    (fun Y g' hY => dateN_walk (yP (l / 86400)) (mP (l / 86400)) (yP (l / 86400)) (mP (l / 86400)) (dP (l / 86400) + 1) h m c 0 off _ g' b Y (fun w => norm_same _ _ 12 w (by omega) (by omega)) m1 (by omega) m1 m2 yb.1 (by omega) (by omega) (by omega) (by omega) (by omega) (by omega) (by omega) (by omega) (by omega) (by decide) (by decide) (by rw [e]; omega) ⟨by omega, by omega⟩ ho hY)
theorem add_month {l off : Int} {b : Bool} (hl : okL l) (hs : monthStart l) (ho : offOk off) (X : World) (g : Nat) (hx : LocB X g b off) :
    Calls Tryz.prog 122 #[.agg (tcells 0 (eL off l) (locOf b g)), .int .i64 0, .int .i64 1, .int .i64 0] X fun e w' => e = .returned (.agg (tcells 0 (eL off (86400 * nextM (l / 86400))) (locOf b g))) ∧ Below X.heap.size X w' := by
  have yb := year_bounds hl
  obtain ⟨h, m, c, hh, hm, hc⟩ := nat_tod l
  have nl := hl.near
  obtain ⟨a, c'⟩ := hl
  obtain ⟨s1, s2⟩ := hs
  obtain ⟨m1, m2, d1, d2⟩ := mP_bounds (day := l / 86400) (by omega) (by omega)
  have mdp := (md_pos (yP (l / 86400)) (mP (l / 86400))).2
  have n := next_month (day := l / 86400) (by omega) (by omega)
  refine addDate_month l off _ g b _ _ _ h m c X nl ho hx rfl rfl rfl hh hm hc (by omega) (by omega) (by omega) (by omega) (by omega) (by omega) (fun Y g' hY => ?_)
  rcases n.2.2.2 with ⟨k1, k2, k3, k4⟩ | ⟨k1, k2, k3, k4⟩
  · exact dateN_walk (yP (l / 86400)) (mP (l / 86400) + 1) (yP (l / 86400)) (mP (l / 86400) + 1) (dP (l / 86400)) h m c 0 off _ g' b Y (fun w => norm_same _ _ 12 w (by omega) (by omega)) (by omega) (by omega) (by omega) (by omega) yb.1 (by omega) (by omega) (by omega) (by omega) (by omega) (by omega) (by omega) (by omega) (by omega) (by decide) (by decide) (by rw [s1, ← k4]; omega) ⟨by omega, by omega⟩ ho hY
  · refine dateN_walk (yP (l / 86400)) (mP (l / 86400) + 1) (yP (l / 86400) + 1) 1 (dP (l / 86400)) h m c 0 off _ g' b Y (fun w => ?_) (by omega) (by omega) (by omega) (by omega) (by omega) (by omega) (by omega) (by omega) (by omega) (by omega) (by omega) (by omega) (by omega) (by omega) (by decide) (by decide) (by rw [s1, ← k4]; omega) ⟨by omega, by omega⟩ ho hY
    rw [k1]
    exact norm_12 _ w (by omega) (by omega)

theorem dmF_any (gs : Nat) (S : Sets) (l off : Int) (p : Option Addr) (w : World) (hg : Blk w gs 60 (scd S.sec S.min S.hour S.dom S.month S.dow none)) (hl : near l) (ho : offOk off) (hp : Fx w p off) :
    Calls Tryz.prog 123 #[.pointer (some ⟨gs, 0, none⟩), .agg (tcells 0 (eL off l) p)] w fun e' w' => e' = .returned (.bool (dayOK S (l / 86400))) ∧ Below w.heap.size w w' := by
  have hL := absL_int hl
  have hd := absL_day hl
  have h2 := absL_lt hl
  obtain ⟨l1, l2⟩ := hl
  obtain ⟨o1, o2⟩ := ho
  exact dayMatches_any gs S.sec S.min S.hour S.dom S.month S.dow none 0 (eL off l) (l - off) off p (absL l) (absD (l / 86400)) w hg (by decide) (by decide) (by unfold eL; omega) (by omega) (by omega) (hp _ (by omega) (by omega)) (by omega) h2 hd
end Go.Proofs.YtjbafphoemibaaaGreatDoor
