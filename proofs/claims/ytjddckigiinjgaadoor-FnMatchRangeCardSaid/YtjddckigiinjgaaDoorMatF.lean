/- scanChunk of a class of one range. Walked. (wip/gen/gen_matf.py) -/
import Derived.Test.YtjddckigiinjgaaDoorMatC
set_option linter.unusedVariables false
set_option linter.unusedSimpArgs false
namespace Go.Proofs.YtjddckigiinjgaaDoor
open Go.RowKit

set_option maxHeartbeats 1600000 in
set_option maxRecDepth 100000 in
theorem scan7 (P : ByteArray) (w : World) (hs : P.size = 7) (h0 : 0 < P.size) (e0 : P[0].toNat = 91) (h1 : 1 < P.size) (e1 : P[1].toNat = 92) (h3 : 3 < P.size) (e3 : P[3].toNat = 45) (h4 : 4 < P.size) (e4 : P[4].toNat = 92) (h6 : 6 < P.size) (e6 : P[6].toNat = 93) : Calls Tryd.prog 16 #[.string P] w fun e w' => e = .returned (.tuple #[.bool false, .string P, .string ⟨#[]⟩]) ∧ w = w' := by
  have q0 : (0 : Int) < P.size := by omega
  have q1 : (1 : Int) < P.size := by omega
  have q3 : (3 : Int) < P.size := by omega
  have q4 : (4 : Int) < P.size := by omega
  have q6 : (6 : Int) < P.size := by omega
  have r1 : (2 : Int) < P.size := by omega
  have r4 : (5 : Int) < P.size := by omega
  have qn : ¬ (7 : Int) < P.size := by omega
  have HS := hid hs
  clear hs
  go_enter Tryd.func16, Tryd.ntmps16
  go_wp2_with fail
  go_loop [0, 2] (fun v u => v = .string P ∧ u = .bool false) (fun _ _ => 0)
  case atStart => exact ⟨rfl, rfl⟩
  case round =>
    obtain ⟨rfl, rfl⟩ := hrel
    go_wp2_with fail
    go_loop [2, 6] (fun u v => u = .bool false ∧ (v = .int .i64 0 ∨ v = .int .i64 1 ∨ v = .int .i64 3 ∨ v = .int .i64 4 ∨ v = .int .i64 6 ∨ v = .int .i64 7)) (fun _ v => 7 - (intOf v).toNat)
    case atStart => exact ⟨rfl, .inl rfl⟩
    case round =>
      obtain ⟨rfl, hrel⟩ := hrel
      rcases hrel with rfl | rfl | rfl | rfl | rfl | rfl
      · go_wp2_with fail
        exact ⟨⟨rfl, (.inr (.inl rfl))⟩, by decide⟩
      · go_wp2_with fail
        exact ⟨⟨rfl, (.inr (.inr (.inl rfl)))⟩, by decide⟩
      · go_wp2_with fail
        exact ⟨⟨rfl, (.inr (.inr (.inr (.inl rfl))))⟩, by decide⟩
      · go_wp2_with fail
        exact ⟨⟨rfl, (.inr (.inr (.inr (.inr (.inl rfl)))))⟩, by decide⟩
      · go_wp2_with fail
        exact ⟨⟨rfl, (.inr (.inr (.inr (.inr (.inr rfl)))))⟩, by decide⟩
      · go_wp2_with fail
        go_returns
        exact ⟨rfl, rfl⟩
set_option maxHeartbeats 1600000 in
set_option maxRecDepth 100000 in
theorem scan8 (P : ByteArray) (w : World) (hs : P.size = 8) (h0 : 0 < P.size) (e0 : P[0].toNat = 91) (h1 : 1 < P.size) (e1 : P[1].toNat = 94) (h2 : 2 < P.size) (e2 : P[2].toNat = 92) (h4 : 4 < P.size) (e4 : P[4].toNat = 45) (h5 : 5 < P.size) (e5 : P[5].toNat = 92) (h7 : 7 < P.size) (e7 : P[7].toNat = 93) : Calls Tryd.prog 16 #[.string P] w fun e w' => e = .returned (.tuple #[.bool false, .string P, .string ⟨#[]⟩]) ∧ w = w' := by
  have q0 : (0 : Int) < P.size := by omega
  have q1 : (1 : Int) < P.size := by omega
  have q2 : (2 : Int) < P.size := by omega
  have q4 : (4 : Int) < P.size := by omega
  have q5 : (5 : Int) < P.size := by omega
  have q7 : (7 : Int) < P.size := by omega
  have r2 : (3 : Int) < P.size := by omega
  have r5 : (6 : Int) < P.size := by omega
  have qn : ¬ (8 : Int) < P.size := by omega
  have HS := hid hs
  clear hs
  go_enter Tryd.func16, Tryd.ntmps16
  go_wp2_with fail
  go_loop [0, 2] (fun v u => v = .string P ∧ u = .bool false) (fun _ _ => 0)
  case atStart => exact ⟨rfl, rfl⟩
  case round =>
    obtain ⟨rfl, rfl⟩ := hrel
    go_wp2_with fail
    go_loop [2, 6] (fun u v => u = .bool false ∧ (v = .int .i64 0 ∨ v = .int .i64 1 ∨ v = .int .i64 2 ∨ v = .int .i64 4 ∨ v = .int .i64 5 ∨ v = .int .i64 7 ∨ v = .int .i64 8)) (fun _ v => 8 - (intOf v).toNat)
    case atStart => exact ⟨rfl, .inl rfl⟩
    case round =>
      obtain ⟨rfl, hrel⟩ := hrel
      rcases hrel with rfl | rfl | rfl | rfl | rfl | rfl | rfl
      · go_wp2_with fail
        exact ⟨⟨rfl, (.inr (.inl rfl))⟩, by decide⟩
      · go_wp2_with fail
        exact ⟨⟨rfl, (.inr (.inr (.inl rfl)))⟩, by decide⟩
      · go_wp2_with fail
        exact ⟨⟨rfl, (.inr (.inr (.inr (.inl rfl))))⟩, by decide⟩
      · go_wp2_with fail
        exact ⟨⟨rfl, (.inr (.inr (.inr (.inr (.inl rfl)))))⟩, by decide⟩
      · go_wp2_with fail
        exact ⟨⟨rfl, (.inr (.inr (.inr (.inr (.inr (.inl rfl))))))⟩, by decide⟩
      · go_wp2_with fail
        exact ⟨⟨rfl, (.inr (.inr (.inr (.inr (.inr (.inr rfl))))))⟩, by decide⟩
      · go_wp2_with fail
        go_returns
        exact ⟨rfl, rfl⟩
end Go.Proofs.YtjddckigiinjgaaDoor
