import Derived.Test.Qxb6619460aRows
import Derived.WalkKit
import Derived.WalkSpells
import Derived.WalkLawsBesides
import Derived.Deep.LoopGhost
import Derived.RegionTactic
import Derived.Lib.Walk
import Derived.Lib.SlicesMore
import Derived.Lib.OwnBridge
import Derived.Laws.BytesArg
namespace Go.Proofs.Qxb6619460a
open Go.RowKit Go.Sort

abbrev encB : Int → Value := fun x => Value.int .u8 x

theorem swap_worldB {w wr : World} {n blk off : Nat} {dk : Array Int} {i j : Nat} (hi : i < dk.size) (hj : j < dk.size) (hwr : wr = putRow encB (Sort.ahead w n) blk off dk)
    {x y : Value} (hx : x = encB dk[j]!) (hy : y = encB dk[i]!) : ((wr.setCell ⟨blk, off + i, none⟩ x).setCell ⟨blk, off + j, none⟩ y).drew = putRow encB (Sort.ahead w (n + 1)) blk off (swp dk i j) := by
  subst hwr; subst hx; subst hy
  rw [putRow_swp encB _ blk off dk i j hi hj, ← ahead_drew]
  rfl

set_option maxHeartbeats 1600000 in
set_option maxRecDepth 1000000 in
theorem reverse_arr (blk off cap : Nat) (d : Array Int) (w : World) (hH : Holds encB w blk off d) (hsz : d.size ≤ 9223372036854775807) :
    Calls Try.prog 10 #[.slice (some ⟨blk, off, none⟩) d.size cap] w fun e w' => e = .returned (.tuple #[]) ∧ ∃ n, w' = putRow encB (Sort.ahead w n) blk off d.reverse := by
  go_enter Try.func10, Try.ntmps10
  go_wp2
  go_loopg [2, 3] d.size (fun k s2 s3 wr => ∃ (i jn : Nat) (jz : Int) (dk : Array Int) (n : Nat), s2 = .int .i64 i ∧ s3 = .int .i64 jz ∧ ((i : Int) < jz → jz = jn ∧ jn < d.size) ∧ (¬ (i : Int) < jz → ¬ i < jn) ∧ jn - i ≤ k ∧
    dk.size = d.size ∧ wr = putRow encB (Sort.ahead w n) blk off dk ∧ reverseLoop i jn dk = reverseLoop 0 (d.size - 1) d)
  case atStart => exact ⟨0, d.size - 1, (d.size : Int) - 1, d, 0, rfl, rfl, fun h => ⟨by omega, by omega⟩, fun h => by omega, by omega, rfl, (putRow_self encB w blk off d hH).symm, rfl⟩
  case round =>
    obtain ⟨i, jn, jz, dk, n, rfl, rfl, h1, h2, hk, hds, hwr, heq⟩ := hrel
    by_cases hlt : (i : Int) < jz
    · obtain ⟨rfl, hjn⟩ := h1 hlt
      have hij : i < jn := by omega
      have hHk : Holds encB wr blk off dk := by rw [hwr]; exact holds_putRow encB _ blk off d dk (holds_ahead encB w n blk off d hH) hds
      obtain ⟨ci, fi⟩ := hHk i (by omega)
      obtain ⟨cj, fj⟩ := hHk jn (by omega)
      have A : Hid (wr = putRow encB (Sort.ahead w n) blk off dk) := hwr
      clear hwr hHk hH h1 h2
      go_wp2_with fail
      go_region
      go_wp2
      go_roundg (jn - 1 - (i + 1))
      case measure => omega
      case rel =>
        rw [reverseLoop, if_pos hij] at heq
        exact ⟨i + 1, jn - 1, (jn : Int) - 1, swp dk i jn, n + 1, by simp, rfl, fun h => ⟨by omega, by omega⟩, fun h => by omega, Nat.le_refl _, by rw [size_swp]; exact hds,
          swap_worldB (by omega) (by omega) A.out (by first | rfl | simp [getElem!_pos, show jn < dk.size by omega]) (by first | rfl | simp [getElem!_pos, show i < dk.size by omega]), heq⟩
    · have hnot := h2 hlt
      go_wp2
      go_end0
      refine ⟨rfl, n, ?_⟩
      rw [reverseLoop, if_neg hnot] at heq
      rw [← Lib.reverseLoop_reverse, ← heq]

set_option maxHeartbeats 1000000 in
/-- A slice of length 0, a nil one too: nothing is read, nothing written, nothing drawn. -/
theorem reverse_empty (a : Option Addr) (cap : Nat) (w : World) :
    Calls Try.prog 10 #[.slice a 0 cap] w fun e w' => e = .returned (.tuple #[]) ∧ w' = w := by
  go_enter Try.func10, Try.ntmps10
  go_wp2
  go_loopg [2, 3] 0 (fun _ s2 s3 wr => s2 = .int .i64 0 ∧ s3 = .int .i64 (-1) ∧ wr = w)
  case atStart => exact ⟨rfl, rfl, rfl⟩
  case round =>
    obtain ⟨rfl, rfl, rfl⟩ := hrel
    go_wp2
    go_end0
    exact ⟨rfl, rfl⟩
end Go.Proofs.Qxb6619460a
