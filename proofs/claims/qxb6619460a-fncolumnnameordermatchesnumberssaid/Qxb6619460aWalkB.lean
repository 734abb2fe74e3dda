import Derived.Test.Qxb6619460aRows
import Derived.WalkKit
import Derived.WalkSpells
import Derived.WalkLawsBesides
import Derived.Deep.QuietTactic
import Derived.BigQuiet
namespace Go.Proofs.Qxb6619460a
open Go.RowKit

theorem ret_int {k : IntKind} {a b : Int} (h : a = b) : Ending.returned (.int k a) = .returned (.int k b) := by rw [h]

set_option maxHeartbeats 400000 in
theorem shortlex_lt (x y : ByteArray) (w : World) (h : x.size < y.size) (_hy : y.size ≤ 64) :
    Calls Try.prog 9 #[.string x, .string y] w fun e w' => e = .returned (.int .i64 (-1)) ∧ w' = w := by
  go_enter Try.func9, Try.ntmps9
  go_wp2
  go_ret
  exact ⟨rfl, rfl⟩

set_option maxHeartbeats 400000 in
theorem shortlex_gt (x y : ByteArray) (w : World) (h : y.size < x.size) (_hx : x.size ≤ 64) :
    Calls Try.prog 9 #[.string x, .string y] w fun e w' => e = .returned (.int .i64 1) ∧ w' = w := by
  go_enter Try.func9, Try.ntmps9
  go_wp2
  go_ret
  exact ⟨rfl, rfl⟩

set_option maxHeartbeats 1000000 in
theorem shortlex_same (x y : ByteArray) (r : Int) (w : World) (h1 : x.size ≤ y.size) (h2 : y.size ≤ x.size) (hx : x.size ≤ 64)
    (hL : ∀ k (h : k < x.size) (h' : k < y.size), (∀ i (h : i < x.size) (h' : i < y.size), i < k → x[i] = y[i]) → x[k].toNat < y[k].toNat → r = -1)
    (hG : ∀ k (h : k < x.size) (h' : k < y.size), (∀ i (h : i < x.size) (h' : i < y.size), i < k → x[i] = y[i]) → y[k].toNat < x[k].toNat → r = 1)
    (hE : (∀ i (h : i < x.size) (h' : i < y.size), x[i] = y[i]) → r = 0) :
    Calls Try.prog 9 #[.string x, .string y] w fun e w' => e = .returned (.int .i64 r) ∧ Below w.heap.size w w' := by
  have HL : Hid (∀ k (h : k < x.size) (h' : k < y.size), (∀ i (h : i < x.size) (h' : i < y.size), i < k → x[i] = y[i]) → x[k].toNat < y[k].toNat → r = -1) := hL
  have HG : Hid (∀ k (h : k < x.size) (h' : k < y.size), (∀ i (h : i < x.size) (h' : i < y.size), i < k → x[i] = y[i]) → y[k].toNat < x[k].toNat → r = 1) := hG
  have HE : Hid ((∀ i (h : i < x.size) (h' : i < y.size), x[i] = y[i]) → r = 0) := hE
  clear hL hG hE
  go_enter Try.func9, Try.ntmps9
  go_wp2
  go_loopw [4, 5] (fun _ i wr => ∃ k : Nat, k ≤ x.size ∧ i = .int .i64 k ∧ Hid (∀ i (h : i < x.size) (h' : i < y.size), i < k → x[i] = y[i]) ∧ Below w.heap.size w wr) (fun _ i _ => x.size - (intOf i).toNat)
  case atStart => exact ⟨0, Nat.zero_le _, rfl, fun i _ _ h => by omega, Below.refl _ _⟩
  case round =>
    obtain ⟨k, hk, rfl, hsame, hbel⟩ := hrel
    by_cases hlt : k < x.size
    · have hlt' : k < y.size := by omega
      have i1 : (k : Int) < (x.size : Int) := by omega
      have i2 : (k : Int) < (y.size : Int) := by omega
      go_wp2_with fail
      go_quiet (fail)
      have hb1 := below_drewN hbel nq
      by_cases hne : x[k].toNat = y[k].toNat
      · have hsame' : Hid (∀ i (h : i < x.size) (h' : i < y.size), i < k + 1 → x[i] = y[i]) := by
          intro i h h' hi
          by_cases hik : i = k
          · subst hik; exact UInt8.toNat_inj.1 hne
          · exact hsame.out i h h' (by omega)
        have ht : (((x[k].toNat : Nat) : Int) != ((y[k].toNat : Nat) : Int)) = false := by simp [hne]
        clear hne
        go_wp2
        go_roundw
        case rel => exact ⟨k + 1, by omega, by go_num, hsame', hb1⟩
        case measure => simp [intOf]; omega
      · have ht : (((x[k].toNat : Nat) : Int) != ((y[k].toNat : Nat) : Int)) = true := by simp; omega
        by_cases hl : x[k].toNat < y[k].toNat
        · have hr := HL.out k hlt hlt' hsame.out hl
          have HR : Hid (r = -1) := hr
          clear hr hne
          have hl' : ((x[k].toNat : Nat) : Int) < ((y[k].toNat : Nat) : Int) := by omega
          go_wp2_with fail
          go_quiet (fail)
          go_wp2
          go_ret
          exact ⟨ret_int HR.out.symm, below_drewN hb1 _⟩
        · have hr := HG.out k hlt hlt' hsame.out (by omega)
          have HR : Hid (r = 1) := hr
          have hl' : ¬ ((x[k].toNat : Nat) : Int) < ((y[k].toNat : Nat) : Int) := by omega
          clear hr hne
          go_wp2_with fail
          go_quiet (fail)
          go_wp2
          go_ret
          exact ⟨ret_int HR.out.symm, below_drewN hb1 _⟩
    · go_wp2
      go_ret
      exact ⟨ret_int (HE.out (fun i h h' => hsame.out i h h' (by omega))).symm, hbel⟩

end Go.Proofs.Qxb6619460a
