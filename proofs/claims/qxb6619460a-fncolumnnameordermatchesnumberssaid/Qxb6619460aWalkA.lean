import Derived.Test.Qxb6619460aRows
import Derived.Test.Qxb6619460aPlain
import Derived.WalkKit
import Derived.WalkSpells
import Derived.WalkLawsBesides
namespace Go.Proofs.Qxb6619460a
open Go.RowKit

set_option maxHeartbeats 400000 in
theorem bij_core (s : ByteArray) (n : Int) (vs : Nat → Nat) (w : World) (hpos : 0 < s.size) (hsz : s.size ≤ 64) (h0 : vs 0 = 0)
    (hstep : ∀ k (h : k < s.size), vs (k + 1) = vs k * 26 + (s[k].toNat - 64)) (hr : ∀ k (h : k < s.size), 65 ≤ s[k].toNat ∧ s[k].toNat ≤ 90)
    (hle : ∀ k, vs k ≤ 9223372036854775807) (hend : ((vs s.size : Nat) : Int) = n) :
    Calls Try.prog 6 #[.string s, .int .i64 n] w fun e w' => e = .returned (.bool true) ∧ w' = w := by
  have H0 : Hid (vs 0 = 0) := h0
  have HS : Hid (∀ k (h : k < s.size), vs (k + 1) = vs k * 26 + (s[k].toNat - 64)) := hstep
  have HR : Hid (∀ k (h : k < s.size), 65 ≤ s[k].toNat ∧ s[k].toNat ≤ 90) := hr
  have HL : Hid (∀ k, vs k ≤ 9223372036854775807) := hle
  have HE : Hid (((vs s.size : Nat) : Int) = n) := hend
  clear h0 hstep hr hle hend
  go_enter Try.func6, Try.ntmps6
  go_wp2
  go_loop [4, 5, 6] (fun _ v i => ∃ k : Nat, k ≤ s.size ∧ i = .int .i64 k ∧ v = .int .i64 (vs k : Nat)) (fun _ _ i => s.size - (intOf i).toNat)
  case atStart => exact ⟨0, Nat.zero_le _, rfl, by rw [H0.out]; rfl⟩
  case round =>
    obtain ⟨k, hk, rfl, rfl⟩ := hrel
    by_cases hlt : k < s.size
    · have h1 := (HR.out k hlt).1
      have h2 := (HR.out k hlt).2
      have h3 := HL.out k
      have h4 : ((vs k : Nat) : Int) ≤ (9223372036854775807 - (((s[k].toNat : Nat) : Int) - 65 + 1)) / 26 := by
        have a := HS.out k hlt
        have b := HL.out (k + 1)
        omega
      go_wp2
      go_round
      case rel => exact ⟨u4, .int .i64 ((vs (k + 1) : Nat) : Int), .int .i64 ((k + 1 : Nat) : Int), ⟨k + 1, by omega, rfl, rfl⟩, rfl, by rw [HS.out k hlt]; congr 1; omega, by go_num⟩
      case measure => simp [intOf]; omega
    · have hkk : k = s.size := by omega
      have HK : Hid (k = s.size) := hkk
      clear hkk
      have he : (((vs k : Nat) : Int) == n) = true := by rw [HK.out, HE.out]; simp
      go_wp2
      go_ret
      exact ⟨rfl, rfl⟩


/-- zzWidth: 'T k' is 26 + 26^2 + .. + 26^k. -/
theorem width_any (b : Int) (n : Nat) (hbn : b = n) (r : Nat) (hr : (Plain.letters n).length = r) (hn0 : 0 < n) (hn : n ≤ 9223372036854775807) (w : World) :
    Calls Try.prog 8 #[.int .i64 b] w fun e w' => e = .returned (.int .i64 (r : Nat)) ∧ w' = w := by
  subst hbn
  have HL : Hid ((Plain.letters n).length = r) := hr
  clear hr
  go_enter Try.func8, Try.ntmps8
  go_wp2
  go_loop [3, 4, 5] (fun k p t => ∃ j : Nat, k = .int .i64 ((j + 1 : Nat) : Int) ∧ p = .int .i64 ((26 ^ (j + 1) : Nat) : Int) ∧ t = .int .i64 ((Plain.T (j + 1) : Nat) : Int) ∧ Plain.T j < n ∧ Plain.T (j + 1) ≤ 9223372036854775807)
    (fun _ _ t => n - (intOf t).toNat)
  case atStart => exact ⟨0, rfl, rfl, rfl, hn0, by decide⟩
  case round =>
    obtain ⟨j, rfl, rfl, rfl, hj, hT⟩ := hrel
    obtain ⟨q, hq⟩ : ∃ q, q = 26 ^ (j + 1) := ⟨_, rfl⟩
    obtain ⟨t, ht⟩ : ∃ t, t = Plain.T (j + 1) := ⟨_, rfl⟩
    have ht2 : Plain.T (j + 1 + 1) = t + 26 * q := by
      rw [ht, hq, Plain.T, Nat.pow_succ 26 (j + 1), Nat.mul_comm]
    have hq1 : 1 ≤ q := by rw [hq]; exact Nat.pow_pos (by decide)
    have hqt : q ≤ t := by rw [ht, hq, Plain.T]; omega
    have hjt : j + 1 ≤ t := by rw [ht]; exact Plain.le_T _
    rw [← hq, ← ht]
    rw [← ht] at hT
    have HQ : Hid (q = 26 ^ (j + 1)) := hq
    have HT : Hid (t = Plain.T (j + 1)) := ht
    have HT2 : Hid (Plain.T (j + 1 + 1) = t + 26 * q) := ht2
    clear hq ht ht2
    by_cases hlt : t < n
    · by_cases hov : (q : Int) ≤ (9223372036854775807 - (t : Int)) / 26
      · go_wp2
        go_round
        case rel =>
          exact ⟨j + 1, by go_num, by rw [Nat.pow_succ, ← HQ.out]; go_num, by rw [HT2.out]; congr 1; omega, by rw [← HT.out]; exact hlt, by rw [HT2.out]; omega⟩
        case measure => simp [intOf]; omega
      · have hlen : (Plain.letters n).length = j + 1 + 1 := Plain.length_eq n (j + 1) (by rw [← HT.out]; exact hlt) (by rw [HT2.out]; omega)
        have HN : Hid ((Plain.letters n).length = j + 1 + 1) := hlen
        clear hlen
        go_wp2
        go_ret
        exact ⟨by rw [← HL.out, HN.out]; congr 2, rfl⟩
    · have hlen : (Plain.letters n).length = j + 1 := Plain.length_eq n j hj (by rw [← HT.out]; omega)
      have HN : Hid ((Plain.letters n).length = j + 1) := hlen
      clear hlen
      go_wp2
      go_ret
      exact ⟨by rw [← HL.out, HN.out]; congr 2, rfl⟩

end Go.Proofs.Qxb6619460a
