import Derived.Test.Qxb6619460aWalkA
import Derived.Test.Qxb6619460aWalkB
import Derived.Test.Qxb6619460aWalkE
namespace Go.Proofs.Qxb6619460a
open Go.RowKit

/-! ### The contracts at a name -/
theorem nm_size (n : Nat) : (nm n).size = (Plain.word n).length := by
  unfold nm; rw [strOfNums_size]; simp [nums]

theorem nm_get (n k : Nat) (h : k < (nm n).size) (h' : k < (Plain.word n).length) : (nm n)[k].toNat = (Plain.word n)[k] := by
  have hr := Plain.word_range n _ (List.getElem_mem h')
  have e : (nm n)[k] = UInt8.ofNat ((Plain.word n)[k] : Int).toNat := by
    show (nm n).data[k] = _
    simp [nm, strOfNums, nums]
  rw [e]
  simp
  omega

theorem nm_size_le (n : Nat) (h : n ≤ 9223372036854775807) : (nm n).size ≤ 64 := by
  have := Plain.length_le n h
  rw [nm_size, Plain.word_length]
  omega

theorem bij_nm (a : Int) (h0 : 0 ≤ a) (h1 : a < 9223372036854775807) (w : World) :
    Calls Try.prog 6 #[.string (nm (a + 1).toNat), .int .i64 (a + 1)] w fun e w' => e = .returned (.bool true) ∧ w' = w := by
  have key : ∀ n : Nat, 0 < n → n ≤ 9223372036854775807 → 0 < (nm n).size ∧ (Plain.val 0 ((Plain.word n).take 0) = 0) ∧
      (∀ k (h : k < (nm n).size), Plain.val 0 ((Plain.word n).take (k + 1)) = Plain.val 0 ((Plain.word n).take k) * 26 + ((nm n)[k].toNat - 64)) ∧
      (∀ k (h : k < (nm n).size), 65 ≤ (nm n)[k].toNat ∧ (nm n)[k].toNat ≤ 90) ∧ (∀ k, Plain.val 0 ((Plain.word n).take k) ≤ 9223372036854775807) ∧
      Plain.val 0 ((Plain.word n).take (nm n).size) = n := by
    intro n hn0 hn
    have hword : ∀ k, k < (nm n).size → k < (Plain.word n).length := fun k h => by rw [← nm_size]; exact h
    refine ⟨?_, rfl, fun k h => ?_, fun k h => ?_, fun k => ?_, by rw [nm_size, List.take_length, Plain.val_word]⟩
    · rw [nm_size, Plain.word_length]; exact List.length_pos_iff.2 (Plain.letters_ne n hn0)
    · rw [Plain.take_snoc _ k (hword k h), Plain.val_snoc, nm_get n k h (hword k h)]
    · rw [nm_get n k h (hword k h)]
      exact Plain.word_range n _ (List.getElem_mem (hword k h))
    · have := Plain.val_take_le n k
      omega
  have c0 : 0 < (a + 1).toNat := by omega
  have cm : (a + 1).toNat ≤ 9223372036854775807 := by omega
  obtain ⟨c1, c2, c3, c4, c5, c6⟩ := key (a + 1).toNat c0 cm
  exact bij_core (nm (a + 1).toNat) (a + 1) (fun k => Plain.val 0 ((Plain.word (a + 1).toNat).take k)) w c1 (nm_size_le _ cm) c2 c3 c4 c5 (by show ((Plain.val 0 ((Plain.word (a + 1).toNat).take (nm (a + 1).toNat).size) : Nat) : Int) = a + 1; rw [c6]; omega)

theorem next_nm (a : Int) (h0 : 0 ≤ a) (h1 : a + 1 < 9223372036854775807) (w : World) :
    Calls Try.prog 7 #[.string (nm (a + 1).toNat)] w fun e w' => e = .returned (.string (nm (a + 1 + 1).toNat)) ∧ Below w.heap.size w w' := by
  have hn2 : (a + 1 + 1).toNat = (a + 1).toNat + 1 := by omega
  have hle : (a + 1).toNat ≤ 9223372036854775807 := by omega
  have hres : strOfNums (nums (Plain.up (Plain.word (a + 1).toNat).reverse).reverse) = nm (a + 1 + 1).toNat := by rw [Plain.next_word, hn2, nm]
  exact next_any (nm (a + 1).toNat) (Plain.word (a + 1).toNat) (nm_size _) (fun k h h' => nm_get _ k h h') (nm_size_le _ hle) (Plain.word_range _) _ hres w

theorem width_nm (a : Int) (h0 : 0 ≤ a) (h1 : a < 9223372036854775807) (w : World) :
    Calls Try.prog 8 #[.int .i64 (a + 1)] w fun e w' => e = .returned (.int .i64 ((nm (a + 1).toNat).size : Nat)) ∧ w' = w := by
  have ha : a + 1 = (((a + 1).toNat : Nat) : Int) := by omega
  have hr : (Plain.letters (a + 1).toNat).length = (nm (a + 1).toNat).size := by rw [nm_size, Plain.word_length]
  have c0 : 0 < (a + 1).toNat := by omega
  have cm : (a + 1).toNat ≤ 9223372036854775807 := by omega
  exact width_any (a + 1) (a + 1).toNat ha _ hr c0 cm w

/-- The sign of a - b. -/
def sgn (a b : Int) : Int := if a < b then -1 else if b < a then 1 else 0

theorem shortlex_n (n m : Nat) (r : Int) (hn : n ≤ 9223372036854775807) (hm : m ≤ 9223372036854775807) (hlt : n < m → r = -1) (hgt : m < n → r = 1) (heq : n = m → r = 0) (w : World) :
    Calls Try.prog 9 #[.string (nm n), .string (nm m)] w fun e w' => e = .returned (.int .i64 r) ∧ Below w.heap.size w w' := by
  have sn := nm_size_le n hn
  have sm := nm_size_le m hm
  rcases Nat.lt_trichotomy (nm n).size (nm m).size with h | h | h
  · refine (shortlex_lt _ _ w h sm).mono fun e w' ⟨he, hw⟩ => ⟨?_, by rw [hw]; exact Below.refl _ _⟩
    rw [he, hlt (Plain.lt_of_shorter n m (by rw [← nm_size, ← nm_size]; exact h))]
  · have hl : (Plain.word n).length = (Plain.word m).length := by rw [← nm_size, ← nm_size]; exact h
    have same : ∀ k, k ≤ (nm n).size → (∀ i (h : i < (nm n).size) (h' : i < (nm m).size), i < k → (nm n)[i] = (nm m)[i]) → (Plain.word n).take k = (Plain.word m).take k := by
      intro k hk hs
      apply List.ext_getElem
      · simp [hl]
      · intro i h1 h2
        have i1 : i < (Plain.word n).length := by simp at h1; omega
        have i2 : i < (Plain.word m).length := by omega
        have ik : i < k := by simp at h1; omega
        have j1 : i < (nm n).size := by rw [nm_size]; exact i1
        have j2 : i < (nm m).size := by rw [nm_size]; exact i2
        rw [List.getElem_take, List.getElem_take, ← nm_get n i j1 i1, ← nm_get m i j2 i2, hs i j1 j2 ik]
    refine shortlex_same _ _ _ w (by omega) (by omega) sn ?_ ?_ ?_
    · intro k h1 h2 hs hk
      have i1 : k < (Plain.word n).length := by rw [← nm_size]; exact h1
      have i2 : k < (Plain.word m).length := by rw [← nm_size]; exact h2
      refine hlt (Plain.lt_of_diff n m k hl i1 (same k (by omega) hs) ?_)
      rw [getElem!_pos (Plain.word n) k i1, getElem!_pos (Plain.word m) k i2, ← nm_get n k h1 i1, ← nm_get m k h2 i2]
      exact hk
    · intro k h1 h2 hs hk
      have i1 : k < (Plain.word n).length := by rw [← nm_size]; exact h1
      have i2 : k < (Plain.word m).length := by rw [← nm_size]; exact h2
      refine hgt (Plain.lt_of_diff m n k hl.symm i2 (same k (by omega) hs).symm ?_)
      rw [getElem!_pos (Plain.word n) k i1, getElem!_pos (Plain.word m) k i2, ← nm_get n k h1 i1, ← nm_get m k h2 i2]
      exact hk
    · intro hs
      refine heq (Plain.eq_of_same n m ?_)
      have := same (nm n).size (Nat.le_refl _) (fun i h h' _ => hs i h h')
      rw [nm_size, List.take_length, hl, List.take_length] at this
      exact this
  · refine (shortlex_gt _ _ w h sn).mono fun e w' ⟨he, hw⟩ => ⟨?_, by rw [hw]; exact Below.refl _ _⟩
    rw [he, hgt (Plain.lt_of_shorter m n (by rw [← nm_size, ← nm_size]; exact h))]

theorem shortlex_nm (a b : Int) (ha0 : 0 ≤ a) (ha1 : a < 9223372036854775807) (hb0 : 0 ≤ b) (hb1 : b < 9223372036854775807) (w : World) :
    Calls Try.prog 9 #[.string (nm (a + 1).toNat), .string (nm (b + 1).toNat)] w fun e w' => e = .returned (.int .i64 (sgn a b)) ∧ Below w.heap.size w w' := by
  have hlt : (a + 1).toNat < (b + 1).toNat → sgn a b = -1 := fun h => by unfold sgn; rw [if_pos (by omega)]
  have hgt : (b + 1).toNat < (a + 1).toNat → sgn a b = 1 := fun h => by unfold sgn; rw [if_neg (by omega), if_pos (by omega)]
  have heq : (a + 1).toNat = (b + 1).toNat → sgn a b = 0 := fun h => by unfold sgn; rw [if_neg (by omega), if_neg (by omega)]
  have cn : (a + 1).toNat ≤ 9223372036854775807 := by omega
  have cm : (b + 1).toNat ≤ 9223372036854775807 := by omega
  exact shortlex_n _ _ _ cn cm hlt hgt heq w

end Go.Proofs.Qxb6619460a
