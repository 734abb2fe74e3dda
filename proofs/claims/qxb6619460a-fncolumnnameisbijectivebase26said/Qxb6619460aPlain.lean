/-
  THE PLAIN MATHEMATICS OF COLUMN NAMES: no Go in sight. 'letters n': the letters of the bijective base-26 numeral of n, the LEAST significant first, as numbers 65 .. 90.
-/
namespace Go.Proofs.Qxb6619460a.Plain

/-- The letters of n, least significant first, with fuel. -/
def rev : Nat → Nat → List Nat
  | 0, _ => []
  | f + 1, n => if n = 0 then [] else (65 + (n - 1) % 26) :: rev f ((n - 1) / 26)

theorem rev_fuel : ∀ (f g n : Nat), n ≤ f → n ≤ g → rev f n = rev g n
  | 0, 0, _, _, _ => rfl
  | 0, g + 1, n, h, _ => by
    have : n = 0 := by omega
    subst this; simp [rev]
  | f + 1, 0, n, _, h => by
    have : n = 0 := by omega
    subst this; simp [rev]
  | f + 1, g + 1, n, h1, h2 => by
    by_cases hn : n = 0
    · subst hn; simp [rev]
    · simp only [rev, if_neg hn]
      rw [rev_fuel f g ((n - 1) / 26) (by omega) (by omega)]

def letters (n : Nat) : List Nat := rev n n

theorem letters_zero : letters 0 = [] := rfl

theorem letters_pos (n : Nat) (h : 0 < n) : letters n = (65 + (n - 1) % 26) :: letters ((n - 1) / 26) := by
  obtain ⟨m, rfl⟩ : ∃ m, n = m + 1 := ⟨n - 1, by omega⟩
  unfold letters
  rw [rev, if_neg (by omega)]
  rw [rev_fuel m ((m + 1 - 1) / 26) ((m + 1 - 1) / 26) (by omega) (Nat.le_refl _)]

/-- A strong induction in one word. -/
theorem strong {p : Nat → Prop} (h : ∀ n, (∀ m, m < n → p m) → p n) (n : Nat) : p n := by
  have key : ∀ k m, m < k → p m := by
    intro k
    induction k with
    | zero => intro m hm; omega
    | succ k ih => intro m hm; exact h m (fun j hj => ih j (by omega))
  exact key (n + 1) n (by omega)

theorem letters_range (n : Nat) : ∀ x ∈ letters n, 65 ≤ x ∧ x ≤ 90 := by
  induction n using strong with
  | h n ih =>
    by_cases hn : n = 0
    · subst hn; intro x hx; rw [letters_zero] at hx; simp at hx
    · intro x hx
      rw [letters_pos n (by omega)] at hx
      rcases List.mem_cons.1 hx with rfl | hx
      · omega
      · exact ih _ (by omega) x hx

theorem letters_ne (n : Nat) (h : 0 < n) : letters n ≠ [] := by rw [letters_pos n h]; simp

/-- The odometer's step, least significant letter first. -/
def up : List Nat → List Nat
  | [] => [65]
  | d :: r => if d = 90 then 65 :: up r else (d + 1) :: r

theorem letters_up (n : Nat) : letters (n + 1) = up (letters n) := by
  induction n using strong with
  | h n ih =>
    by_cases hn : n = 0
    · subst hn
      rw [letters_pos (0 + 1) (by omega)]
      simp [letters_zero, up]
    · rw [letters_pos (n + 1) (by omega), letters_pos n (by omega), up]
      by_cases hd : (n - 1) % 26 = 25
      · rw [if_pos (by omega)]
        have e1 : n % 26 = 0 := by omega
        have e2 : n / 26 = (n - 1) / 26 + 1 := by omega
        rw [Nat.add_sub_cancel, e1, e2, ih _ (by omega)]
      · rw [if_neg (by omega)]
        have e1 : n % 26 = (n - 1) % 26 + 1 := by omega
        have e2 : n / 26 = (n - 1) / 26 := by omega
        rw [Nat.add_sub_cancel, e1, e2]
        simp [Nat.add_assoc]

theorem up_run (j : Nat) (r : List Nat) : up (List.replicate j 90 ++ r) = List.replicate j 65 ++ up r := by
  induction j with
  | zero => simp
  | succ j ih => simp [List.replicate_succ, up, ih]

/-- The value of a word, most significant letter first. -/
def val (v : Nat) : List Nat → Nat
  | [] => v
  | d :: r => val (v * 26 + (d - 64)) r

theorem val_append (v : Nat) (a b : List Nat) : val v (a ++ b) = val (val v a) b := by
  induction a generalizing v with
  | nil => rfl
  | cons d r ih => exact ih _

theorem val_ge (v : Nat) (a : List Nat) : v ≤ val v a := by
  induction a generalizing v with
  | nil => exact Nat.le_refl _
  | cons d r ih => exact Nat.le_trans (by omega) (ih _)

theorem val_snoc (v : Nat) (a : List Nat) (d : Nat) : val v (a ++ [d]) = val v a * 26 + (d - 64) := by
  rw [val_append]; rfl

/-- The name of column n - 1: most significant letter first. -/
def word (n : Nat) : List Nat := (letters n).reverse

theorem word_zero : word 0 = [] := rfl
theorem word_pos (n : Nat) (h : 0 < n) : word n = word ((n - 1) / 26) ++ [65 + (n - 1) % 26] := by
  unfold word; rw [letters_pos n h]; simp
theorem word_range (n : Nat) : ∀ x ∈ word n, 65 ≤ x ∧ x ≤ 90 := fun x hx => letters_range n x (List.mem_reverse.1 hx)
theorem word_length (n : Nat) : (word n).length = (letters n).length := by simp [word]

theorem val_word (n : Nat) : val 0 (word n) = n := by
  induction n using strong with
  | h n ih =>
    by_cases hn : n = 0
    · subst hn; rfl
    · rw [word_pos n (by omega), val_snoc, ih _ (by omega)]
      omega

theorem val_take_le (n k : Nat) : val 0 ((word n).take k) ≤ n := by
  have h : val 0 ((word n).take k ++ (word n).drop k) = n := by rw [List.take_append_drop, val_word]
  rw [val_append] at h
  have := val_ge (val 0 ((word n).take k)) ((word n).drop k)
  omega

/-- T k = 26 + 26^2 + .. + 26^k. -/
def T : Nat → Nat
  | 0 => 0
  | k + 1 => T k + 26 ^ (k + 1)

theorem T_succ (k : Nat) : T (k + 1) = 26 * T k + 26 := by
  induction k with
  | zero => rfl
  | succ k ih =>
    have h1 : T (k + 1 + 1) = T (k + 1) + 26 ^ (k + 1 + 1) := rfl
    have h2 : T (k + 1) = T k + 26 ^ (k + 1) := rfl
    have h3 : 26 ^ (k + 1 + 1) = 26 * 26 ^ (k + 1) := by rw [Nat.pow_succ, Nat.mul_comm]
    omega

theorem T_mono (k : Nat) : T k < T (k + 1) := by
  have := T_succ k; omega

theorem le_T (k : Nat) : k ≤ T k := by
  induction k with
  | zero => exact Nat.le_refl _
  | succ k ih => have := T_mono k; omega

theorem length_le_iff (k : Nat) : ∀ n, (letters n).length ≤ k ↔ n ≤ T k := by
  induction k with
  | zero =>
    intro n
    by_cases hn : n = 0
    · subst hn; simp [letters_zero]
    · have := letters_ne n (by omega)
      constructor
      · intro h
        exact absurd (List.length_eq_zero_iff.1 (by omega)) this
      · intro h
        have : n ≤ 0 := h
        omega
  | succ k ih =>
    intro n
    by_cases hn : n = 0
    · subst hn; simp [letters_zero]
    · rw [letters_pos n (by omega), List.length_cons, T_succ]
      have := ih ((n - 1) / 26)
      constructor
      · intro h
        have := this.1 (by omega)
        omega
      · intro h
        have := this.2 (by omega)
        omega

theorem length_eq (n k : Nat) (h1 : T k < n) (h2 : n ≤ T (k + 1)) : (letters n).length = k + 1 := by
  have a := (length_le_iff (k + 1) n).2 h2
  have b := mt (length_le_iff k n).1 (by omega)
  omega

/-- Two words of one length whose values so far differ. -/
theorem val_lt : ∀ (a b : List Nat) (u v : Nat), a.length = b.length → (∀ x ∈ a, 65 ≤ x ∧ x ≤ 90) → (∀ x ∈ b, 65 ≤ x ∧ x ≤ 90) → u < v → val u a < val v b
  | [], [], u, v, _, _, _, h => h
  | c :: a, d :: b, u, v, hl, ha, hb, h => by
    have h1 := ha c (by simp)
    have h2 := hb d (by simp)
    exact val_lt a b _ _ (by simpa using hl) (fun x hx => ha x (by simp [hx])) (fun x hx => hb x (by simp [hx])) (by omega)
  | [], d :: b, u, v, hl, _, _, _ => by simp at hl
  | c :: a, [], u, v, hl, _, _, _ => by simp at hl

/-- The first place at which two names of one length differ tells the order. -/
theorem lt_of_diff (a b i : Nat) (hl : (word a).length = (word b).length) (hi : i < (word a).length) (he : (word a).take i = (word b).take i) (hd : (word a)[i]! < (word b)[i]!) : a < b := by
  have ea : val 0 (word a) = a := val_word a
  have eb : val 0 (word b) = b := val_word b
  have hib : i < (word b).length := by omega
  rw [getElem!_pos (word a) i hi, getElem!_pos (word b) i hib] at hd
  have sa : word a = (word a).take i ++ (word a)[i] :: (word a).drop (i + 1) := by simp
  have sb : word b = (word b).take i ++ (word b)[i] :: (word b).drop (i + 1) := by simp
  have ra := word_range a
  have rb := word_range b
  have hda := ra _ (List.getElem_mem hi)
  have hdb := rb _ (List.getElem_mem hib)
  rw [sa, val_append] at ea
  rw [sb, val_append, ← he] at eb
  have := val_lt ((word a).drop (i + 1)) ((word b).drop (i + 1)) (val 0 ((word a).take i) * 26 + ((word a)[i] - 64)) (val 0 ((word a).take i) * 26 + ((word b)[i] - 64))
    (by simp [hl]) (fun x hx => ra x (List.mem_of_mem_drop hx)) (fun x hx => rb x (List.mem_of_mem_drop hx)) (by omega)
  have ea' : val (val 0 ((word a).take i) * 26 + ((word a)[i] - 64)) ((word a).drop (i + 1)) = a := ea
  have eb' : val (val 0 ((word a).take i) * 26 + ((word b)[i] - 64)) ((word b).drop (i + 1)) = b := eb
  omega

theorem eq_of_same (a b : Nat) (h : word a = word b) : a = b := by
  rw [← val_word a, ← val_word b, h]

theorem lt_of_shorter (a b : Nat) (h : (word a).length < (word b).length) : a < b := by
  rw [word_length, word_length] at h
  have h1 := (length_le_iff (letters a).length a).1 (Nat.le_refl _)
  have h2 := mt (length_le_iff (letters a).length b).2 (by omega)
  omega

/-- A name within int's reach has at most 14 letters. -/
theorem length_le (n : Nat) (h : n ≤ 9223372036854775807) : (letters n).length ≤ 14 := by
  refine (length_le_iff 14 n).2 (Nat.le_trans h ?_)
  decide

/-! ### The odometer's row: what 'out' holds -/
def row1 (L : List Nat) (k : Nat) : List Nat := 65 :: (L.take k ++ List.replicate (L.length - k) 0)
def row2 (L : List Nat) (p : Nat) : List Nat := 65 :: (L.take p ++ List.replicate (L.length - p) 65)

theorem row1_zero (L : List Nat) : row1 L 0 = (List.replicate (L.length + 1) 0).set 0 65 := by
  simp [row1, List.replicate_succ]
theorem row1_length (L : List Nat) (k : Nat) (h : k ≤ L.length) : (row1 L k).length = L.length + 1 := by
  simp [row1]; omega
theorem row2_length (L : List Nat) (k : Nat) (h : k ≤ L.length) : (row2 L k).length = L.length + 1 := by
  simp [row2]; omega
theorem row_full (L : List Nat) : row1 L L.length = row2 L L.length := by simp [row1, row2]

theorem set_take_rep (L : List Nat) (k a b : Nat) (h : k < L.length) : (L.take k ++ List.replicate (L.length - k) a).set k b = L.take k ++ b :: List.replicate (L.length - (k + 1)) a := by
  have e : L.length - k = (L.length - (k + 1)) + 1 := by omega
  rw [e, List.replicate_succ, List.set_append_right _ _ (by simp; omega)]
  have : k - (L.take k).length = 0 := by simp; omega
  rw [this]; rfl

theorem take_snoc (L : List Nat) (k : Nat) (h : k < L.length) : L.take (k + 1) = L.take k ++ [L[k]] := by
  rw [List.take_succ_eq_append_getElem h]

theorem row1_set (L : List Nat) (k : Nat) (h : k < L.length) : (row1 L k).set (k + 1) L[k] = row1 L (k + 1) := by
  unfold row1
  rw [List.set_cons_succ, set_take_rep L k 0 L[k] h, take_snoc L k h, List.append_assoc]
  rfl

theorem row2_get (L : List Nat) (p : Nat) (h : p < L.length) : (row2 L (p + 1))[p + 1]? = some L[p] := by
  unfold row2
  rw [List.getElem?_cons_succ, take_snoc L p h, List.append_assoc, List.getElem?_append_right (by simp; omega)]
  have : p - (L.take p).length = 0 := by simp; omega
  rw [this]; rfl

theorem row2_set (L : List Nat) (p b : Nat) (h : p < L.length) : (row2 L (p + 1)).set (p + 1) b = 65 :: (L.take p ++ b :: List.replicate (L.length - (p + 1)) 65) := by
  unfold row2
  rw [List.set_cons_succ, take_snoc L p h, List.append_assoc, List.set_append_right _ _ (by simp; omega)]
  have : p - (L.take p).length = 0 := by simp; omega
  rw [this]; rfl

theorem row2_down (L : List Nat) (p : Nat) (h : p < L.length) : (row2 L (p + 1)).set (p + 1) 65 = row2 L p := by
  rw [row2_set L p 65 h]
  unfold row2
  have e : L.length - p = (L.length - (p + 1)) + 1 := by omega
  rw [e, List.replicate_succ]

theorem next_bump (L : List Nat) (p : Nat) (h : p < L.length) (hd : L.drop (p + 1) = List.replicate (L.length - (p + 1)) 90) (hn : L[p] ≠ 90) :
    (up L.reverse).reverse = L.take p ++ (L[p] + 1) :: List.replicate (L.length - (p + 1)) 65 := by
  have e : L.reverse = List.replicate (L.length - (p + 1)) 90 ++ L[p] :: (L.take p).reverse := by
    have : L = L.take p ++ L[p] :: L.drop (p + 1) := by simp
    conv => lhs; rw [this, hd]
    simp
  rw [e, up_run, up, if_neg hn]
  simp

theorem next_all (L : List Nat) (hd : L.drop 0 = List.replicate (L.length - 0) 90) : (up L.reverse).reverse = row2 L 0 := by
  have e : L.reverse = List.replicate L.length 90 ++ [] := by
    have : L = List.replicate L.length 90 := by simpa using hd
    conv => lhs; rw [this]
    simp
  rw [e, up_run]
  simp [up, row2]

theorem drop_down (L : List Nat) (p : Nat) (h : p < L.length) (hd : L.drop (p + 1) = List.replicate (L.length - (p + 1)) 90) (hn : L[p] = 90) : L.drop p = List.replicate (L.length - p) 90 := by
  have e : L.length - p = (L.length - (p + 1)) + 1 := by omega
  rw [List.drop_eq_getElem_cons h, hd, hn, e, List.replicate_succ]

theorem next_word (n : Nat) : (up (word n).reverse).reverse = word (n + 1) := by
  unfold word
  rw [letters_up, List.reverse_reverse]

end Go.Proofs.Qxb6619460a.Plain
