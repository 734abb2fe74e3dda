import Derived.Test.Qxb6619461aBegins
namespace Go.Proofs.Qxb6619461a

/-! ### The plain law of FnBeginsIsTextBeforeNewline -/
theorem split_of_pre {bs L : List UInt8} (h : preB bs L = true) : bs = L ++ bs.drop L.length := by
  unfold preB at h
  have h' : bs.take L.length = L := by simpa using h
  conv => lhs; rw [← List.take_append_drop L.length bs, h']

theorem not_pre {bs L : List UInt8} (h : preB bs L = false) (r : List UInt8) : bs ≠ L ++ r := by
  intro e
  subst e
  unfold preB at h
  simp at h

theorem restB_none {r : List UInt8} (h : ∀ x ∈ r, x ≠ 10) : restB r = (r == []) := by
  match r with
  | [] => rfl
  | [c] =>
    have := h c (by simp)
    simp [restB, preB, this]
  | c :: d :: r =>
    have h1 := h c (by simp)
    have h2 := h d (by simp)
    simp [restB, preB, h1, h2]

theorem no_newline (bs L : List UInt8) (h : ∀ j (hj : j < bs.length), L.length ≤ j → bs[j] ≠ 10) : begins bs L = (bs == L) := by
  unfold begins
  by_cases hp : preB bs L = true
  · obtain ⟨r, hr⟩ : ∃ r, r = bs.drop L.length := ⟨_, rfl⟩
    have e : bs = L ++ r := by rw [hr]; exact split_of_pre hp
    have hn : ∀ x ∈ r, x ≠ 10 := by
      intro x hx
      obtain ⟨i, hi, rfl⟩ := List.getElem_of_mem hx
      have hi' : i < (bs.drop L.length).length := by rw [← hr]; exact hi
      have hb : L.length + i < bs.length := by simp at hi'; omega
      have := h (L.length + i) hb (by omega)
      intro e10
      apply this
      rw [← e10]
      subst hr
      simp
    rw [hp, ← hr, restB_none hn]
    conv => rhs; rw [e]
    rw [Bool.true_and, Bool.eq_iff_iff, beq_iff_eq, beq_iff_eq]
    constructor
    · intro h0; rw [h0]; simp
    · intro h0; simpa using h0
  · have hp' : preB bs L = false := by simpa using hp
    rw [hp', Bool.false_and]
    symm
    rw [beq_eq_false_iff_ne]
    have := not_pre hp' []
    simpa using this

theorem at_newline (bs L : List UInt8) (k : Nat) (hk : k < bs.length) (hL : L.length ≤ k) (h10 : bs[k] = 10) (h : ∀ j (hj : j < bs.length), L.length ≤ j → j < k → bs[j] ≠ 10) :
    begins bs L = ((bs.take k == L) || (bs.take k == L ++ [13])) := by
  unfold begins
  by_cases hp : preB bs L = true
  · obtain ⟨j, rfl⟩ : ∃ j, k = L.length + j := ⟨k - L.length, by omega⟩
    obtain ⟨r, hr⟩ : ∃ r, r = bs.drop L.length := ⟨_, rfl⟩
    have e : bs = L ++ r := by rw [hr]; exact split_of_pre hp
    rw [hp, ← hr, Bool.true_and]
    clear hr hp
    subst e
    have hj : j < r.length := by simp at hk; omega
    have r10 : r[j] = 10 := by rw [← h10]; simp
    have rn : ∀ i (hi : i < r.length), i < j → r[i] ≠ 10 := by
      intro i hi hij
      have := h (L.length + i) (by simp; omega) (by omega) (by omega)
      simpa using this
    rw [List.take_length_add_append]
    have e1 : ((L ++ r.take j) == L) = (r.take j == []) := by
      rw [Bool.eq_iff_iff, beq_iff_eq, beq_iff_eq]
      constructor
      · intro h0; simpa using h0
      · intro h0; rw [h0]; simp
    have e2 : ((L ++ r.take j) == L ++ [13]) = (r.take j == [13]) := by
      rw [Bool.eq_iff_iff, beq_iff_eq, beq_iff_eq]
      constructor
      · intro h0; exact List.append_cancel_left h0
      · intro h0; rw [h0]
    rw [e1, e2]
    match j, r, hj, r10, rn with
    | 0, c :: r, _, r10, _ =>
      have : c = 10 := r10
      subst this
      simp [restB]
    | 1, c :: d :: r, _, r10, rn =>
      have hd : d = 10 := r10
      have hc : c ≠ 10 := rn 0 (by simp) (by decide)
      subst hd
      simp [restB, preB, hc]
    | j + 2, c :: d :: r, _, _, rn =>
      have hc : c ≠ 10 := rn 0 (by simp) (by omega)
      have hd : d ≠ 10 := rn 1 (by simp) (by omega)
      simp [restB, preB, hc, hd]
  · have hp' : preB bs L = false := by simpa using hp
    rw [hp', Bool.false_and]
    have n1 : (bs.take k == L) = false := by
      rw [beq_eq_false_iff_ne]
      intro e
      exact not_pre hp' (bs.drop k) (by rw [← e, List.take_append_drop])
    have n2 : (bs.take k == L ++ [13]) = false := by
      rw [beq_eq_false_iff_ne]
      intro e
      exact not_pre hp' ([13] ++ bs.drop k) (by rw [← List.append_assoc, ← e, List.take_append_drop])
    rw [n1, n2]
    rfl

theorem at_newline_cut (bs L : List UInt8) (k : Nat) (hk : k < bs.length) (hL : L.length ≤ k) (h10 : bs[k] = 10) (h : ∀ j (hj : j < bs.length), L.length ≤ j → j < k → bs[j] ≠ 10) :
    begins (bs.take (k + 1)) L = ((bs.take k == L) || (bs.take k == L ++ [13])) := by
  have hl : k < (bs.take (k + 1)).length := by simp; omega
  have := at_newline (bs.take (k + 1)) L k hl hL (by simpa using h10) (fun j hj h1 h2 => by
    have hjb : j < bs.length := by omega
    have := h j hjb h1 h2
    simpa using this)
  rw [this, List.take_take, Nat.min_eq_left (by omega)]
end Go.Proofs.Qxb6619461a
