import Derived.Test.Qxb6619461aBegins
import Derived.Deep.QuietTactic
import Derived.BigQuiet
namespace Go.Proofs.Qxb6619461a
open Go.RowKit

theorem byte_at (s : ByteArray) (k : Nat) (_h : k < s.size) (h' : k < s.data.toList.length) : s.data.toList[k] = s[k] := rfl

theorem eq_of_all (bs : List UInt8) (s : ByteArray) (hl : bs.length = s.size) (h : ∀ k (h1 : k < bs.length) (h2 : k < s.size), bs[k].toNat = s[k].toNat) : bs = s.data.toList := by
  apply List.ext_getElem
  · rw [bytes_len]; exact hl
  · intro i h1 h2
    have h3 : i < s.size := by omega
    rw [byte_at s i h3 h2]
    exact UInt8.toNat_inj.1 (h i h1 h3)

theorem ne_of_one (bs : List UInt8) (s : ByteArray) (k : Nat) (h1 : k < bs.length) (h2 : k < s.size) (h : bs[k].toNat ≠ s[k].toNat) : bs ≠ s.data.toList := by
  intro e
  subst e
  exact h rfl

set_option maxHeartbeats 400000 in
theorem eqt_len (a : Option Addr) (n c : Nat) (s : ByteArray) (w : World) (h : n < s.size ∨ s.size < n) (_h1 : n ≤ 1048576) (_h2 : s.size ≤ 1048576) :
    Calls Try.prog 7 #[.slice a n c, .string s] w fun e w' => e = .returned (.bool false) ∧ Below w.heap.size w w' := by
  have ht : (((n : Nat) : Int) != (s.size : Int)) = true := by simp; omega
  clear h
  go_enter Try.func7, Try.ntmps7
  go_wp2
  go_ret
  exact ⟨rfl, Below.refl _ _⟩

set_option maxHeartbeats 400000 in
theorem eqt_zero (a : Option Addr) (c : Nat) (s : ByteArray) (w : World) (h : s.size = 0) :
    Calls Try.prog 7 #[.slice a 0 c, .string s] w fun e w' => e = .returned (.bool true) ∧ Below w.heap.size w w' := by
  have ht : (((0 : Nat) : Int) != (s.size : Int)) = false := by rw [h]; rfl
  have hs : s.size ≤ 0 := by omega
  clear h
  go_enter Try.func7, Try.ntmps7
  go_wp2
  go_loop [4, 5] (fun _ i => i = .int .i64 0) (fun _ _ => 0)
  case atStart => rfl
  case round =>
    subst hrel
    go_wp2
    go_ret
    exact ⟨rfl, Below.refl _ _⟩

set_option maxHeartbeats 1000000 in
theorem eqt_same (g c : Nat) (bs : List UInt8) (s : ByteArray) (w : World) (n : Nat) (hn : bs.length = n) (hns : n ≤ s.size) (hsn : s.size ≤ n) (hbig : n ≤ 1048576) (hcs : CellsB w g 0 bs) (r : Bool) (hr : (bs == s.data.toList) = r) :
    Calls Try.prog 7 #[.slice (some ⟨g, 0, none⟩) n c, .string s] w fun e w' => e = .returned (.bool r) ∧ Below w.heap.size w w' := by
  have HN : Hid (bs.length = n) := hn
  have HR : Hid ((bs == s.data.toList) = r) := hr
  have HC : Hid (CellsB w g 0 bs) := hcs
  clear hn hr hcs
  have ht : (((n : Nat) : Int) != (s.size : Int)) = false := by simp; omega
  go_enter Try.func7, Try.ntmps7
  go_wp2
  go_loopw [4, 5] (fun _ i wr => ∃ k : Nat, k ≤ s.size ∧ i = .int .i64 k ∧ Hid (∀ j (h1 : j < bs.length) (h2 : j < s.size), j < k → bs[j].toNat = s[j].toNat) ∧ Below w.heap.size w wr) (fun _ i _ => s.size - (intOf i).toNat)
  case atStart => exact ⟨0, Nat.zero_le _, rfl, fun j _ _ h => absurd h (Nat.not_lt_zero _), Below.refl _ _⟩
  case round =>
    obtain ⟨k, hk, rfl, hsame, hbel⟩ := hrel
    by_cases hlt : k < s.size
    · have hkb : k < bs.length := by rw [HN.out]; omega
      have hgw : g < w.heap.size := HC.out.lt (by intro e; rw [e] at hkb; exact absurd hkb (Nat.not_lt_zero _))
      obtain ⟨x, hx⟩ : ∃ x : Nat, x = bs[k].toNat := ⟨_, rfl⟩
      have hcell : wr.cell? ⟨g, k, none⟩ = some (.int .u8 ((x : Nat) : Int)) := by
        rw [hbel.cell (p := ⟨g, k, none⟩) hgw, hx]
        have := HC.out k hkb
        rw [Nat.zero_add] at this
        exact this
      have HX : Hid (x = bs[k].toNat) := hx
      clear hx
      have i1 : (k : Int) < (n : Int) := by omega
      have i2 : (k : Int) < (s.size : Int) := by omega
      go_wp2_with fail
      go_quiet (fail)
      have hb1 := below_drewN hbel nq
      by_cases hne : x = s[k].toNat
      · have hsame' : Hid (∀ j (h1 : j < bs.length) (h2 : j < s.size), j < k + 1 → bs[j].toNat = s[j].toNat) := by
          intro j h1 h2 hj
          by_cases hjk : j = k
          · subst hjk; rw [← HX.out]; exact hne
          · exact hsame.out j h1 h2 (by omega)
        have hq : (((x : Nat) : Int) != ((s[k].toNat : Nat) : Int)) = false := by simp [hne]
        clear hne
        go_wp2
        go_roundw
        case rel => exact ⟨k + 1, by omega, by go_num, hsame', hb1⟩
        case measure => simp [intOf]; omega
      · have hq : (((x : Nat) : Int) != ((s[k].toNat : Nat) : Int)) = true := by simp; omega
        have hrf : r = false := by
          rw [← HR.out, beq_eq_false_iff_ne]
          exact ne_of_one bs s k hkb hlt (by rw [← HX.out]; exact hne)
        have HF : Hid (r = false) := hrf
        clear hne hrf
        go_wp2
        go_ret
        exact ⟨by rw [HF.out]; rfl, hb1⟩
    · have hrt : r = true := by
        rw [← HR.out]
        have := eq_of_all bs s (by rw [HN.out]; omega) (fun j h1 h2 => hsame.out j h1 h2 (by omega))
        rw [← this]
        simp
      have HF : Hid (r = true) := hrt
      clear hrt
      go_wp2
      go_ret
      exact ⟨by rw [HF.out]; rfl, hbel⟩

theorem eqt_at (g c : Nat) (bs : List UInt8) (s : ByteArray) (w : World) (n : Nat) (hn : bs.length = n) (hbig : n ≤ 1048576) (hs : s.size ≤ 1048576) (hcs : CellsB w g 0 bs) (r : Bool) (hr : (bs == s.data.toList) = r) :
    Calls Try.prog 7 #[.slice (some ⟨g, 0, none⟩) n c, .string s] w fun e w' => e = .returned (.bool r) ∧ Below w.heap.size w w' := by
  by_cases h : n < s.size ∨ s.size < n
  · have e : r = false := by
      rw [← hr, beq_eq_false_iff_ne]
      intro e
      have := congrArg List.length e
      rw [bytes_len] at this
      omega
    rw [e]
    exact eqt_len _ n c s w h hbig hs
  · exact eqt_same g c bs s w n hn (by omega) (by omega) hbig hcs r hr

theorem eqt_nil (s : ByteArray) (w : World) (hs : s.size ≤ 1048576) (r : Bool) (hr : (([] : List UInt8) == s.data.toList) = r) :
    Calls Try.prog 7 #[.slice none 0 0, .string s] w fun e w' => e = .returned (.bool r) ∧ Below w.heap.size w w' := by
  rcases Nat.eq_zero_or_pos s.size with h | h
  · have e : r = true := by
      rw [← hr]
      have := eq_of_all [] s (by rw [h]; rfl) (fun k h1 => absurd h1 (Nat.not_lt_zero _))
      rw [← this]; rfl
    rw [e]
    exact eqt_zero none 0 s w h
  · have e : r = false := by
      rw [← hr, beq_eq_false_iff_ne]
      intro e
      have := congrArg List.length e
      rw [bytes_len] at this
      have h0 : ([] : List UInt8).length = 0 := rfl
      omega
    rw [e]
    exact eqt_len none 0 0 s w (.inl h) (by decide) hs

/-! ### eqTextCR -/
set_option maxHeartbeats 400000 in
theorem eqc_len (a : Option Addr) (n c : Nat) (s : ByteArray) (w : World) (h : n < s.size + 1 ∨ s.size + 1 < n) (_h1 : n ≤ 1048576) (_h2 : s.size ≤ 1048576) :
    Calls Try.prog 8 #[.slice a n c, .string s] w fun e w' => e = .returned (.bool false) ∧ Below w.heap.size w w' := by
  have ht : (((n : Nat) : Int) != (s.size : Int) + 1) = true := by simp; omega
  clear h
  go_enter Try.func8, Try.ntmps8
  go_wp2
  go_ret
  exact ⟨rfl, Below.refl _ _⟩

set_option maxHeartbeats 400000 in
theorem eqc_other (g c : Nat) (s : ByteArray) (w : World) (n y : Nat) (hns : n ≤ s.size + 1) (hsn : s.size + 1 ≤ n) (_hbig : n ≤ 1048576) (hcell : w.cell? ⟨g, s.size, none⟩ = some (.int .u8 ((y : Nat) : Int))) (hy : ¬ y = 13) :
    Calls Try.prog 8 #[.slice (some ⟨g, 0, none⟩) n c, .string s] w fun e w' => e = .returned (.bool false) ∧ Below w.heap.size w w' := by
  have ht : (((n : Nat) : Int) != (s.size : Int) + 1) = false := by simp; omega
  have hy' : (((y : Nat) : Int) != 13) = true := by simp; omega
  clear hy
  go_enter Try.func8, Try.ntmps8
  go_wp2
  go_ret
  exact ⟨rfl, Below.refl _ _⟩

set_option maxHeartbeats 1000000 in
theorem eqc_same (g c : Nat) (bs : List UInt8) (s : ByteArray) (w : World) (n : Nat) (hn : bs.length = n) (hns : n ≤ s.size + 1) (hsn : s.size + 1 ≤ n) (hbig : n ≤ 1048576) (hcs : CellsB w g 0 bs) (hcr : w.cell? ⟨g, s.size, none⟩ = some (.int .u8 13)) (r : Bool) (hr : (bs.take s.size == s.data.toList) = r) :
    Calls Try.prog 8 #[.slice (some ⟨g, 0, none⟩) n c, .string s] w fun e w' => e = .returned (.bool r) ∧ Below w.heap.size w w' := by
  have hlt0 : (bs.take s.size).length = s.size := by rw [List.length_take]; omega
  have HN : Hid (bs.length = n) := hn
  have HL : Hid ((bs.take s.size).length = s.size) := hlt0
  have HR : Hid ((bs.take s.size == s.data.toList) = r) := hr
  have HC : Hid (CellsB w g 0 bs) := hcs
  clear hn hr hcs hlt0
  have ht : (((n : Nat) : Int) != (s.size : Int) + 1) = false := by simp; omega
  go_enter Try.func8, Try.ntmps8
  go_wp2
  go_loopw [4, 5] (fun _ i wr => ∃ k : Nat, k ≤ s.size ∧ i = .int .i64 k ∧ Hid (∀ j (h1 : j < (bs.take s.size).length) (h2 : j < s.size), j < k → (bs.take s.size)[j].toNat = s[j].toNat) ∧ Below w.heap.size w wr) (fun _ i _ => s.size - (intOf i).toNat)
  case atStart => exact ⟨0, Nat.zero_le _, rfl, fun j _ _ h => absurd h (Nat.not_lt_zero _), Below.refl _ _⟩
  case round =>
    clear hcr
    obtain ⟨k, hk, rfl, hsame, hbel⟩ := hrel
    by_cases hlt : k < s.size
    · have hkt : k < (bs.take s.size).length := by rw [HL.out]; exact hlt
      have hkb : k < bs.length := by rw [HN.out]; omega
      have hgw : g < w.heap.size := HC.out.lt (by intro e; rw [e] at hkb; exact absurd hkb (Nat.not_lt_zero _))
      obtain ⟨x, hx⟩ : ∃ x : Nat, x = (bs.take s.size)[k].toNat := ⟨_, rfl⟩
      have hcell : wr.cell? ⟨g, k, none⟩ = some (.int .u8 ((x : Nat) : Int)) := by
        rw [hbel.cell (p := ⟨g, k, none⟩) hgw, hx]
        have := (HC.out.take s.size) k hkt
        rw [Nat.zero_add] at this
        exact this
      have HX : Hid (x = (bs.take s.size)[k].toNat) := hx
      clear hx
      have i1 : (k : Int) < (n : Int) := by omega
      have i2 : (k : Int) < (s.size : Int) := by omega
      go_wp2_with fail
      go_quiet (fail)
      have hb1 := below_drewN hbel nq
      by_cases hne : x = s[k].toNat
      · have hsame' : Hid (∀ j (h1 : j < (bs.take s.size).length) (h2 : j < s.size), j < k + 1 → (bs.take s.size)[j].toNat = s[j].toNat) := by
          intro j h1 h2 hj
          by_cases hjk : j = k
          · subst hjk; rw [← HX.out]; exact hne
          · exact hsame.out j h1 h2 (by omega)
        have hq : (((x : Nat) : Int) != ((s[k].toNat : Nat) : Int)) = false := by simp [hne]
        clear hne
        go_wp2
        go_roundw
        case rel => exact ⟨k + 1, by omega, by go_num, hsame', hb1⟩
        case measure => simp [intOf]; omega
      · have hq : (((x : Nat) : Int) != ((s[k].toNat : Nat) : Int)) = true := by simp; omega
        have hrf : r = false := by
          rw [← HR.out, beq_eq_false_iff_ne]
          exact ne_of_one _ s k hkt hlt (by rw [← HX.out]; exact hne)
        have HF : Hid (r = false) := hrf
        clear hne hrf
        go_wp2
        go_ret
        exact ⟨by rw [HF.out]; rfl, hb1⟩
    · have hrt : r = true := by
        rw [← HR.out]
        have := eq_of_all (bs.take s.size) s HL.out (fun j h1 h2 => hsame.out j h1 h2 (by omega))
        rw [← this]
        simp
      have HF : Hid (r = true) := hrt
      clear hrt
      go_wp2
      go_ret
      exact ⟨by rw [HF.out]; rfl, hbel⟩

theorem eqc_at (g c : Nat) (bs : List UInt8) (s : ByteArray) (w : World) (n : Nat) (hn : bs.length = n) (hbig : n ≤ 1048576) (hs : s.size ≤ 1048576) (hcs : CellsB w g 0 bs) (r : Bool) (hr : (bs == s.data.toList ++ [13]) = r) :
    Calls Try.prog 8 #[.slice (some ⟨g, 0, none⟩) n c, .string s] w fun e w' => e = .returned (.bool r) ∧ Below w.heap.size w w' := by
  by_cases h : n < s.size + 1 ∨ s.size + 1 < n
  · have e : r = false := by
      rw [← hr, beq_eq_false_iff_ne]
      intro e
      have := congrArg List.length e
      rw [List.length_append, bytes_len] at this
      have h1 : ([13] : List UInt8).length = 1 := rfl
      omega
    rw [e]
    exact eqc_len _ n c s w h hbig hs
  · have hk : s.size < bs.length := by omega
    have hsplit : bs = bs.take s.size ++ [bs[s.size]] := by
      have h1 : bs.take (s.size + 1) = bs.take s.size ++ [bs[s.size]] := by rw [List.take_succ_eq_append_getElem hk]
      rw [← h1, List.take_of_length_le (by omega)]
    have hlen : (bs.take s.size).length = s.data.toList.length := by rw [List.length_take, bytes_len]; omega
    have hcell : w.cell? ⟨g, s.size, none⟩ = some (.int .u8 ((bs[s.size].toNat : Nat) : Int)) := by
      have := hcs s.size hk
      rw [Nat.zero_add] at this
      exact this
    by_cases hy : bs[s.size].toNat = 13
    · have hb : bs[s.size] = 13 := UInt8.toNat_inj.1 hy
      rw [hy] at hcell
      refine eqc_same g c bs s w n hn (by omega) (by omega) hbig hcs hcell r ?_
      rw [← hr]
      conv => rhs; rw [hsplit, hb]
      rw [Bool.eq_iff_iff, beq_iff_eq, beq_iff_eq]
      constructor
      · intro h; rw [h]
      · intro h; exact (List.append_inj h hlen).1
    · have e : r = false := by
        rw [← hr, beq_eq_false_iff_ne]
        intro e
        rw [hsplit] at e
        have := (List.append_inj e hlen).2
        simp at this
        exact hy (by rw [this]; rfl)
      rw [e]
      exact eqc_other g c s w n _ (by omega) (by omega) hbig hcell hy
end Go.Proofs.Qxb6619461a
