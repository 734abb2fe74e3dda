import Derived.Test.Qxb6621733aRows
import Derived.WalkKit
import Derived.WalkSpells
import Derived.WalkLawsBesides
namespace Go.Proofs.Qxb6621733a
open Go.RowKit

/-- The kind of a type: itself, or 0 (unknown) past the last known one. -/
def cls (x : Int) : Int := if 9 < x then 0 else x
/-- The name of a kind. -/
def tname (c : Nat) : ByteArray := match c with
  | 1 => ⟨#[98, 111, 111, 108, 101, 97, 110]⟩
  | 2 => ⟨#[98, 105, 103, 105, 110, 116]⟩
  | 3 => ⟨#[116, 101, 120, 116]⟩
  | 4 => ⟨#[99, 104, 97, 114, 97, 99, 116, 101, 114]⟩
  | 5 => ⟨#[116, 105, 109, 101, 115, 116, 97, 109, 112, 32, 119, 105, 116, 104, 111, 117, 116, 32, 116, 105, 109, 101, 32, 122, 111, 110, 101]⟩
  | 6 => ⟨#[116, 105, 109, 101, 115, 116, 97, 109, 112, 32, 119, 105, 116, 104, 32, 116, 105, 109, 101, 32, 122, 111, 110, 101]⟩
  | 7 => ⟨#[110, 117, 109, 101, 114, 105, 99]⟩
  | 8 => ⟨#[114, 101, 97, 108]⟩
  | 9 => ⟨#[100, 111, 117, 98, 108, 101, 32, 112, 114, 101, 99, 105, 115, 105, 111, 110]⟩
  | _ => ⟨#[117, 110, 107, 110, 111, 119, 110]⟩

theorem class_any (x : Int) (_h0 : 0 ≤ x) (_h1 : x ≤ 255) (w : World) :
    Calls Try.prog 7 #[.int .u8 x] w fun e w' => e = .returned (.int .u8 (cls x)) ∧ w' = w := by
  by_cases h : 9 < x
  · have hc : cls x = 0 := by unfold cls; rw [if_pos h]
    rw [hc]
    clear hc
    go_enter Try.func7, Try.ntmps7
    go_wp2
    go_ret
    exact ⟨rfl, rfl⟩
  · have hc : cls x = x := by unfold cls; rw [if_neg h]
    rw [hc]
    clear hc
    go_enter Try.func7, Try.ntmps7
    go_wp2
    go_ret
    exact ⟨rfl, rfl⟩

theorem str_miss (x : Int) (h : x = 0 ∨ 9 < x) (w : World) :
    Calls Try.prog 5 #[.int .u8 x] w fun e w' => e = .returned (.string (tname 0)) ∧ w' = w := by
  have h1 : (x == 1) = false := by simp; omega
  have h2 : (x == 2) = false := by simp; omega
  have h3 : (x == 3) = false := by simp; omega
  have h4 : (x == 4) = false := by simp; omega
  have h5 : (x == 5) = false := by simp; omega
  have h6 : (x == 6) = false := by simp; omega
  have h7 : (x == 7) = false := by simp; omega
  have h8 : (x == 8) = false := by simp; omega
  have h9 : (x == 9) = false := by simp; omega
  clear h
  go_enter Try.func5, Try.ntmps5
  go_wp2
  go_ret
  exact ⟨rfl, rfl⟩

theorem str_1 (w : World) :
    Calls Try.prog 5 #[.int .u8 1] w fun e w' => e = .returned (.string (tname 1)) ∧ w' = w := by
  go_enter Try.func5, Try.ntmps5
  go_wp2
  go_ret
  exact ⟨rfl, rfl⟩

theorem str_2 (w : World) :
    Calls Try.prog 5 #[.int .u8 2] w fun e w' => e = .returned (.string (tname 2)) ∧ w' = w := by
  go_enter Try.func5, Try.ntmps5
  go_wp2
  go_ret
  exact ⟨rfl, rfl⟩

theorem str_3 (w : World) :
    Calls Try.prog 5 #[.int .u8 3] w fun e w' => e = .returned (.string (tname 3)) ∧ w' = w := by
  go_enter Try.func5, Try.ntmps5
  go_wp2
  go_ret
  exact ⟨rfl, rfl⟩

theorem str_4 (w : World) :
    Calls Try.prog 5 #[.int .u8 4] w fun e w' => e = .returned (.string (tname 4)) ∧ w' = w := by
  go_enter Try.func5, Try.ntmps5
  go_wp2
  go_ret
  exact ⟨rfl, rfl⟩

theorem str_5 (w : World) :
    Calls Try.prog 5 #[.int .u8 5] w fun e w' => e = .returned (.string (tname 5)) ∧ w' = w := by
  go_enter Try.func5, Try.ntmps5
  go_wp2
  go_ret
  exact ⟨rfl, rfl⟩

theorem str_6 (w : World) :
    Calls Try.prog 5 #[.int .u8 6] w fun e w' => e = .returned (.string (tname 6)) ∧ w' = w := by
  go_enter Try.func5, Try.ntmps5
  go_wp2
  go_ret
  exact ⟨rfl, rfl⟩

theorem str_7 (w : World) :
    Calls Try.prog 5 #[.int .u8 7] w fun e w' => e = .returned (.string (tname 7)) ∧ w' = w := by
  go_enter Try.func5, Try.ntmps5
  go_wp2
  go_ret
  exact ⟨rfl, rfl⟩

theorem str_8 (w : World) :
    Calls Try.prog 5 #[.int .u8 8] w fun e w' => e = .returned (.string (tname 8)) ∧ w' = w := by
  go_enter Try.func5, Try.ntmps5
  go_wp2
  go_ret
  exact ⟨rfl, rfl⟩

theorem str_9 (w : World) :
    Calls Try.prog 5 #[.int .u8 9] w fun e w' => e = .returned (.string (tname 9)) ∧ w' = w := by
  go_enter Try.func5, Try.ntmps5
  go_wp2
  go_ret
  exact ⟨rfl, rfl⟩

theorem str_any (x : Int) (h0 : 0 ≤ x) (w : World) :
    Calls Try.prog 5 #[.int .u8 x] w fun e w' => e = .returned (.string (tname (cls x).toNat)) ∧ w' = w := by
  by_cases h : x = 0 ∨ 9 < x
  · have hc : (cls x).toNat = 0 := by unfold cls; split <;> omega
    rw [hc]
    exact str_miss x h w
  · obtain rfl | rfl | rfl | rfl | rfl | rfl | rfl | rfl | rfl : x = 1 ∨ x = 2 ∨ x = 3 ∨ x = 4 ∨ x = 5 ∨ x = 6 ∨ x = 7 ∨ x = 8 ∨ x = 9 := by omega
    · exact str_1 w
    · exact str_2 w
    · exact str_3 w
    · exact str_4 w
    · exact str_5 w
    · exact str_6 w
    · exact str_7 w
    · exact str_8 w
    · exact str_9 w

/-- What zzIsPlainName asks of a name. -/
structure PlainN (s : ByteArray) : Prop where
  pos : 0 < s.size
  small : s.size ≤ 64
  head : ∀ h : 0 < s.size, s[0].toNat ≠ 32
  last : ∀ h : s.size - 1 < s.size, s[s.size - 1].toNat ≠ 32
  each : ∀ k (h : k < s.size), (97 ≤ s[k].toNat ∧ s[k].toNat ≤ 122) ∨ (s[k].toNat = 32 ∧ ∀ h' : k - 1 < s.size, s[k - 1].toNat ≠ 32)

set_option maxHeartbeats 1000000 in
theorem plain_any (s : ByteArray) (hp : PlainN s) (w : World) :
    Calls Try.prog 6 #[.string s] w fun e w' => e = .returned (.bool true) ∧ w' = w := by
  have hpos := hp.pos
  have hsmall := hp.small
  have H1 : (((s[0].toNat : Nat) : Int) == 32) = false := by have := hp.head hpos; simp; omega
  have H2 : (((s[s.size - 1].toNat : Nat) : Int) == 32) = false := by have := hp.last (by omega); simp; omega
  have HE : Hid (∀ k (h : k < s.size), (97 ≤ s[k].toNat ∧ s[k].toNat ≤ 122) ∨ (s[k].toNat = 32 ∧ ∀ h' : k - 1 < s.size, s[k - 1].toNat ≠ 32)) := hp.each
  have H0 : Hid (∀ h : 0 < s.size, s[0].toNat ≠ 32) := hp.head
  clear hp
  have hse : ¬ s = ByteArray.empty := by intro h; rw [h] at hpos; simp at hpos
  have hz : ((s.size : Int) == 0) = false := by simp; omega
  go_enter Try.func6, Try.ntmps6
  go_wp2
  go_loop [2, 3] (fun _ i => ∃ k : Nat, k ≤ s.size ∧ i = .int .i64 k) (fun _ i => s.size - (intOf i).toNat)
  case atStart => exact ⟨0, Nat.zero_le _, rfl⟩
  case round =>
    obtain ⟨k, hk, rfl⟩ := hrel
    by_cases hlt : k < s.size
    · rcases HE.out k hlt with ⟨h1, h2⟩ | ⟨h32, hprev⟩
      · have hn : (((s[k].toNat : Nat) : Int) == 32) = false := by simp; omega
        clear H1 H2
        go_wp2
        go_round
        case rel => exact ⟨k + 1, by omega, by go_num⟩
        case measure => simp [intOf]; omega
      · have hk0 : 0 < k := by
          rcases Nat.eq_zero_or_pos k with h | h
          · subst h; exact absurd h32 (H0.out hpos)
          · exact h
        have hn : (((s[k].toNat : Nat) : Int) == 32) = true := by simp; omega
        have hv : (((s[k - 1].toNat : Nat) : Int) == 32) = false := by have := hprev (by omega); simp; omega
        clear H1 H2 h32 hprev
        go_wp2
        go_round
        case rel => exact ⟨k + 1, by omega, by go_num⟩
        case measure => simp [intOf]; omega
    · go_wp2
      go_ret
      exact ⟨rfl, rfl⟩

/-- The byte at k, 0 past the end. -/
def byteAt (s : ByteArray) (k : Nat) : Nat := (s.data[k]?.getD 0).toNat
theorem byteAt_eq (s : ByteArray) (k : Nat) (h : k < s.size) : s[k].toNat = byteAt s k := by
  unfold byteAt
  have h' : k < s.data.size := h
  rw [Array.getElem?_eq_getElem h']
  rfl

def plainOk (s : ByteArray) : Bool :=
  decide (0 < s.size) && decide (s.size ≤ 64) && decide (byteAt s 0 ≠ 32) && decide (byteAt s (s.size - 1) ≠ 32) &&
    (List.range s.size).all fun k => (decide (97 ≤ byteAt s k) && decide (byteAt s k ≤ 122)) || (decide (byteAt s k = 32) && decide (byteAt s (k - 1) ≠ 32))

theorem plainN_of (s : ByteArray) (h : plainOk s = true) : PlainN s := by
  unfold plainOk at h
  simp only [Bool.and_eq_true, decide_eq_true_eq, List.all_eq_true, List.mem_range, Bool.or_eq_true] at h
  obtain ⟨⟨⟨⟨h1, h2⟩, h3⟩, h4⟩, h5⟩ := h
  refine ⟨h1, h2, fun h => by rw [byteAt_eq]; exact h3, fun h => by rw [byteAt_eq]; exact h4, fun k h => ?_⟩
  rw [byteAt_eq s k h]
  rcases h5 k h with h6 | h6
  · exact .inl h6
  · exact .inr ⟨h6.1, fun h' => by rw [byteAt_eq]; exact h6.2⟩

theorem names_plain : ∀ c, c < 10 → plainOk (tname c) = true := by decide +kernel
theorem names_apart : ∀ c, c < 10 → ∀ d, d < 10 → ((tname c).toList == (tname d).toList) = (c == d) := by decide +kernel

end Go.Proofs.Qxb6621733a
