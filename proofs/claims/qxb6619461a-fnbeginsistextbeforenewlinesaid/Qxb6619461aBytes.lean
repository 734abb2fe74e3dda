import Derived.Test.Qxb6619461aRows
import Derived.WalkKit
import Derived.WalkSpells
import Derived.WalkLawsBesides
import Derived.Laws.BytesArg
import Derived.Laws.IdiomStrings
import Derived.Lib.SlBytesConst
namespace Go.Proofs.Qxb6619461a
open Go.RowKit

/-- The cells from offset o of block g on hold the bytes bs. -/
def CellsB (w : World) (g o : Nat) (bs : List UInt8) : Prop := ∀ i (h : i < bs.length), w.cell? ⟨g, o + i, none⟩ = some (.int .u8 ((bs[i].toNat : Nat) : Int))

/-- bs begins with ls. -/
def preB (bs ls : List UInt8) : Bool := bs.take ls.length == ls

theorem preB_short {bs ls : List UInt8} (h : bs.length < ls.length) : preB bs ls = false := by
  unfold preB
  rw [beq_eq_false_iff_ne]
  intro e
  have := congrArg List.length e
  simp at this
  omega

theorem CellsB.take {w : World} {g o : Nat} {bs : List UInt8} (h : CellsB w g o bs) (m : Nat) : CellsB w g o (bs.take m) := fun i hi => by
  have hi' : i < bs.length := by simp at hi; omega
  rw [h i hi']; simp
theorem CellsB.drop {w : World} {g o : Nat} {bs : List UInt8} (h : CellsB w g o bs) (m : Nat) : CellsB w g (o + m) (bs.drop m) := fun i hi => by
  have hi' : m + i < bs.length := by simp at hi; omega
  rw [Nat.add_assoc, h (m + i) hi']; simp

theorem conv_at (w : World) (g o c : Nat) (bs : List UInt8) (h : CellsB w g o bs) :
    (convert 22 9 (.slice (some ⟨g, o, none⟩) bs.length c)).run Try.prog w = .ok (.string ⟨bs.toArray⟩) w :=
  run_convert_bytes_back w 22 9 5 ⟨g, o, none⟩ c bs Try.underlying22 Try.underlying5 Try.underlying9 (fun j hj => by
    have : (⟨g, o, none⟩ : Addr).add j = ⟨g, o + j, none⟩ := by unfold Addr.add; split <;> simp_all
    rw [this]; exact h j hj)

theorem toList_mk (bs : List UInt8) : (⟨bs.toArray⟩ : ByteArray).toList = bs := by rw [ByteArray.toList_eq]

theorem equal_any (v1 v2 : Value) (t1 t2 : ByteArray) (w : World) (h1 : (convert 22 9 v1).run Try.prog w = .ok (.string t1) w) (h2 : (convert 22 9 v2).run Try.prog w = .ok (.string t2) w) :
    Calls Try.prog 13 #[v1, v2] w fun e w' => e = .returned (.bool (t1.toList == t2.toList)) ∧ w' = w := by
  go_enter Try.func13, Try.ntmps13
  go_wp2
  go_ret
  exact ⟨rfl, rfl⟩

set_option maxHeartbeats 400000 in
theorem hasp_at (g o c b2 o2 c2 : Nat) (bs ls : List UInt8) (hc : bs.length ≤ c) (w : World) (h1 : CellsB w g o bs) (h2 : CellsB w b2 o2 ls) (_hb1 : bs.length ≤ 9223372036854775807) (hb2 : ls.length ≤ 9223372036854775807) :
    Calls Try.prog 12 #[.slice (some ⟨g, o, none⟩) bs.length c, .slice (some ⟨b2, o2, none⟩) ls.length c2] w fun e w' => e = .returned (.bool (preB bs ls)) ∧ w' = w := by
  by_cases hlen : ls.length ≤ bs.length
  · have e1 : (bs.take ls.length).length = ls.length := by simp; omega
    have k1 := conv_at w g o c (bs.take ls.length) (h1.take _)
    rw [e1] at k1
    have k2 := conv_at w b2 o2 c2 ls h2
    have hq := equal_any _ _ _ _ w k1 k2
    rw [toList_mk, toList_mk] at hq
    clear k1 k2 h1 h2 e1
    go_enter Try.func12, Try.ntmps12
    go_wp2_with (go_at_call 13; refine hq.mono ?_; rintro e w' ⟨rfl, rfl⟩)
    go_ret
    exact ⟨rfl, rfl⟩
  · rw [preB_short (by omega)]
    clear h1 h2
    go_enter Try.func12, Try.ntmps12
    go_wp2
    go_ret
    exact ⟨rfl, rfl⟩

set_option maxHeartbeats 400000 in
theorem hasp_nil (b2 o2 c2 : Nat) (ls : List UInt8) (w : World) (h2 : CellsB w b2 o2 ls) (hb2 : ls.length ≤ 9223372036854775807) :
    Calls Try.prog 12 #[.slice none 0 0, .slice (some ⟨b2, o2, none⟩) ls.length c2] w fun e w' => e = .returned (.bool (preB [] ls)) ∧ w' = w := by
  by_cases hlen : ls = []
  · subst hlen
    have k1 := run_convert_bytes_nil (P := Try.prog) w 22 5 Try.underlying22 Try.underlying5 0 0 9 Try.underlying9
    have k2 : (convert 22 9 (.slice (some ⟨b2, o2, none⟩) 0 c2)).run Try.prog w = .ok (.string ByteArray.empty) w := conv_at w b2 o2 c2 [] h2
    have hq := equal_any _ _ _ _ w k1 k2
    rw [beq_self_eq_true] at hq
    clear k1 k2 h2
    go_enter Try.func12, Try.ntmps12
    go_wp2_with (go_at_call 13; refine hq.mono ?_; rintro e w' ⟨rfl, rfl⟩)
    go_ret
    exact ⟨rfl, rfl⟩
  · have hpos : 0 < ls.length := List.length_pos_iff.2 hlen
    rw [preB_short (by simpa using hpos)]
    have hmz : ¬ ((ls.length : Int) ≤ 0) := by omega
    clear h2
    go_enter Try.func12, Try.ntmps12
    go_wp2
    go_ret
    exact ⟨rfl, rfl⟩

set_option maxHeartbeats 400000 in
theorem cut_no (v p : Value) (w : World) (h : Calls Try.prog 12 #[v, p] w fun e w' => e = .returned (.bool false) ∧ w' = w) :
    Calls Try.prog 11 #[v, p] w fun e w' => e = .returned (.tuple #[v, .bool false]) ∧ w' = w := by
  go_enter Try.func11, Try.ntmps11
  go_wp2_with (go_at_call 12; refine h.mono ?_; rintro e w' ⟨rfl, rfl⟩)
  go_ret2
  exact ⟨rfl, rfl⟩

set_option maxHeartbeats 400000 in
theorem cut_yes (g o n c m c2 : Nat) (p : Option Addr) (w : World) (hm : m < n) (hc : n ≤ c) (h : Calls Try.prog 12 #[.slice (some ⟨g, o, none⟩) n c, .slice p m c2] w fun e w' => e = .returned (.bool true) ∧ w' = w) (_hb : n ≤ 9223372036854775807) :
    Calls Try.prog 11 #[.slice (some ⟨g, o, none⟩) n c, .slice p m c2] w fun e w' => e = .returned (.tuple #[.slice (some ⟨g, o + m, none⟩) (n - m) (c - m), .bool true]) ∧ w' = w := by
  go_enter Try.func11, Try.ntmps11
  go_wp2_with (go_at_call 12; refine h.mono ?_; rintro e w' ⟨rfl, rfl⟩)
  go_ret2
  exact ⟨rfl, rfl⟩

set_option maxHeartbeats 400000 in
theorem cut_all (a : Option Addr) (n c c2 : Nat) (p : Option Addr) (w : World) (_hc : n ≤ c) (h : Calls Try.prog 12 #[.slice a n c, .slice p n c2] w fun e w' => e = .returned (.bool true) ∧ w' = w) (_hb : n ≤ 9223372036854775807) :
    Calls Try.prog 11 #[.slice a n c, .slice p n c2] w fun e w' => ∃ x k, e = .returned (.tuple #[.slice x 0 k, .bool true]) ∧ w' = w := by
  go_enter Try.func11, Try.ntmps11
  go_wp2_with (go_at_call 12; refine h.mono ?_; rintro e w' ⟨rfl, rfl⟩)
  all_goals
    go_ret2
    exact ⟨⟨_, _, rfl⟩, rfl⟩
end Go.Proofs.Qxb6619461a
