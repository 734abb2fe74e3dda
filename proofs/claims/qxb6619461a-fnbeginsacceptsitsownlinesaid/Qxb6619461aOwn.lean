import Derived.Test.Qxb6619461aJoin
namespace Go.Proofs.Qxb6619461a
open Go.RowKit

/-- What the walk knows of the tail. -/
def TailAt (w : World) (t : Option Addr) (tl : Nat) (ts : List UInt8) : Prop := ts.length = tl ∧ (0 < tl → ∃ b off, t = some ⟨b, off, none⟩ ∧ CellsB w b off ts)

theorem TailAt.below {w w' : World} {t : Option Addr} {tl : Nat} {ts : List UInt8} (h : TailAt w t tl ts) (hb : Below w.heap.size w w') : TailAt w' t tl ts :=
  ⟨h.1, fun hp => by
    obtain ⟨b, off, e, hc⟩ := h.2 hp
    exact ⟨b, off, e, hc.below hb (fun hne => hc.lt hne)⟩⟩

theorem tail_none (w : World) : TailAt w none 0 [] := ⟨rfl, fun h => absurd h (Nat.lt_irrefl _)⟩

theorem step_join (w wc : World) (Bc : Below w.heap.size w wc) (a mid : ByteArray) (t : Option Addr) (tl tc : Nat) (ts : List UInt8) (T : TailAt w t tl ts) (ha : a.size ≤ 1048576) (hmid : mid.size ≤ 1048576) (htl : tl ≤ 1048576)
    (bs : List UInt8) (hbs : a.data.toList ++ mid.data.toList ++ ts = bs) (n : Nat) (hn : bs.length = n) :
    Calls Try.prog 10 #[.string a, .string mid, .slice t tl tc] wc fun e w1 => ∃ g cap, e = .returned (.slice (some ⟨g, 0, none⟩) n cap) ∧ Hid (n ≤ cap ∧ CellsB w1 g 0 bs) ∧ Below w.heap.size w w1 := by
  have T' := T.below Bc
  refine (join_any a mid t tl tc ts wc ha hmid T'.1 htl T'.2).mono fun e w1 ⟨v, he, hout⟩ => ?_
  rw [hbs] at hout
  obtain ⟨g, cap, hv, hc, hcl, hb⟩ := hout.value
  rw [hn] at hv hc
  exact ⟨g, cap, by rw [he, hv], ⟨hc, hcl⟩, Bc.trans (hb.mono Bc.size)⟩

theorem step_begins (w w1 : World) (B1 : Below w.heap.size w w1) (g cap : Nat) (bs : List UInt8) (n : Nat) (hn : bs.length = n) (H : Hid (n ≤ cap ∧ CellsB w1 g 0 bs)) (s : ByteArray) (hb : n ≤ 9223372036854775807) (hs : s.size ≤ 9223372036854775807) (r : Bool) (hr : begins bs s.data.toList = r) :
    Calls Try.prog 6 #[.slice (some ⟨g, 0, none⟩) n cap, .string s] w1 fun e w2 => e = .returned (.bool r) ∧ Below w.heap.size w w2 :=
  (begins_at g cap bs s w1 n hn H.out.1 hb hs H.out.2 r hr).mono fun _ _ ⟨he, h2⟩ => ⟨he, B1.trans (h2.mono B1.size)⟩

/-! ### The plain law -/
theorem preB_self (L r : List UInt8) : preB (L ++ r) L = true := by unfold preB; simp
theorem begins_self (L r : List UInt8) : begins (L ++ r) L = restB r := by unfold begins; rw [preB_self]; simp

theorem law1 (L : List UInt8) : begins (L ++ [] ++ []) L = true := by rw [List.append_assoc, begins_self]; rfl
theorem law2 (L ts : List UInt8) : begins (L ++ [10] ++ ts) L = true := by rw [List.append_assoc, begins_self]; rfl
theorem law3 (L ts : List UInt8) : begins (L ++ [13, 10] ++ ts) L = true := by
  rw [List.append_assoc, begins_self]
  show restB (13 :: 10 :: ts) = true
  simp [restB, preB]
theorem law4_nil (L : List UInt8) : begins (L ++ [13] ++ []) L = false := by
  rw [List.append_assoc, begins_self]
  decide
theorem law4_cons (L : List UInt8) (d : UInt8) (ts : List UInt8) : begins (L ++ [13] ++ (d :: ts)) L = (((d.toNat : Nat) : Int) == 10) := by
  rw [List.append_assoc, begins_self]
  show restB (13 :: d :: ts) = _
  have e : restB (13 :: d :: ts) = (d == 10) := by simp [restB, preB]
  rw [e, Bool.eq_iff_iff]
  simp only [beq_iff_eq]
  constructor
  · intro h; subst h; rfl
  · intro h; exact UInt8.toNat_inj.1 (by show d.toNat = 10; omega)
theorem law5 (L ts : List UInt8) : begins (L ++ [120] ++ ts) L = false := by
  rw [List.append_assoc, begins_self]
  show restB (120 :: ts) = false
  simp [restB, preB]
theorem law6 (L ts : List UInt8) : begins (L ++ [10] ++ ts) (L ++ [120]) = false := by
  unfold begins
  have : preB (L ++ [10] ++ ts) (L ++ [120]) = false := by
    unfold preB
    rw [List.length_append, List.append_assoc, List.take_length_add_append]
    simp
  rw [this]; rfl
theorem law7 (L : List UInt8) (h : 0 < L.length) : begins (L.take (L.length - 1) ++ [] ++ []) L = false := by
  unfold begins
  rw [preB_short (by simp; omega)]
  rfl
end Go.Proofs.Qxb6619461a
