import Derived.Test.Qxb6619461aBytes
namespace Go.Proofs.Qxb6619461a
open Go.RowKit

theorem sconv (s : ByteArray) (w : World) : ∃ W1 c1, (convert 9 22 (.string s)).run Try.prog w = .ok (.slice (some ⟨w.heap.size, 0, none⟩) s.size c1) W1 ∧ CellsB W1 w.heap.size 0 s.data.toList ∧ Below w.heap.size w W1 := by
  refine ⟨_, _, run_bytes_of_string (P := Try.prog) w 9 22 5 s Try.underlying9 Try.underlying22 Try.underlying5, ?_, ?_⟩
  · intro i hi
    have hi' : i < s.data.size := by simpa using hi
    rw [Nat.zero_add]
    have hh : (w.drew.alloc (.cells (bytesRow s (grownCap w s.size 0 5)) 5 ((bytesRow s (grownCap w s.size 0 5)).size, (bytesRow s (grownCap w s.size 0 5)).size + 1))).heap[w.heap.size]? = some (.cells (bytesRow s (grownCap w s.size 0 5)) 5 ((bytesRow s (grownCap w s.size 0 5)).size, (bytesRow s (grownCap w s.size 0 5)).size + 1)) := heap_alloc_new w.drew _
    rw [cell_of_row _ w.heap.size i _ _ _ hh]
    unfold bytesRow
    rw [Array.getElem?_append_left (by simpa using hi')]
    simp
    exact ⟨_, Array.getElem?_eq_getElem hi', rfl⟩
  · exact (Below.refl _ _).drew.alloc (Nat.le_refl _) _

/-- What may stand behind the line. -/
def restB : List UInt8 → Bool
  | [] => true
  | c :: r => c == 10 || preB (c :: r) [13, 10]
def begins (bs ls : List UInt8) : Bool := preB bs ls && restB (bs.drop ls.length)

theorem CellsB.below {B : Nat} {w w' : World} {g o : Nat} {bs : List UInt8} (h : CellsB w g o bs) (hb : Below B w w') (hg : bs ≠ [] → g < B) : CellsB w' g o bs := fun i hi => by
  rw [hb.cell (p := ⟨g, o + i, none⟩) (hg (by intro e; subst e; simp at hi))]
  exact h i hi

theorem CellsB.lt {w : World} {g o : Nat} {bs : List UInt8} (h : CellsB w g o bs) (hne : bs ≠ []) : g < w.heap.size := by
  have hp : 0 < bs.length := List.length_pos_iff.2 hne
  have := h 0 hp
  rcases Nat.lt_or_ge g w.heap.size with h' | h'
  · exact h'
  · simp [World.cell?, Array.getElem?_eq_none h'] at this

set_option maxHeartbeats 400000 in
theorem begins_no (v : Value) (s : ByteArray) (w : World) (h : ∀ W1 c1, CellsB W1 w.heap.size 0 s.data.toList → Below w.heap.size w W1 → Calls Try.prog 12 #[v, .slice (some ⟨w.heap.size, 0, none⟩) s.size c1] W1 fun e w' => e = .returned (.bool false) ∧ w' = W1) :
    Calls Try.prog 6 #[v, .string s] w fun e w' => e = .returned (.bool false) ∧ Below w.heap.size w w' := by
  obtain ⟨W1, c1, hcv, hcl, hbl⟩ := sconv s w
  have hct := cut_no _ _ W1 (h W1 c1 hcl hbl)
  clear h hcl
  go_enter Try.func6, Try.ntmps6
  go_wp2_with (go_at_call 11; refine hct.mono ?_; rintro e w' ⟨rfl, rfl⟩)
  go_ret
  exact ⟨rfl, hbl⟩

set_option maxHeartbeats 400000 in
theorem begins_all (a : Option Addr) (n c : Nat) (s : ByteArray) (w : World) (hn : n = s.size) (hc : n ≤ c) (hb : n ≤ 9223372036854775807) (h : ∀ W1 c1, CellsB W1 w.heap.size 0 s.data.toList → Below w.heap.size w W1 → Calls Try.prog 12 #[.slice a n c, .slice (some ⟨w.heap.size, 0, none⟩) s.size c1] W1 fun e w' => e = .returned (.bool true) ∧ w' = W1) :
    Calls Try.prog 6 #[.slice a n c, .string s] w fun e w' => e = .returned (.bool true) ∧ Below w.heap.size w w' := by
  subst hn
  obtain ⟨W1, c1, hcv, hcl, hbl⟩ := sconv s w
  have hct := cut_all a s.size c c1 _ W1 hc (h W1 c1 hcl hbl) hb
  clear h hcl
  go_enter Try.func6, Try.ntmps6
  go_wp2_with (go_at_call 11; refine hct.mono ?_; rintro e w' ⟨x, k, rfl, rfl⟩)
  go_ret
  exact ⟨rfl, hbl⟩

set_option maxHeartbeats 1000000 in
theorem begins_more (g c : Nat) (bs : List UInt8) (s : ByteArray) (w : World) (hl : s.size < bs.length) (hc : bs.length ≤ c) (hb : bs.length ≤ 9223372036854775807) (hpre : preB bs s.data.toList = true) (hcs : CellsB w g 0 bs) :
    Calls Try.prog 6 #[.slice (some ⟨g, 0, none⟩) bs.length c, .string s] w fun e w' => e = .returned (.bool (restB (bs.drop s.size))) ∧ Below w.heap.size w w' := by
  obtain ⟨W1, c1, hcv, hcl, hbl⟩ := sconv s w
  have hne : bs ≠ [] := by intro e; subst e; exact absurd hl (Nat.not_lt_zero _)
  have hgw := hcs.lt hne
  have hcs1 : CellsB W1 g 0 bs := hcs.below hbl (fun _ => hgw)
  have hsl : s.data.toList.length = s.size := Array.length_toList
  have hhp := hasp_at g 0 c w.heap.size 0 c1 bs s.data.toList hc W1 hcs1 hcl hb (by omega)
  rw [hpre, hsl] at hhp
  have hct := cut_yes g 0 bs.length c s.size c1 _ W1 hl hc hhp hb
  rw [Nat.zero_add] at hct
  obtain ⟨d, r, hdr⟩ : ∃ d r, bs.drop s.size = d :: r := by
    cases h : bs.drop s.size with
    | nil => have := congrArg List.length h; simp at this; omega
    | cons d r => exact ⟨d, r, rfl⟩
  have hrest : CellsB W1 g s.size (d :: r) := by have := hcs1.drop s.size; rw [Nat.zero_add, hdr] at this; exact this
  have hrl : bs.length - s.size = (d :: r).length := by have := congrArg List.length hdr; simpa using this
  have c0 : W1.cell? ⟨g, s.size, none⟩ = some (.int .u8 ((d.toNat : Nat) : Int)) := hrest 0 (by simp)
  have hW1 : w.heap.size ≤ W1.heap.size := hbl.size
  have hrcap : (d :: r).length ≤ c - s.size := by omega
  rw [hdr]
  have H1 : Hid (CellsB W1 g s.size (d :: r)) := hrest
  rw [hrl] at hct
  have hgW : g < W1.heap.size := by omega
  have hbig : (d :: r).length ≤ 9223372036854775807 := by omega
  obtain ⟨L, hL⟩ : ∃ L, L = (d :: r).length := ⟨_, rfl⟩
  have hLpos : 0 < L := by rw [hL]; simp
  have HL : Hid (L = (d :: r).length) := hL
  have hL0 : ((L : Int) == 0) = false := by simp; omega
  rw [← hL] at hct hrcap
  clear hcl hhp hcs hcs1 hrest hdr hpre hrl hL hl hc hb
  by_cases h10 : d = 10
  · subst h10
    have hr : restB (10 :: r) = true := by simp [restB]
    rw [hr]
    clear hr
    go_enter Try.func6, Try.ntmps6
    go_wp2_with (go_at_call 11; refine hct.mono ?_; rintro e w' ⟨rfl, rfl⟩)
    go_ret
    exact ⟨rfl, hbl⟩
  · have hr : restB (d :: r) = preB (d :: r) [13, 10] := by simp [restB, h10]
    rw [hr]
    have hd : (((d.toNat : Nat) : Int) == 10) = false := by
      have : d.toNat ≠ 10 := fun e => h10 (UInt8.toNat_inj.1 e)
      simp; omega
    have kc := fun (w : World) (C : Array Value) (n c : Nat) => Lib.run_convert_bytes_const (P := Try.prog) w 22 5 C n c Try.underlying22 Try.underlying5
    have hbel2 : Below w.heap.size w (W1.alloc (.cells #[.int .u8 13, .int .u8 10] 5 (2, 3))) := hbl.alloc hW1 _
    have hh : (W1.alloc (.cells #[.int .u8 13, .int .u8 10] 5 (2, 3))).heap[W1.heap.size]? = some (.cells #[.int .u8 13, .int .u8 10] 5 (2, 3)) := heap_alloc_new W1 _
    have hcr : CellsB (W1.alloc (.cells #[.int .u8 13, .int .u8 10] 5 (2, 3))) W1.heap.size 0 [13, 10] := by
      intro i hi
      rw [Nat.zero_add, cell_of_row _ _ i _ _ _ hh]
      match i, hi with
      | 0, _ => rfl
      | 1, _ => rfl
    have hcs2 : CellsB (W1.alloc (.cells #[.int .u8 13, .int .u8 10] 5 (2, 3))) g s.size (d :: r) := H1.out.below ((Below.refl W1.heap.size W1).alloc (Nat.le_refl _) _) (fun _ => hgW)
    have hp2 := hasp_at g s.size (c - s.size) W1.heap.size 0 2 (d :: r) [13, 10] (by rw [← HL.out]; exact hrcap) _ hcs2 hcr hbig (by decide)
    rw [← HL.out] at hp2
    clear hcr hcs2 hh h10 hr
    go_enter Try.func6, Try.ntmps6
    go_wp2_with (first | (go_at_call 11; refine hct.mono ?_; rintro e w' ⟨rfl, rfl⟩) | (go_at_call 12; refine hp2.mono ?_; rintro e w' ⟨rfl, rfl⟩))
    go_ret
    exact ⟨rfl, hbel2⟩

theorem bytes_len (s : ByteArray) : s.data.toList.length = s.size := Array.length_toList

theorem begins_at (g c : Nat) (bs : List UInt8) (s : ByteArray) (w : World) (n : Nat) (hn : bs.length = n) (hc : n ≤ c) (hb : n ≤ 9223372036854775807) (hs : s.size ≤ 9223372036854775807) (hcs : CellsB w g 0 bs) (r : Bool) (hr : begins bs s.data.toList = r) :
    Calls Try.prog 6 #[.slice (some ⟨g, 0, none⟩) n c, .string s] w fun e w' => e = .returned (.bool r) ∧ Below w.heap.size w w' := by
  subst hn
  have hsl := bytes_len s
  have hg : ∀ W1, Below w.heap.size w W1 → CellsB W1 g 0 bs := fun W1 hbl => hcs.below hbl (fun hne => hcs.lt hne)
  by_cases hpre : preB bs s.data.toList = true
  · have hle : s.size ≤ bs.length := by
      rcases Nat.lt_or_ge bs.length s.size with h | h
      · rw [preB_short (by omega)] at hpre; exact absurd hpre (by decide)
      · exact h
    rcases Nat.lt_or_ge s.size bs.length with hlt | hge
    · have e : restB (bs.drop s.size) = r := by rw [← hr]; unfold begins; rw [hpre, hsl]; rfl
      have h := begins_more g c bs s w hlt hc hb hpre hcs
      rw [e] at h
      exact h
    · have hn : bs.length = s.size := by omega
      have e : r = true := by rw [← hr]; unfold begins; rw [hpre, hsl, ← hn, List.drop_length]; rfl
      rw [e]
      refine begins_all _ _ c s w hn hc hb (fun W1 c1 hcl hbl => ?_)
      have h := hasp_at g 0 c w.heap.size 0 c1 bs s.data.toList hc W1 (hg W1 hbl) hcl hb (by omega)
      rw [hpre, hsl] at h
      exact h
  · have hpre' : preB bs s.data.toList = false := by simpa using hpre
    have e : r = false := by rw [← hr]; unfold begins; rw [hpre']; rfl
    rw [e]
    refine begins_no _ s w (fun W1 c1 hcl hbl => ?_)
    have h := hasp_at g 0 c w.heap.size 0 c1 bs s.data.toList hc W1 (hg W1 hbl) hcl hb (by omega)
    rw [hpre', hsl] at h
    exact h

theorem begins_nil (s : ByteArray) (w : World) (hs : s.size ≤ 9223372036854775807) (r : Bool) (hr : begins [] s.data.toList = r) :
    Calls Try.prog 6 #[.slice none 0 0, .string s] w fun e w' => e = .returned (.bool r) ∧ Below w.heap.size w w' := by
  have hsl := bytes_len s
  by_cases hpre : preB [] s.data.toList = true
  · have hle : s.size = 0 := by
      rcases Nat.eq_zero_or_pos s.size with h | h
      · exact h
      · rw [preB_short (by simp only [List.length_nil]; omega)] at hpre; exact absurd hpre (by decide)
    have e : r = true := by rw [← hr]; unfold begins; rw [hpre, List.drop_nil]; rfl
    rw [e]
    refine begins_all none 0 0 s w hle.symm (Nat.le_refl _) (by omega) (fun W1 c1 hcl hbl => ?_)
    have h := hasp_nil w.heap.size 0 c1 s.data.toList W1 hcl (by omega)
    rw [hpre, hsl] at h
    exact h
  · have hpre' : preB [] s.data.toList = false := by simpa using hpre
    have e : r = false := by rw [← hr]; unfold begins; rw [hpre']; rfl
    rw [e]
    refine begins_no _ s w (fun W1 c1 hcl hbl => ?_)
    have h := hasp_nil w.heap.size 0 c1 s.data.toList W1 hcl (by omega)
    rw [hpre', hsl] at h
    exact h

end Go.Proofs.Qxb6619461a
