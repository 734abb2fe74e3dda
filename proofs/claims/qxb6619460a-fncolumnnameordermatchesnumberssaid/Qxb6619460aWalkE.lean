import Derived.Test.Qxb6619460aWalkD
namespace Go.Proofs.Qxb6619460a
open Go.RowKit

theorem nums_set (l : List Nat) (k b : Nat) : (nums (l.set k b)).map encB = ((nums l).map encB).set k (.int .u8 (b : Int)) := by
  simp [nums, List.map_set, encB]
theorem nums_get (l : List Nat) (k b : Nat) (h : l[k]? = some b) : ((nums l).map encB)[k]? = some (.int .u8 (b : Int)) := by
  simp [nums, encB, h]
theorem nums_rep (n : Nat) : (nums (List.replicate n 0)).map encB = List.replicate n (.int .u8 0) := by
  simp [nums, encB]

set_option maxHeartbeats 1000000 in
theorem next_any (s : ByteArray) (L : List Nat) (hs : s.size = L.length) (hb : ∀ k (h : k < s.size) (h' : k < L.length), s[k].toNat = L[k]) (hL : s.size ≤ 64) (hr : ∀ x ∈ L, 65 ≤ x ∧ x ≤ 90) (r : ByteArray) (hres : strOfNums (nums (Plain.up L.reverse).reverse) = r) (w : World) :
    Calls Try.prog 7 #[.string s] w fun e w' => e = .returned (.string r) ∧ RowKit.Below w.heap.size w w' := by
  subst hres
  obtain ⟨i0, hi, hz0, hz1, hz2⟩ := info_parts info5
  have HS : Hid (s.size = L.length) := hs
  have HB : Hid (∀ k (h : k < s.size) (h' : k < L.length), s[k].toNat = L[k]) := hb
  have HR : Hid (∀ x ∈ L, 65 ≤ x ∧ x ≤ 90) := hr
  clear hs hb hr
  go_enter Try.func7, Try.ntmps7
  go_wp2_with (at_make; refine wpList_make_full _ rfl _ _ 29 rfl w.heap.size 5 i0 (.int .u8 0) 1 Try.underlying29 hi hz0 hz1 .i64 .i64 _ _ (s.size + 1) rfl rfl ?m1 ?m2 ?m3 ?m4 ?m5 ?_)
  case m1 => omega
  case m2 => omega
  case m3 => rw [hz2]; omega
  case m4 => unfold maxLen; omega
  case m5 => exact Nat.le_refl _
  intro w1 hown0 hgrow
  have hown : w1.ownsRow w.heap.size 5 1 (.slice (some ⟨w.heap.size, 0, none⟩) (s.size + 1) (s.size + 1)) (s.size + 1) ((nums (List.replicate (s.size + 1) 0)).map encB) := by
    rw [nums_rep]
    simpa [toList_madeCells_one, Value.cells] using hown0
  have hbel : RowKit.Below w.heap.size w w1 := (RowKit.Below.refl _ _).grown hgrow (Nat.le_refl _) (fun k hk => by cases hk)
  clear hown0 hgrow
  have f0 := hown.frozenAt 0
  have c0 : w1.cell? ⟨w.heap.size, 0, none⟩ = some (.int .u8 0) := by rw [hown.cellAt 0 (by omega)]; exact nums_get _ 0 0 (by simp)
  have hown1 := (hown.stored 0 (.int .u8 65)).1
  rw [show Value.int .u8 65 = Value.int .u8 ((65 : Nat) : Int) from rfl, ← nums_set, HS.out, ← Plain.row1_zero L, ← HS.out] at hown1
  have hbel1 := hbel.setCell (p := ⟨w.heap.size, 0, none⟩) (Nat.le_refl _) (.int .u8 65)
  clear hown hbel
  go_wp2
  go_loopw [4] (fun i wr => ∃ k : Nat, k ≤ s.size ∧ i = .int .i64 k ∧ wr.ownsRow w.heap.size 5 1 (.slice (some ⟨w.heap.size, 0, none⟩) (s.size + 1) (s.size + 1)) (s.size + 1) ((nums (Plain.row1 L k)).map encB) ∧ RowKit.Below w.heap.size w wr)
    (fun i _ => s.size - (intOf i).toNat)
  case atStart => exact ⟨0, Nat.zero_le _, rfl, hown1, hbel1⟩
  case round =>
    clear hown1 hbel1 f0 c0
    obtain ⟨k, hk, rfl, hown, hbel⟩ := hrel
    by_cases hlt : k < s.size
    · have hltL : k < L.length := by have := HS.out; omega
      have f1 := hown.frozenAt (k + 1)
      have c1 : ∃ v, wr.cell? ⟨w.heap.size, k + 1, none⟩ = some v := ⟨_, by rw [hown.cellAt (k + 1) (by omega)]; exact nums_get _ _ ((Plain.row1 L k)[k + 1]'(by rw [Plain.row1_length L k (by omega)]; omega)) (List.getElem?_eq_getElem _)⟩
      obtain ⟨v1, c1⟩ := c1
      have hown1 := (hown.stored (k + 1) (.int .u8 ((s[k].toNat : Nat) : Int))).1
      rw [← nums_set, HB.out k hlt hltL, Plain.row1_set L k hltL, ← HB.out k hlt hltL] at hown1
      have hbel1 := hbel.setCell (p := ⟨w.heap.size, k + 1, none⟩) (Nat.le_refl _) (.int .u8 ((s[k].toNat : Nat) : Int))
      clear hown hbel
      go_wp2
      go_roundw
      case rel => exact ⟨k + 1, by omega, by go_num, hown1, hbel1⟩
      case measure => simp [intOf]; omega
    · have hks : k = L.length := by have := HS.out; omega
      have hown2 := hown
      rw [hks, Plain.row_full] at hown2
      clear hks hown
      go_wp2
      go_loopw [5] (fun i wr => ∃ p : Nat, p ≤ L.length ∧ i = .int .i64 p ∧ Hid (L.drop p = List.replicate (L.length - p) 90) ∧ wr.ownsRow w.heap.size 5 1 (.slice (some ⟨w.heap.size, 0, none⟩) (s.size + 1) (s.size + 1)) (s.size + 1) ((nums (Plain.row2 L p)).map encB) ∧ RowKit.Below w.heap.size w wr)
        (fun i _ => (intOf i).toNat)
      case atStart => exact ⟨L.length, Nat.le_refl _, by rw [← HS.out], by show _ = _; simp, hown2, hbel⟩
      case round =>
        clear hown2 hbel
        obtain ⟨p, hp, rfl, hd, hown, hbel⟩ := hrel
        have hpl : p ≤ s.size := by have := HS.out; omega
        obtain rfl | ⟨q, rfl⟩ : p = 0 ∨ ∃ q, p = q + 1 := by
          rcases p with _ | q
          · exact .inl rfl
          · exact .inr ⟨q, rfl⟩
        · have hl : (nums (Plain.row2 L 0)).length = s.size + 1 := by rw [HS.out, nums, List.length_map, Plain.row2_length L 0 (Nat.zero_le _)]
          have conv := run_convert_bytes_arg (P := Try.prog) wr 29 5 Try.underlying29 Try.underlying5 w.heap.size 0 (s.size + 1) (s.size + 1) (nums (Plain.row2 L 0)) hl (fun i hi => by
            rw [Nat.zero_add, hown.cellAt i (by omega), cellB _ i (by omega)]) 9 Try.underlying9
          rw [← Plain.next_all L hd.out] at conv
          clear hown hl
          go_wp2
          go_ret
          exact ⟨rfl, hbel⟩
        · have hpL : q < L.length := by omega
          have f1 := hown.frozenAt (q + 1)
          obtain ⟨d, hdef⟩ : ∃ d, d = L[q] := ⟨_, rfl⟩
          have hd1 : 65 ≤ d := by rw [hdef]; exact (HR.out _ (List.getElem_mem hpL)).1
          have hd2 : d ≤ 90 := by rw [hdef]; exact (HR.out _ (List.getElem_mem hpL)).2
          have c1 : wr.cell? ⟨w.heap.size, q + 1, none⟩ = some (.int .u8 ((d : Nat) : Int)) := by rw [hown.cellAt (q + 1) (by omega), hdef]; exact nums_get _ _ _ (Plain.row2_get L q hpL)
          have HD : Hid (d = L[q]) := hdef
          clear hdef
          by_cases h90 : d = 90
          · have hown1 := (hown.stored (q + 1) (.int .u8 65)).1
            rw [show Value.int .u8 65 = Value.int .u8 ((65 : Nat) : Int) from rfl, ← nums_set, Plain.row2_down L q hpL] at hown1
            have hbel1 := hbel.setCell (p := ⟨w.heap.size, q + 1, none⟩) (Nat.le_refl _) (.int .u8 65)
            have hdd : Hid (L.drop q = List.replicate (L.length - q) 90) := Plain.drop_down L q hpL hd.out (by rw [← HD.out]; exact h90)
            rw [h90] at c1
            clear hown hbel h90
            go_wp2
            go_roundw
            case rel => exact ⟨q, by omega, by go_num, hdd, hown1, hbel1⟩
            case measure => simp [intOf]
          · have ht : (((d : Nat) : Int) == 90) = false := by simp; omega
            have hown1 := (hown.stored (q + 1) (.int .u8 ((d : Int) + 1))).1
            rw [show Value.int .u8 ((d : Int) + 1) = Value.int .u8 ((d + 1 : Nat) : Int) from rfl, ← nums_set, Plain.row2_set L q (d + 1) hpL] at hown1
            have hfin : (Plain.up L.reverse).reverse = L.take q ++ (d + 1) :: List.replicate (L.length - (q + 1)) 65 := by
              have := Plain.next_bump L q hpL hd.out (by rw [← HD.out]; exact h90)
              rw [this, ← HD.out]
            rw [← hfin] at hown1
            have hl : (nums (Plain.up L.reverse).reverse).length = s.size := by
              have h := hown1.1
              simp only [List.length_map] at h
              have h2 : (nums (65 :: (Plain.up L.reverse).reverse)).length = (nums (Plain.up L.reverse).reverse).length + 1 := rfl
              omega
            have conv := run_convert_bytes_arg (P := Try.prog) (wr.setCell ⟨w.heap.size, q + 1, none⟩ (.int .u8 ((d : Int) + 1))) 29 5 Try.underlying29 Try.underlying5 w.heap.size 1 s.size s.size (nums (Plain.up L.reverse).reverse) hl (fun i hi => by
              rw [Nat.add_comm 1 i]
              have := hown1.cellAt (i + 1) (by omega)
              rw [show Value.int .u8 ((d : Int) + 1) = Value.int .u8 ((d + 1 : Nat) : Int) from rfl, this, cellB _ (i + 1) (by show i + 1 < (nums (Plain.up L.reverse).reverse).length + 1; omega)]
              rfl) 9 Try.underlying9
            have hbel1 := hbel.setCell (p := ⟨w.heap.size, q + 1, none⟩) (Nat.le_refl _) (.int .u8 ((d : Int) + 1))
            have hspos : 0 < s.size := by omega
            have hse : ¬ s = ByteArray.empty := by intro h; rw [h] at hspos; simp at hspos
            clear hown hbel h90 hown1 hfin hl
            go_wp2
            go_ret
            exact ⟨rfl, hbel1⟩
end Go.Proofs.Qxb6619460a
