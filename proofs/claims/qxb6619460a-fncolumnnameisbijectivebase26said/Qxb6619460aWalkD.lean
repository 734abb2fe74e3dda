import Derived.Test.Qxb6619460aWalkC
import Derived.Test.Qxb6619460aPlain
namespace Go.Proofs.Qxb6619460a
open Go.RowKit Go.Sort

theorem info5 : (Try.prog.info? 5).map (fun i => (i.zero, i.size, i.bytes)) = some (some (.int .u8 0), 1, 1) := by kernel_rfl

/-- The name of column n - 1, as a string's bytes. -/
def nums (l : List Nat) : List Int := l.map fun d : Nat => (d : Int)
def nm (n : Nat) : ByteArray := strOfNums (nums (Plain.word n))

/-- The one row that an append to an owned slice may write is one of the call's own. -/
theorem hown_block {w : World} {base : Nat} {e : TypeId} {size : Nat} {v : Value} {n : Nat} {xs : List Value} (h : w.ownsRow base e size v n xs) {k : Nat} (hk : v.ownBlock = some k) : base ≤ k := by
  rcases h.2 with ⟨rfl, _⟩ | ⟨g, cap, cur, rfl, hg, _⟩
  · simp [Value.ownBlock] at hk
  · simp [Value.ownBlock] at hk; omega

theorem cellB (zs : List Int) (i : Nat) (h : i < zs.length) : (zs.map encB)[i]? = some (.int .u8 (zs.getD i 0)) := by
  simp [List.getD, List.getElem?_eq_getElem h, encB]

set_option maxHeartbeats 1000000 in
theorem column_any (a : Int) (h0 : 0 ≤ a) (h1 : a < 9223372036854775807) (w : World) :
    Calls Try.prog 5 #[.int .i64 a] w fun e w' => e = .returned (.string (nm (a + 1).toNat)) ∧ Below w.heap.size w w' := by
  obtain ⟨i0, hi, hz0, hz1, hz2⟩ := info_parts info5
  have hall : (Plain.letters (a + 1).toNat).length ≤ 14 := Plain.length_le _ (by omega)
  obtain ⟨N, hN⟩ : ∃ N, N = (a + 1).toNat := ⟨_, rfl⟩
  have HN : Hid (N = (a + 1).toNat) := hN
  rw [← hN] at hall ⊢
  clear hN
  go_enter Try.func5, Try.ntmps5
  go_wp2
  go_loopw [3, 4] (fun v x wr => ∃ (m : Nat) (pre : List Nat), x = .int .i64 m ∧ m ≤ 9223372036854775807 ∧ pre.length ≤ 14 ∧ Hid (pre ++ Plain.letters m = Plain.letters N) ∧ wr.ownsRow w.heap.size 5 1 v pre.length ((nums pre).map encB) ∧ Below w.heap.size w wr) (fun _ x _ => (intOf x).toNat)
  case atStart => exact ⟨N, [], by rw [HN.out]; congr 1; omega, by rw [HN.out]; omega, by simp, rfl, by exact World.ownsRow_nil _ _ _ _, Below.refl _ _⟩
  case round =>
    obtain ⟨m, pre, rfl, hm, hpre, hrest, hown, hbel⟩ := hrel
    by_cases hlt : 0 < m
    · have hlen := congrArg List.length hrest.out
      rw [Plain.letters_pos m hlt, List.length_append, List.length_cons] at hlen
      have hpre' : pre.length + 1 ≤ 14 := by omega
      clear hlen
      go_wp2_with (at_builtin; refine wpList_append_own _ rfl _ _ 29 rfl w.heap.size 5 i0 (.int .u8 0) 1 1 Try.underlying29 hi hz0 hz1 hz2 rfl (by decide) _ _ _ rfl (hown.alloc _) ⟨wr.heap.size, 0, none⟩ 1 1 [.int .u8 (65 + ((m : Int) - 1) % 26)] rfl rfl ?c1 ?c2 ?c3 ?c4 ?c5 ?_)
      case c1 =>
        intro j u hj
        match j, hj with
        | 0, hj => simp at hj; subst hj; simp [Addr.add]
      case c2 => intro u hu; simp at hu; subst hu; rfl
      case c3 => unfold maxLen; omega
      case c4 => omega
      case c5 => have := hbel.size; simp; omega
      intro v' w1 hown' hgrow _
      have hbel' : RowKit.Below w.heap.size w w1 := (hbel.alloc hbel.size _).grown hgrow (by have := hbel.size; simp; omega) (fun k hk => hown_block hown hk)
      have hown2 : w1.ownsRow w.heap.size 5 1 v' (pre ++ [65 + (m - 1) % 26]).length ((nums (pre ++ [65 + (m - 1) % 26])).map encB) := by
        rw [List.length_append]
        have e1 : (nums (pre ++ [65 + (m - 1) % 26])).map encB = (nums pre).map encB ++ [.int .u8 (65 + ((m : Int) - 1) % 26)] := by
          simp [nums, encB]; omega
        rw [e1]
        exact hown'
      clear hown' hgrow hown
      go_wp2
      go_roundw
      case rel => exact ⟨(m - 1) / 26, pre ++ [65 + (m - 1) % 26], by congr 1; omega, by omega, by simp; omega, by show _ = _; rw [← hrest.out, Plain.letters_pos m hlt]; simp, hown2, hbel'⟩
      case measure => simp [intOf]; omega
    · have hm0 : m = 0 := by omega
      have hall' : pre = Plain.letters N := by have := hrest.out; rw [hm0] at this; simpa [Plain.letters_zero] using this
      have HA : Hid (pre = Plain.letters N) := hall'
      have hnn : u3 ≠ .slice none 0 0 := by
        intro he
        subst he
        have : pre ≠ [] := by rw [hall']; exact Plain.letters_ne N (by have := HN.out; omega)
        rcases hown.2 with ⟨_, h⟩ | ⟨g, cap, cur, h, _⟩
        · simp at h; exact this h
        · simp at h
      clear hm0 hall'
      obtain ⟨g, cap, rfl, hbg, _, _, hcm, hln, hH⟩ := Lib.holds_of_ownsRow hown hnn
      clear hnn
      have es : (nums pre).toArray.size = pre.length := by simp [nums]
      have hrev := reverse_arr g 0 cap (nums pre).toArray wr hH (by rw [es]; omega)
      rw [es] at hrev
      clear hH es
      go_wp2_with fail
      refine hrev.mono ?_
      rintro e w2 ⟨rfl, q, hw2⟩
      have hrl : (nums pre).reverse.length = pre.length := by simp [nums]
      have hown2 : w2.ownsRow w.heap.size 5 1 (.slice (some ⟨g, 0, none⟩) pre.length cap) pre.length ((nums pre).reverse.map encB) := by
        have := Lib.ownsRow_putRow (q := q) (ys := (nums pre).reverse) hown hrl (Nat.le_refl _)
        rw [List.take_of_length_le (Nat.le_of_eq hrl)] at this
        rw [hw2]
        simpa using this
      have hbel2 : RowKit.Below w.heap.size w w2 := by
        rw [hw2]; exact Lib.below_putRow hbel hbg
      have conv := run_convert_bytes_arg (P := Try.prog) w2 29 5 Try.underlying29 Try.underlying5 g 0 pre.length cap (nums pre).reverse hrl (fun i hi => by
        rw [Nat.zero_add, hown2.cellAt i (by omega), cellB _ i (by omega)]) 9 Try.underlying9
      have hfin : (nums pre).reverse = nums (Plain.word N) := by rw [HA.out]; simp [nums, Plain.word]
      rw [hfin] at conv
      clear hown hown2 hw2 hrev hfin hrl
      go_wp2
      go_ret
      exact ⟨rfl, hbel2⟩

set_option maxHeartbeats 1000000 in
/-- Below 0: the empty name. -/
theorem column_neg (a : Int) (h1 : -9223372036854775808 ≤ a) (h2 : a < 0) (w : World) :
    Calls Try.prog 5 #[.int .i64 a] w fun e w' => e = .returned (.string ByteArray.empty) ∧ w' = w := by
  have conv := run_convert_bytes_nil (P := Try.prog) w 29 5 Try.underlying29 Try.underlying5 0 0 9 Try.underlying9
  go_enter Try.func5, Try.ntmps5
  go_wp2
  go_loopw [3, 4] (fun v x wr => v = .slice none 0 0 ∧ x = .int .i64 (a + 1) ∧ wr = w) (fun _ _ _ => 0)
  case atStart => exact ⟨rfl, rfl, rfl⟩
  case round =>
    obtain ⟨rfl, rfl, rfl⟩ := hrel
    go_wp2_with (go_at_call 10; refine (reverse_empty _ _ _).mono ?_; rintro e w' ⟨rfl, rfl⟩)
    go_ret
    exact ⟨rfl, rfl⟩

theorem wrapmax : wrap64 9223372036854775808 = -9223372036854775808 := by unfold wrap64; omega

set_option maxHeartbeats 1000000 in
/-- At the greatest int c + 1 wraps: the empty name. -/
theorem column_max (w : World) :
    Calls Try.prog 5 #[.int .i64 9223372036854775807] w fun e w' => e = .returned (.string ByteArray.empty) ∧ w' = w := by
  have conv := run_convert_bytes_nil (P := Try.prog) w 29 5 Try.underlying29 Try.underlying5 0 0 9 Try.underlying9
  go_enter Try.func5, Try.ntmps5
  go_wp2
  go_loopw [3, 4] (fun v x wr => v = .slice none 0 0 ∧ x = .int .i64 (-9223372036854775808) ∧ wr = w) (fun _ _ _ => 0)
  case atStart => exact ⟨rfl, congrArg (Value.int .i64) wrapmax, rfl⟩
  case round =>
    obtain ⟨rfl, rfl, rfl⟩ := hrel
    go_wp2_with (go_at_call 10; refine (reverse_empty _ _ _).mono ?_; rintro e w' ⟨rfl, rfl⟩)
    go_ret
    exact ⟨rfl, rfl⟩
end Go.Proofs.Qxb6619460a
