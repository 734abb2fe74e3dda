import Derived.Test.Qxb6619461aBegins
namespace Go.Proofs.Qxb6619461a
open Go.RowKit

theorem info5 : (Try.prog.info? 5).map (fun i => (i.zero, i.size, i.bytes)) = some (some (.int .u8 0), 1, 1) := by kernel_rfl

def encU (b : UInt8) : Value := .int .u8 ((b.toNat : Nat) : Int)

/-- The one row that an append to an owned slice may write is one of the call's own. -/
theorem hown_block {w : World} {base : Nat} {e : TypeId} {size : Nat} {v : Value} {n : Nat} {xs : List Value} (h : w.ownsRow base e size v n xs) {k : Nat} (hk : v.ownBlock = some k) : base ≤ k := by
  rcases h.2 with ⟨rfl, _⟩ | ⟨g, cap, cur, rfl, hg, _⟩
  · simp [Value.ownBlock] at hk
  · simp [Value.ownBlock] at hk; omega

/-- out holds the bytes bs, and is not nil. -/
def Out (B : Nat) (w0 wr : World) (v : Value) (bs : List UInt8) : Prop :=
  wr.ownsRow B 5 1 v bs.length (bs.map encU) ∧ v ≠ .slice none 0 0 ∧ Below B w0 wr ∧ B ≤ wr.heap.size

theorem Out.push {B : Nat} {w0 wr w1 : World} {v v' : Value} {bs : List UInt8} {b : UInt8} {o : Obj} (h : Out B w0 wr v bs) (hown : w1.ownsRow B 5 1 v' (bs.length + 1) (bs.map encU ++ [encU b])) (hg : (wr.alloc o).grownBy w1 v.ownBlock)
    (hnil : ¬ v' = .slice none 0 0) : Out B w0 w1 v' (bs ++ [b]) := by
  obtain ⟨h1, h2, h3, h4⟩ := h
  have hsz : B ≤ (wr.alloc o).heap.size := by simp; omega
  exact ⟨by simpa using hown, hnil, (h3.alloc h4 o).grown hg hsz (fun k hk => hown_block h1 hk), Nat.le_trans hsz hg.size⟩

theorem Out.value {B : Nat} {w0 wr : World} {v : Value} {bs : List UInt8} (h : Out B w0 wr v bs) : ∃ g cap, v = .slice (some ⟨g, 0, none⟩) bs.length cap ∧ bs.length ≤ cap ∧ CellsB wr g 0 bs ∧ Below B w0 wr := by
  obtain ⟨h1, h2, h3, h4⟩ := h
  have h1' := h1
  rcases h1.2 with ⟨e0, _⟩ | ⟨g, cap, cur, rfl, hb, hg, hn, hm, hs, ht⟩
  · exact absurd e0 h2
  · refine ⟨g, cap, rfl, hn, fun i hi => ?_, h3⟩
    rw [Nat.zero_add, h1'.cellAt i (by omega)]
    simp [encU, hi]

theorem take_snoc (l : List UInt8) (k : Nat) (h : k < l.length) : l.take (k + 1) = l.take k ++ [l[k]] := by
  rw [List.take_succ_eq_append_getElem h]

set_option maxHeartbeats 2000000 in
theorem join_any (a mid : ByteArray) (t : Option Addr) (tl tc : Nat) (ts : List UInt8) (w : World) (ha : a.size ≤ 1048576) (hmid : mid.size ≤ 1048576) (htl : ts.length = tl) (hts : tl ≤ 1048576)
    (hc : 0 < tl → ∃ b off, t = some ⟨b, off, none⟩ ∧ CellsB w b off ts) :
    Calls Try.prog 10 #[.string a, .string mid, .slice t tl tc] w fun e w' => ∃ v, e = .returned v ∧ Out w.heap.size w w' v (a.data.toList ++ mid.data.toList ++ ts) := by
  obtain ⟨i0, hi, hz0, hz1, hz2⟩ := info_parts info5
  have HC : Hid (0 < tl → ∃ b off, t = some ⟨b, off, none⟩ ∧ CellsB w b off ts) := hc
  have HT : Hid (ts.length = tl) := htl
  clear hc htl
  go_enter Try.func10, Try.ntmps10
  go_wp2_with (at_make; refine wpList_make_own _ rfl _ _ 22 rfl w.heap.size 5 i0 (.int .u8 0) 1 Try.underlying22 hi hz0 hz1 .i64 .i64 _ (a.size + mid.size + tl) rfl rfl ?m1 ?m2 ?m3 ?m4 ?_)
  case m1 => omega
  case m2 => rw [hz2]; omega
  case m3 => unfold maxLen; omega
  case m4 => exact Nat.le_refl _
  intro w1 hown0 hgrow
  have hout : Out w.heap.size w w1 (.slice (some ⟨w.heap.size, 0, none⟩) 0 (a.size + mid.size + tl)) [] := ⟨hown0, by simp, (Below.refl _ _).grown hgrow (Nat.le_refl _) (fun k hk => by cases hk), hgrow.size⟩
  clear hown0 hgrow
  go_wp2
  go_loopw [7, 8] (fun v i wr => ∃ (k : Nat) (pre : List UInt8), k ≤ a.size ∧ i = .int .i64 k ∧ Hid (pre = a.data.toList.take k) ∧ Out w.heap.size w wr v pre) (fun _ i _ => a.size - (intOf i).toNat)
  case atStart => exact ⟨0, [], Nat.zero_le _, rfl, rfl, hout⟩
  case round =>
    clear hout
    obtain ⟨k, pre, hk, rfl, hpre, ho⟩ := hrel
    by_cases hlt : k < a.size
    · have hkl : k < a.data.toList.length := by rw [bytes_len]; exact hlt
      have hpl : pre.length ≤ 1048576 := by rw [hpre.out, List.length_take, bytes_len]; omega
      have hown := ho.1
      have hsz := ho.2.2.2
      have HO : Hid (Out w.heap.size w wr u7 pre) := ho
      clear ho
      go_wp2_with (at_builtin; refine wpList_append_own _ rfl _ _ 22 rfl w.heap.size 5 i0 (.int .u8 0) 1 1 Try.underlying22 hi hz0 hz1 hz2 rfl (by decide) _ _ _ rfl (hown.alloc _) ⟨wr.heap.size, 0, none⟩ 1 1 [.int .u8 ((a[k].toNat : Nat) : Int)] rfl rfl ?cA1 ?cA2 ?cA3 ?cA4 ?cA5 ?_)
      case cA1 =>
        intro j u hj
        match j, hj with
        | 0, hj => simp at hj; subst hj; simp [Addr.add]
      case cA2 => intro u hu; simp at hu; subst hu; rfl
      case cA3 => unfold maxLen; omega
      case cA4 => omega
      case cA5 => simp; omega
      intro v' w2 hown' hgrow hnil
      have hnil' : ¬ v' = .slice none 0 0 := by first | exact hnil | (intro e; exact absurd (hnil.1 e).1 HO.out.2.1)
      have hn : Out w.heap.size w w2 v' (pre ++ [a.data.toList[k]]) := HO.out.push hown' hgrow hnil'
      clear hown' hgrow hnil hnil' hown
      go_wp2
      go_roundw
      case rel => exact ⟨k + 1, pre ++ [a.data.toList[k]], by omega, by go_num, by show _ = _; rw [take_snoc _ k hkl, hpre.out], hn⟩
      case measure => simp [intOf]; omega
    · have hp1 : Hid (pre = a.data.toList) := by show _ = _; rw [hpre.out]; exact List.take_of_length_le (by rw [bytes_len]; omega)
      clear hpre
      go_wp2
      go_loopw [7, 9] (fun v i wr => ∃ (k : Nat) (pre : List UInt8), k ≤ mid.size ∧ i = .int .i64 k ∧ Hid (pre = a.data.toList ++ mid.data.toList.take k) ∧ Out w.heap.size w wr v pre) (fun _ i _ => mid.size - (intOf i).toNat)
      case atStart => exact ⟨0, pre, Nat.zero_le _, rfl, by show _ = _; rw [hp1.out]; simp, ho⟩
      case round =>
        clear ho
        obtain ⟨k, pre, hk, rfl, hpre, ho⟩ := hrel
        by_cases hlt : k < mid.size
        · have hkl : k < mid.data.toList.length := by rw [bytes_len]; exact hlt
          have hpl : pre.length ≤ 2097152 := by rw [hpre.out, List.length_append, List.length_take, bytes_len, bytes_len]; omega
          have hown := ho.1
          have hsz := ho.2.2.2
          have HO : Hid (Out w.heap.size w wr u7 pre) := ho
          clear ho
          go_wp2_with (at_builtin; refine wpList_append_own _ rfl _ _ 22 rfl w.heap.size 5 i0 (.int .u8 0) 1 1 Try.underlying22 hi hz0 hz1 hz2 rfl (by decide) _ _ _ rfl (hown.alloc _) ⟨wr.heap.size, 0, none⟩ 1 1 [.int .u8 ((mid[k].toNat : Nat) : Int)] rfl rfl ?cB1 ?cB2 ?cB3 ?cB4 ?cB5 ?_)
          case cB1 =>
            intro j u hj
            match j, hj with
            | 0, hj => simp at hj; subst hj; simp [Addr.add]
          case cB2 => intro u hu; simp at hu; subst hu; rfl
          case cB3 => unfold maxLen; omega
          case cB4 => omega
          case cB5 => simp; omega
          intro v' w2 hown' hgrow hnil
          have hnil' : ¬ v' = .slice none 0 0 := by first | exact hnil | (intro e; exact absurd (hnil.1 e).1 HO.out.2.1)
          have hn : Out w.heap.size w w2 v' (pre ++ [mid.data.toList[k]]) := HO.out.push hown' hgrow hnil'
          clear hown' hgrow hnil hnil' hown
          go_wp2
          go_roundw
          case rel => exact ⟨k + 1, pre ++ [mid.data.toList[k]], by omega, by go_num, by show _ = _; rw [take_snoc _ k hkl, hpre.out, List.append_assoc], hn⟩
          case measure => simp [intOf]; omega
        · have hp2 : Hid (pre = a.data.toList ++ mid.data.toList) := by show _ = _; rw [hpre.out]; rw [List.take_of_length_le (by rw [bytes_len]; omega)]
          clear hpre
          go_wp2
          go_loopw [7, 10] (fun v i wr => ∃ (k : Nat) (pre : List UInt8), k ≤ tl ∧ i = .int .i64 k ∧ Hid (pre = a.data.toList ++ mid.data.toList ++ ts.take k) ∧ Out w.heap.size w wr v pre) (fun _ i _ => tl - (intOf i).toNat)
          case atStart => exact ⟨0, pre, Nat.zero_le _, rfl, by show _ = _; rw [hp2.out]; simp, ho⟩
          case round =>
            clear ho
            obtain ⟨k, pre, hk, rfl, hpre, ho⟩ := hrel
            by_cases hlt : k < tl
            · have hkl : k < ts.length := by rw [HT.out]; exact hlt
              have hpl : pre.length ≤ 3145728 := by rw [hpre.out, List.length_append, List.length_append, List.length_take, bytes_len, bytes_len, HT.out]; omega
              obtain ⟨b, off, rfl, hcl⟩ := HC.out (by omega)
              have hbw : b < w.heap.size := hcl.lt (by intro e; rw [e] at hkl; exact absurd hkl (Nat.not_lt_zero _))
              have hcell : wr.cell? ⟨b, off + k, none⟩ = some (.int .u8 ((ts[k].toNat : Nat) : Int)) := by rw [ho.2.2.1.cell (p := ⟨b, off + k, none⟩) hbw]; exact hcl k hkl
              have hown := ho.1
              have hsz := ho.2.2.2
              have HO : Hid (Out w.heap.size w wr u7 pre) := ho
              clear ho hcl
              go_wp2_with (at_builtin; refine wpList_append_own _ rfl _ _ 22 rfl w.heap.size 5 i0 (.int .u8 0) 1 1 Try.underlying22 hi hz0 hz1 hz2 rfl (by decide) _ _ _ rfl (hown.alloc _) ⟨wr.heap.size, 0, none⟩ 1 1 [.int .u8 ((ts[k].toNat : Nat) : Int)] rfl rfl ?cC1 ?cC2 ?cC3 ?cC4 ?cC5 ?_)
              case cC1 =>
                intro j u hj
                match j, hj with
                | 0, hj => simp at hj; subst hj; simp [Addr.add]
              case cC2 => intro u hu; simp at hu; subst hu; rfl
              case cC3 => unfold maxLen; omega
              case cC4 => omega
              case cC5 => simp; omega
              intro v' w2 hown' hgrow hnil
              have hnil' : ¬ v' = .slice none 0 0 := by first | exact hnil | (intro e; exact absurd (hnil.1 e).1 HO.out.2.1)
              have hn : Out w.heap.size w w2 v' (pre ++ [ts[k]]) := HO.out.push hown' hgrow hnil'
              clear hown' hgrow hnil hnil' hown
              go_wp2
              go_roundw
              case rel => exact ⟨k + 1, pre ++ [ts[k]], by omega, by go_num, by show _ = _; rw [take_snoc _ k hkl, hpre.out, List.append_assoc], hn⟩
              case measure => simp [intOf]; omega
            · have hp3 : pre = a.data.toList ++ mid.data.toList ++ ts := by rw [hpre.out]; rw [List.take_of_length_le (by rw [HT.out]; omega)]
              have HO : Hid (Out w.heap.size w wr u7 (a.data.toList ++ mid.data.toList ++ ts)) := by rw [← hp3]; exact ho
              clear hpre hp3 ho
              go_wp2
              go_ret
              exact ⟨_, rfl, HO.out⟩
end Go.Proofs.Qxb6619461a
