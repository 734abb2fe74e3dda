import Derived.Test.Qxb6619461aText
import Derived.Test.Qxb6619461aEq
import Derived.Test.Qxb6619461aJoin
import Derived.Laws.CopyOwn
namespace Go.Proofs.Qxb6619461a
open Go.RowKit

theorem neq22 (w : World) (a : Option Addr) (n c : Nat) : (binOp .neq 22 (.slice a n c) (.slice none 0 0)).run Try.prog w = .ok (.bool (!a.isNone)) w := run_neq_slice_nil_any (P := Try.prog) w 22 5 a n c 0 0 Try.underlying22

set_option maxHeartbeats 400000 in
theorem zzb5_ok (s : ByteArray) (t : Option Addr) (tl tc : Nat) (w : World) (_h1 : s.size ≤ 524288) (_h2 : tl ≤ 524288) :
    Calls Try.prog 5 #[.slice t tl tc, .string s] w fun e w' => e = .returned (.bool true) ∧ w = w' := by
  go_enter Try.func5, Try.ntmps5
  go_wp2
  go_ret
  exact ⟨rfl, rfl⟩

theorem carry {w2 wc : World} {g : Nat} {bs : List UInt8} (H : CellsB w2 g 0 bs) (Bc : Below w2.heap.size w2 wc) (m : Nat) : CellsB wc g 0 (bs.take m) :=
  (H.below Bc (fun hne => H.lt hne)).take m

theorem stepB (w2 wc : World) (Bc : Below w2.heap.size w2 wc) (g c : Nat) (bs : List UInt8) (H : Hid (CellsB w2 g 0 bs)) (m : Nat) (hm : m ≤ bs.length) (hc : m ≤ c) (hb : m ≤ 9223372036854775807) (s : ByteArray) (hs : s.size ≤ 9223372036854775807) (r : Bool) (hr : begins (bs.take m) s.data.toList = r) :
    Calls Try.prog 6 #[.slice (some ⟨g, 0, none⟩) m c, .string s] wc fun e w' => e = .returned (.bool r) ∧ Below w2.heap.size w2 w' :=
  (begins_at g c (bs.take m) s wc m (by rw [List.length_take]; omega) hc hb hs (carry H.out Bc m) r hr).mono fun _ _ ⟨he, h2⟩ => ⟨he, Bc.trans (h2.mono Bc.size)⟩

theorem stepE (w2 wc : World) (Bc : Below w2.heap.size w2 wc) (g c : Nat) (bs : List UInt8) (H : Hid (CellsB w2 g 0 bs)) (m : Nat) (hm : m ≤ bs.length) (hb : m ≤ 1048576) (s : ByteArray) (hs : s.size ≤ 1048576) (r : Bool) (hr : (bs.take m == s.data.toList) = r) :
    Calls Try.prog 7 #[.slice (some ⟨g, 0, none⟩) m c, .string s] wc fun e w' => e = .returned (.bool r) ∧ Below w2.heap.size w2 w' :=
  (eqt_at g c (bs.take m) s wc m (by rw [List.length_take]; omega) hb hs (carry H.out Bc m) r hr).mono fun _ _ ⟨he, h2⟩ => ⟨he, Bc.trans (h2.mono Bc.size)⟩

theorem stepC (w2 wc : World) (Bc : Below w2.heap.size w2 wc) (g c : Nat) (bs : List UInt8) (H : Hid (CellsB w2 g 0 bs)) (m : Nat) (hm : m ≤ bs.length) (hb : m ≤ 1048576) (s : ByteArray) (hs : s.size ≤ 1048576) (r : Bool) (hr : (bs.take m == s.data.toList ++ [13]) = r) :
    Calls Try.prog 8 #[.slice (some ⟨g, 0, none⟩) m c, .string s] wc fun e w' => e = .returned (.bool r) ∧ Below w2.heap.size w2 w' :=
  (eqc_at g c (bs.take m) s wc m (by rw [List.length_take]; omega) hb hs (carry H.out Bc m) r hr).mono fun _ _ ⟨he, h2⟩ => ⟨he, Bc.trans (h2.mono Bc.size)⟩

set_option maxHeartbeats 1000000 in
set_option maxRecDepth 100000 in
theorem text_nil (s : ByteArray) (w : World) (hs : s.size ≤ 524288) :
    Calls Try.prog 3 #[.slice none 0 0, .string s] w fun e w' => e = .returned (.bool true) ∧ Below w.heap.size w w' := by
  have n22 := neq22
  obtain ⟨r, hr⟩ : ∃ r, (([] : List UInt8) == s.data.toList) = r := ⟨_, rfl⟩
  have hr2 : begins [] s.data.toList = r := by rw [← hr]; exact no_newline [] _ (fun j hj => absurd hj (Nat.not_lt_zero _))
  have hsz : s.size ≤ 9223372036854775807 := by omega
  have hsm : s.size ≤ 1048576 := by omega
  have HR : Hid ((([] : List UInt8) == s.data.toList) = r) := hr
  have HR2 : Hid (begins [] s.data.toList = r) := hr2
  clear hr hr2
  go_enter Try.func3, Try.ntmps3
  go_wp2_with (go_at_call 5; refine (zzb5_ok _ _ _ _ _ hs (by decide)).mono ?_; rintro e w' ⟨rfl, rfl⟩)
  go_loop [6] (fun i => i = .int .i64 (s.size : Nat)) (fun _ => 0)
  case atStart => rfl
  case round =>
    subst hrel
    go_wp2_with fail
    refine (begins_nil s _ hsz r HR2.out).mono ?_
    rintro e w1 ⟨rfl, B1⟩
    go_wp2_with fail
    refine (eqt_nil s _ hsm r HR.out).mono ?_
    rintro e w2 ⟨rfl, B2⟩
    go_wp2_with fail
    go_ret
    exact ⟨rfl, B1.trans (B2.mono B1.size)⟩

theorem splice_all (cur cs : List Value) (h : cur.length = cs.length) : splice cur 0 cs = cs := by
  unfold splice
  simp [List.drop_of_length_le (show cur.length ≤ cs.length by omega)]

set_option maxHeartbeats 2000000 in
set_option maxRecDepth 100000 in
theorem text_at (x : Addr) (n cap : Nat) (bs : List UInt8) (s : ByteArray) (w : World) (hs : s.size ≤ 524288) (hn : n ≤ 524288) (hbn : bs.length = n) (hcl : 0 < n → ∃ b off, x = ⟨b, off, none⟩ ∧ CellsB w b off bs) :
    Calls Try.prog 3 #[.slice (some x) n cap, .string s] w fun e w' => e = .returned (.bool true) ∧ Below w.heap.size w w' := by
  have n22 := neq22
  obtain ⟨i0, hi, hz0, hz1, hz2⟩ := info_parts info5
  have hsize5 : (Try.prog.info? 5).map (·.size) = some 1 := by rw [hi]; simp [hz1]
  have hsz : s.size ≤ 9223372036854775807 := by omega
  have hsm : s.size ≤ 1048576 := by omega
  have HB : Hid (bs.length = n) := hbn
  have HC : Hid (0 < n → ∃ b off, x = ⟨b, off, none⟩ ∧ CellsB w b off bs) := hcl
  clear hbn hcl
  go_enter Try.func3, Try.ntmps3
  go_wp2_with (first | (go_at_call 5; refine (zzb5_ok _ _ _ _ _ hs hn).mono ?_; rintro e w' ⟨rfl, rfl⟩) | (at_make; refine wpList_make_full _ rfl _ _ 22 rfl w.heap.size 5 i0 (.int .u8 0) 1 Try.underlying22 hi hz0 hz1 .i64 .i64 _ _ n rfl rfl ?m1 ?m2 ?m3 ?m4 ?m5 ?_))
  case m1 => rfl
  case m2 => rfl
  case m3 => rw [hz2]; omega
  case m4 => unfold maxLen; omega
  case m5 => exact Nat.le_refl _
  intro w1 hown hgrow
  have hbel1 : Below w.heap.size w w1 := (Below.refl _ _).grown hgrow (Nat.le_refl _) (fun k hk => by cases hk)
  obtain ⟨cur, hgc, hcl⟩ : ∃ cur : List Value, w1.heap[w.heap.size]? = some (.cells cur.toArray 5 (0, 0)) ∧ cur.length = n := by
    rcases hown.2 with ⟨h, _⟩ | ⟨g', cap', cur, h, _, hg, _, _, hcs, _⟩
    · simp at h
    · simp only [Value.slice.injEq, Option.some.injEq, Addr.mk.injEq, and_true, true_and] at h
      obtain ⟨rfl, rfl⟩ := h
      exact ⟨cur.toList, by simpa using hg, by simpa using hcs⟩
  have HG : Hid (w1.heap[w.heap.size]? = some (.cells cur.toArray 5 (0, 0)) ∧ cur.length = n) := ⟨hgc, hcl⟩
  have HX : Hid (0 < n → ∃ b off, x = ⟨b, off, none⟩ ∧ CellsB w1 b off bs) := fun hp => by
    obtain ⟨b, off, e, hc⟩ := HC.out hp
    exact ⟨b, off, e, hc.below hbel1 (fun hne => hc.lt hne)⟩
  clear hown hgrow hgc hcl
  go_wp2_with (refine wpList_copy_splice rfl _ _ 22 22 rfl 5 Try.underlying22 hsize5 _ _ _ _ _ _ rfl rfl w.heap.size 0 cur 5 HG.out.1 (bs.map encU) ?d1 ?d2 ?d3 ?d4 w.heap.size w hbel1 (Nat.le_refl _) ?_)
  case d1 => simp [HB.out]
  case d2 =>
    intro _ j u hj
    have hjl : j < bs.length := (List.getElem?_eq_some_iff.1 hj).1
    have hju : bs[j] = u := (List.getElem?_eq_some_iff.1 hj).2
    obtain ⟨b, off, e, hc⟩ := HX.out (by have := HB.out; omega)
    subst e
    have ea : (⟨b, off, none⟩ : Addr).add j = ⟨b, off + j, none⟩ := by unfold Addr.add; split <;> simp_all
    rw [ea, hc j hjl, hju]
    rfl
  case d3 => simp [HG.out.2, HB.out]
  case d4 => intro v hv; simp at hv; obtain ⟨u, _, rfl⟩ := hv; rfl
  intro w2 hw2 hbel2
  rw [splice_all cur _ (by rw [HG.out.2, List.length_map, HB.out])] at hw2
  have hcell2 : CellsB w2 w.heap.size 0 bs := fun i hi => by
    rw [Nat.zero_add, cell_of_row w2 _ i _ _ _ hw2.out]
    simp [encU, hi]
  have H2 : Hid (CellsB w2 w.heap.size 0 bs) := hcell2
  have hgw : w.heap.size < w2.heap.size := by
    rcases Nat.lt_or_ge w.heap.size w2.heap.size with h | h
    · exact h
    · have := hw2.out; rw [Array.getElem?_eq_none h] at this; cases this
  clear HG HX HC hw2 hcell2 hbel1
  go_wp2
  go_loop [6] (fun i => ∃ k : Nat, s.size ≤ k ∧ (k ≤ n ∨ k ≤ s.size) ∧ i = .int .i64 k ∧ Hid (∀ j (hj : j < bs.length), s.size ≤ j → j < k → bs[j] ≠ 10)) (fun i => n - (intOf i).toNat)
  case atStart => exact ⟨s.size, Nat.le_refl _, .inr (Nat.le_refl _), rfl, fun j _ h1 h2 => absurd h2 (by omega)⟩
  case round =>
    obtain ⟨k, hk1, hk2, rfl, hnl⟩ := hrel
    have hkb : k ≤ 524288 := by omega
    clear hk2
    by_cases hlt : k < n
    · have hkl : k < bs.length := by rw [HB.out]; exact hlt
      obtain ⟨x1, hx1⟩ : ∃ x1 : Nat, x1 = bs[k].toNat := ⟨_, rfl⟩
      have hc1 : w2.cell? ⟨w.heap.size, k, none⟩ = some (.int .u8 ((x1 : Nat) : Int)) := by
        have := H2.out k hkl
        rw [Nat.zero_add] at this
        rw [this, hx1]
      have HX1 : Hid (x1 = bs[k].toNat) := hx1
      clear hx1
      by_cases h10 : x1 = 10
      · have hq : (((x1 : Nat) : Int) != 10) = false := by simp; omega
        have hb10 : bs[k] = 10 := UInt8.toNat_inj.1 (by rw [← HX1.out]; exact h10)
        have HB10 : Hid (bs[k] = 10) := hb10
        clear h10 hb10
        have htk : bs.take n = bs := List.take_of_length_le (by rw [HB.out]; exact Nat.le_refl _)
        have hLk : s.data.toList.length ≤ k := by rw [bytes_len]; exact hk1
        have hno : ∀ j (hj : j < bs.length), s.data.toList.length ≤ j → j < k → bs[j] ≠ 10 := fun j hj h1 h2 => hnl.out j hj (by rw [← bytes_len]; exact h1) h2
        have q1 := at_newline bs s.data.toList k hkl hLk HB10.out hno
        have q2 := at_newline_cut bs s.data.toList k hkl hLk HB10.out hno
        have q1' : begins (bs.take n) s.data.toList = ((bs.take k == s.data.toList) || (bs.take k == s.data.toList ++ [13])) := by rw [htk]; exact q1
        have hnb : n ≤ bs.length := by rw [HB.out]; exact Nat.le_refl _
        have hkm : k ≤ bs.length := by omega
        have hkm1 : k + 1 ≤ bs.length := by omega
        by_cases he1 : (bs.take k == s.data.toList) = true
        · have r1 : begins (bs.take n) s.data.toList = true := by rw [q1', he1]; rfl
          have r2 : begins (bs.take (k + 1)) s.data.toList = true := by rw [q2, he1]; rfl
          have K1 : Hid (begins (bs.take n) s.data.toList = true ∧ begins (bs.take (k + 1)) s.data.toList = true ∧ (bs.take k == s.data.toList) = true) := ⟨r1, r2, he1⟩
          clear q1 q2 q1' htk hLk hno hnl r1 r2 he1
          have k1 := stepB w2 w2 (Below.refl _ _) w.heap.size n bs H2 n hnb (Nat.le_refl _) (by omega) s hsz true K1.out.1
          go_wp2_with fail
          refine k1.mono ?_
          rintro e w3 ⟨rfl, B3⟩
          clear k1
          have k2 := stepE w2 w3 B3 w.heap.size n bs H2 k hkm (by omega) s hsm true K1.out.2.2
          go_wp2_with fail
          refine k2.mono ?_
          rintro e w4 ⟨rfl, B4⟩
          clear k2
          have k3 := stepB w2 w4 B4 w.heap.size n bs H2 (k + 1) hkm1 (by omega) (by omega) s hsz true K1.out.2.1
          go_wp2_with fail
          refine k3.mono ?_
          rintro e w5 ⟨rfl, B5⟩
          clear k3
          go_wp2_with fail
          go_ret
          exact ⟨rfl, hbel2.trans (B5.mono hbel2.size)⟩
        · have he1' : (bs.take k == s.data.toList) = false := by simpa using he1
          obtain ⟨r, hr⟩ : ∃ r, (bs.take k == s.data.toList ++ [13]) = r := ⟨_, rfl⟩
          have r1 : begins (bs.take n) s.data.toList = r := by rw [q1', he1', hr]; rfl
          have r2 : begins (bs.take (k + 1)) s.data.toList = r := by rw [q2, he1', hr]; rfl
          have K1 : Hid (begins (bs.take n) s.data.toList = r ∧ begins (bs.take (k + 1)) s.data.toList = r ∧ (bs.take k == s.data.toList) = false ∧ (bs.take k == s.data.toList ++ [13]) = r) := ⟨r1, r2, he1', hr⟩
          clear q1 q2 q1' htk hLk hno hnl r1 r2 he1 he1' hr
          have k1 := stepB w2 w2 (Below.refl _ _) w.heap.size n bs H2 n hnb (Nat.le_refl _) (by omega) s hsz r K1.out.1
          go_wp2_with fail
          refine k1.mono ?_
          rintro e w3 ⟨rfl, B3⟩
          clear k1
          have k2 := stepE w2 w3 B3 w.heap.size n bs H2 k hkm (by omega) s hsm false K1.out.2.2.1
          go_wp2_with fail
          refine k2.mono ?_
          rintro e w4 ⟨rfl, B4⟩
          clear k2
          have k3 := stepC w2 w4 B4 w.heap.size n bs H2 k hkm (by omega) s hsm r K1.out.2.2.2
          go_wp2_with fail
          refine k3.mono ?_
          rintro e w5 ⟨rfl, B5⟩
          clear k3
          have k4 := stepB w2 w5 B5 w.heap.size n bs H2 (k + 1) hkm1 (by omega) (by omega) s hsz r K1.out.2.1
          go_wp2_with fail
          refine k4.mono ?_
          rintro e w6 ⟨rfl, B6⟩
          clear k4
          go_wp2_with fail
          go_ret
          exact ⟨rfl, hbel2.trans (B6.mono hbel2.size)⟩
      · have hq : (((x1 : Nat) : Int) != 10) = true := by simp; omega
        have hnl' : Hid (∀ j (hj : j < bs.length), s.size ≤ j → j < k + 1 → bs[j] ≠ 10) := by
          intro j hj h1 h2
          by_cases hjk : j = k
          · subst hjk
            intro e
            exact h10 (by rw [HX1.out, e]; rfl)
          · exact hnl.out j hj h1 (by omega)
        clear h10
        go_wp2
        go_round
        case rel => exact ⟨k + 1, by omega, .inl (by omega), by go_num, hnl'⟩
        case measure => simp [intOf]; omega
    · obtain ⟨r, hr⟩ : ∃ r, (bs.take n == s.data.toList) = r := ⟨_, rfl⟩
      have htk : bs.take n = bs := List.take_of_length_le (by rw [HB.out]; exact Nat.le_refl _)
      have hr2 : begins (bs.take n) s.data.toList = r := by
        rw [← hr, htk]
        exact no_newline bs _ (fun j hj h1 => hnl.out j hj (by rw [← bytes_len]; exact h1) (by have := HB.out; omega))
      have R1 : Hid ((bs.take n == s.data.toList) = r) := hr
      have R2 : Hid (begins (bs.take n) s.data.toList = r) := hr2
      clear hr hr2 htk
      have hnb : n ≤ bs.length := by rw [HB.out]; exact Nat.le_refl _
      have k1 := stepB w2 w2 (Below.refl _ _) w.heap.size n bs H2 n hnb (Nat.le_refl _) (by omega) s hsz r R2.out
      clear hnl
      go_wp2_with fail
      refine k1.mono ?_
      rintro e w3 ⟨rfl, B3⟩
      clear k1
      have k2 := stepE w2 w3 B3 w.heap.size n bs H2 n hnb (by omega) s hsm r R1.out
      go_wp2_with fail
      refine k2.mono ?_
      rintro e w4 ⟨rfl, B4⟩
      clear k2
      go_wp2_with fail
      go_ret
      exact ⟨rfl, hbel2.trans (B4.mono hbel2.size)⟩

set_option maxHeartbeats 1000000 in
set_option maxRecDepth 100000 in
theorem text_wide (s : ByteArray) (t : Option Addr) (tl tc : Nat) (w : World) (m1 : s.size ≤ maxLen) (m2 : tl ≤ maxLen) (h : 524288 < tl) :
    Calls Try.prog 3 #[.slice t tl tc, .string s] w fun e w' => e = .returned (.bool true) ∧ w' = w := by
  unfold maxLen at m1 m2
  go_enter Try.func3, Try.ntmps3
  go_wp2
  all_goals
    go_ret
    exact ⟨rfl, rfl⟩

set_option maxHeartbeats 1000000 in
set_option maxRecDepth 100000 in
theorem text_long (s : ByteArray) (t : Option Addr) (tl tc : Nat) (w : World) (m1 : s.size ≤ maxLen) (h1 : tl ≤ 524288) (h : 524288 < s.size) :
    Calls Try.prog 3 #[.slice t tl tc, .string s] w fun e w' => e = .returned (.bool true) ∧ w' = w := by
  unfold maxLen at m1
  go_enter Try.func3, Try.ntmps3
  go_wp2
  all_goals
    go_ret
    exact ⟨rfl, rfl⟩

end Go.Proofs.Qxb6619461a
