import Derived.Test.Qxb6619461aOwn
import Derived.Lib.Strings
namespace Go.Proofs.Qxb6619461a
open Go.RowKit

set_option maxHeartbeats 400000 in
theorem zzb9_ok (s : ByteArray) (t : Option Addr) (tl tc : Nat) (w : World) (h1 : s.size ≤ 524288) (h2 : tl ≤ 524288) :
    Calls Try.prog 9 #[.string s, .slice t tl tc] w fun e w' => e = .returned (.bool true) ∧ w = w' := by
  go_enter Try.func9, Try.ntmps9
  go_wp2
  go_ret
  exact ⟨rfl, rfl⟩

theorem app_data (a b : ByteArray) : (a ++ b).data.toList = a.data.toList ++ b.data.toList := by
  rw [ByteArray.data_append, Array.toList_append]

theorem app_size (a b : ByteArray) : (a ++ b).size = a.size + b.size := by
  have := congrArg List.length (app_data a b)
  rw [List.length_append, bytes_len, bytes_len, bytes_len] at this
  exact this

theorem cut_data (s : ByteArray) : (s.extract 0 (s.size - 1)).data.toList = s.data.toList.take (s.data.toList.length - 1) := by
  rw [Lib.extract_data, bytes_len]
  simp

set_option maxHeartbeats 2000000 in
set_option maxRecDepth 100000 in
theorem own_t_l (s : ByteArray) (b off : Nat) (tl tc : Nat) (d : UInt8) (ts : List UInt8) (w : World) (hs : s.size ≤ 524288) (hline : 0 < s.size) (T : TailAt w (some ⟨b, off, none⟩) tl (d :: ts)) (htl : tl ≤ 524288) :
    Calls Try.prog 4 #[.string s, .slice (some ⟨b, off, none⟩) tl tc] w fun e w' => e = .returned (.bool true) ∧ Below w.heap.size w w' := by
  have hsm : s.size ≤ 1048576 := by omega
  have hsz : s.size ≤ 9223372036854775807 := by omega
  have htm : tl ≤ 1048576 := by omega
  have htp : 0 < tl := by rw [← T.1]; simp
  obtain ⟨n1, hn1⟩ : ∃ n, (s.data.toList ++ ((⟨#[]⟩ : ByteArray)).data.toList ++ []).length = n := ⟨_, rfl⟩
  have N1 : Hid ((s.data.toList ++ ((⟨#[]⟩ : ByteArray)).data.toList ++ []).length = n1) := hn1
  have b1 : n1 ≤ 9223372036854775807 := by
    rw [← hn1, List.length_append, List.length_append, bytes_len, bytes_len]
    have e1 : ((⟨#[]⟩ : ByteArray)).size ≤ 2 := by decide
    have e3 : ([] : List UInt8).length = 0 := rfl
    omega
  clear hn1
  obtain ⟨n2, hn2⟩ : ∃ n, (s.data.toList ++ ((⟨#[10]⟩ : ByteArray)).data.toList ++ (d :: ts)).length = n := ⟨_, rfl⟩
  have N2 : Hid ((s.data.toList ++ ((⟨#[10]⟩ : ByteArray)).data.toList ++ (d :: ts)).length = n2) := hn2
  have b2 : n2 ≤ 9223372036854775807 := by
    rw [← hn2, List.length_append, List.length_append, bytes_len, bytes_len]
    have e1 : ((⟨#[10]⟩ : ByteArray)).size ≤ 2 := by decide
    rw [T.1]
    omega
  clear hn2
  obtain ⟨n3, hn3⟩ : ∃ n, (s.data.toList ++ ((⟨#[13, 10]⟩ : ByteArray)).data.toList ++ (d :: ts)).length = n := ⟨_, rfl⟩
  have N3 : Hid ((s.data.toList ++ ((⟨#[13, 10]⟩ : ByteArray)).data.toList ++ (d :: ts)).length = n3) := hn3
  have b3 : n3 ≤ 9223372036854775807 := by
    rw [← hn3, List.length_append, List.length_append, bytes_len, bytes_len]
    have e1 : ((⟨#[13, 10]⟩ : ByteArray)).size ≤ 2 := by decide
    rw [T.1]
    omega
  clear hn3
  obtain ⟨n4, hn4⟩ : ∃ n, (s.data.toList ++ ((⟨#[13]⟩ : ByteArray)).data.toList ++ (d :: ts)).length = n := ⟨_, rfl⟩
  have N4 : Hid ((s.data.toList ++ ((⟨#[13]⟩ : ByteArray)).data.toList ++ (d :: ts)).length = n4) := hn4
  have b4 : n4 ≤ 9223372036854775807 := by
    rw [← hn4, List.length_append, List.length_append, bytes_len, bytes_len]
    have e1 : ((⟨#[13]⟩ : ByteArray)).size ≤ 2 := by decide
    rw [T.1]
    omega
  clear hn4
  obtain ⟨n5, hn5⟩ : ∃ n, (s.data.toList ++ ((⟨#[120]⟩ : ByteArray)).data.toList ++ (d :: ts)).length = n := ⟨_, rfl⟩
  have N5 : Hid ((s.data.toList ++ ((⟨#[120]⟩ : ByteArray)).data.toList ++ (d :: ts)).length = n5) := hn5
  have b5 : n5 ≤ 9223372036854775807 := by
    rw [← hn5, List.length_append, List.length_append, bytes_len, bytes_len]
    have e1 : ((⟨#[120]⟩ : ByteArray)).size ≤ 2 := by decide
    rw [T.1]
    omega
  clear hn5
  obtain ⟨n6, hn6⟩ : ∃ n, (s.data.toList ++ ((⟨#[10]⟩ : ByteArray)).data.toList ++ (d :: ts)).length = n := ⟨_, rfl⟩
  have N6 : Hid ((s.data.toList ++ ((⟨#[10]⟩ : ByteArray)).data.toList ++ (d :: ts)).length = n6) := hn6
  have b6 : n6 ≤ 9223372036854775807 := by
    rw [← hn6, List.length_append, List.length_append, bytes_len, bytes_len]
    have e1 : ((⟨#[10]⟩ : ByteArray)).size ≤ 2 := by decide
    rw [T.1]
    omega
  clear hn6
  obtain ⟨n7, hn7⟩ : ∃ n, ((s.extract 0 (s.size - 1)).data.toList ++ ((⟨#[]⟩ : ByteArray)).data.toList ++ []).length = n := ⟨_, rfl⟩
  have N7 : Hid (((s.extract 0 (s.size - 1)).data.toList ++ ((⟨#[]⟩ : ByteArray)).data.toList ++ []).length = n7) := hn7
  have b7 : n7 ≤ 9223372036854775807 := by
    rw [← hn7, List.length_append, List.length_append, bytes_len, bytes_len]
    have e1 : ((⟨#[]⟩ : ByteArray)).size ≤ 2 := by decide
    have e2 : (s.extract 0 (s.size - 1)).size ≤ s.size := by rw [ByteArray.size_extract]; omega
    have e3 : ([] : List UInt8).length = 0 := rfl
    omega
  clear hn7
  have TT : Hid (TailAt w (some ⟨b, off, none⟩) tl (d :: ts)) := T
  have hc0 : ∀ wc, Below w.heap.size w wc → wc.cell? ⟨b, off, none⟩ = some (.int .u8 ((d.toNat : Nat) : Int)) := fun wc hb => by
    obtain ⟨b', off', e, hc⟩ := (T.below hb).2 htp
    injection e with e
    injection e with e1 e2
    subst e1; subst e2
    exact hc 0 (by simp)
  have HC : Hid (∀ wc, Below w.heap.size w wc → wc.cell? ⟨b, off, none⟩ = some (.int .u8 ((d.toNat : Nat) : Int))) := hc0
  clear T hc0
  go_enter Try.func4, Try.ntmps4
  go_wp2_with (go_at_call 9; refine (zzb9_ok _ _ _ _ _ hs htl).mono ?_; rintro e w' ⟨rfl, rfl⟩)
  have B0 := Below.refl w.heap.size w
  have j1 := step_join w w B0 s ⟨#[]⟩ none 0 0 [] (tail_none w) hsm (by decide) (by decide) _ rfl n1 N1.out
  refine j1.mono ?_
  rintro e w1 ⟨g1, cap1, rfl, H1, D1⟩
  clear j1
  have k1 := step_begins w w1 D1 g1 cap1 _ n1 N1.out H1 s b1 hsz true (law1 _)
  go_wp2_with fail
  refine k1.mono ?_
  rintro e v1 ⟨rfl, B1⟩
  clear k1 H1 D1
  go_wp2_with fail
  have j2 := step_join w v1 B1 s ⟨#[10]⟩ (some ⟨b, off, none⟩) tl tc (d :: ts) TT.out hsm (by decide) htm _ rfl n2 N2.out
  refine j2.mono ?_
  rintro e w2 ⟨g2, cap2, rfl, H2, D2⟩
  clear j2
  have k2 := step_begins w w2 D2 g2 cap2 _ n2 N2.out H2 s b2 hsz true (law2 _ _)
  go_wp2_with fail
  refine k2.mono ?_
  rintro e v2 ⟨rfl, B2⟩
  clear k2 H2 D2
  go_wp2_with fail
  have j3 := step_join w v2 B2 s ⟨#[13, 10]⟩ (some ⟨b, off, none⟩) tl tc (d :: ts) TT.out hsm (by decide) htm _ rfl n3 N3.out
  refine j3.mono ?_
  rintro e w3 ⟨g3, cap3, rfl, H3, D3⟩
  clear j3
  have k3 := step_begins w w3 D3 g3 cap3 _ n3 N3.out H3 s b3 hsz true (law3 _ _)
  go_wp2_with fail
  refine k3.mono ?_
  rintro e v3 ⟨rfl, B3⟩
  clear k3 H3 D3
  have c0 := HC.out _ B3
  go_wp2_with fail
  have j4 := step_join w v3 B3 s ⟨#[13]⟩ (some ⟨b, off, none⟩) tl tc (d :: ts) TT.out hsm (by decide) htm _ rfl n4 N4.out
  refine j4.mono ?_
  rintro e w4 ⟨g4, cap4, rfl, H4, D4⟩
  clear j4
  have k4 := step_begins w w4 D4 g4 cap4 _ n4 N4.out H4 s b4 hsz (((d.toNat : Nat) : Int) == 10) (law4_cons _ _ _)
  go_wp2_with fail
  refine k4.mono ?_
  rintro e v4 ⟨rfl, B4⟩
  clear k4 H4 D4
  go_wp2_with fail
  have j5 := step_join w v4 B4 s ⟨#[120]⟩ (some ⟨b, off, none⟩) tl tc (d :: ts) TT.out hsm (by decide) htm _ rfl n5 N5.out
  refine j5.mono ?_
  rintro e w5 ⟨g5, cap5, rfl, H5, D5⟩
  clear j5
  have k5 := step_begins w w5 D5 g5 cap5 _ n5 N5.out H5 s b5 hsz false (law5 _ _)
  go_wp2_with fail
  refine k5.mono ?_
  rintro e v5 ⟨rfl, B5⟩
  clear k5 H5 D5
  go_wp2_with fail
  have j6 := step_join w v5 B5 s ⟨#[10]⟩ (some ⟨b, off, none⟩) tl tc (d :: ts) TT.out hsm (by decide) htm _ rfl n6 N6.out
  refine j6.mono ?_
  rintro e w6 ⟨g6, cap6, rfl, H6, D6⟩
  clear j6
  have k6 := step_begins w w6 D6 g6 cap6 _ n6 N6.out H6 (s ++ ⟨#[120]⟩) b6 (by rw [app_size]; have e1 : ((⟨#[120]⟩ : ByteArray)).size = 1 := rfl; omega) false (by rw [app_data]; exact law6 _ _)
  go_wp2_with fail
  refine k6.mono ?_
  rintro e v6 ⟨rfl, B6⟩
  clear k6 H6 D6
  go_wp2_with fail
  have j7 := step_join w v6 B6 (s.extract 0 (s.size - 1)) ⟨#[]⟩ none 0 0 [] (tail_none w) (by rw [ByteArray.size_extract]; omega) (by decide) (by decide) _ rfl n7 N7.out
  refine j7.mono ?_
  rintro e w7 ⟨g7, cap7, rfl, H7, D7⟩
  clear j7
  have k7 := step_begins w w7 D7 g7 cap7 _ n7 N7.out H7 s b7 hsz false (by rw [cut_data]; exact law7 _ (by rw [bytes_len]; exact hline))
  go_wp2_with fail
  refine k7.mono ?_
  rintro e v7 ⟨rfl, B7⟩
  clear k7 H7 D7
  go_wp2_with fail
  go_ret
  exact ⟨rfl, B7⟩

set_option maxHeartbeats 2000000 in
set_option maxRecDepth 100000 in
theorem own_t_z (s : ByteArray) (b off : Nat) (tl tc : Nat) (d : UInt8) (ts : List UInt8) (w : World) (hs : s.size ≤ 524288) (hline : s.size = 0) (T : TailAt w (some ⟨b, off, none⟩) tl (d :: ts)) (htl : tl ≤ 524288) :
    Calls Try.prog 4 #[.string s, .slice (some ⟨b, off, none⟩) tl tc] w fun e w' => e = .returned (.bool true) ∧ Below w.heap.size w w' := by
  have hsm : s.size ≤ 1048576 := by omega
  have hsz : s.size ≤ 9223372036854775807 := by omega
  have htm : tl ≤ 1048576 := by omega
  have htp : 0 < tl := by rw [← T.1]; simp
  obtain ⟨n1, hn1⟩ : ∃ n, (s.data.toList ++ ((⟨#[]⟩ : ByteArray)).data.toList ++ []).length = n := ⟨_, rfl⟩
  have N1 : Hid ((s.data.toList ++ ((⟨#[]⟩ : ByteArray)).data.toList ++ []).length = n1) := hn1
  have b1 : n1 ≤ 9223372036854775807 := by
    rw [← hn1, List.length_append, List.length_append, bytes_len, bytes_len]
    have e1 : ((⟨#[]⟩ : ByteArray)).size ≤ 2 := by decide
    have e3 : ([] : List UInt8).length = 0 := rfl
    omega
  clear hn1
  obtain ⟨n2, hn2⟩ : ∃ n, (s.data.toList ++ ((⟨#[10]⟩ : ByteArray)).data.toList ++ (d :: ts)).length = n := ⟨_, rfl⟩
  have N2 : Hid ((s.data.toList ++ ((⟨#[10]⟩ : ByteArray)).data.toList ++ (d :: ts)).length = n2) := hn2
  have b2 : n2 ≤ 9223372036854775807 := by
    rw [← hn2, List.length_append, List.length_append, bytes_len, bytes_len]
    have e1 : ((⟨#[10]⟩ : ByteArray)).size ≤ 2 := by decide
    rw [T.1]
    omega
  clear hn2
  obtain ⟨n3, hn3⟩ : ∃ n, (s.data.toList ++ ((⟨#[13, 10]⟩ : ByteArray)).data.toList ++ (d :: ts)).length = n := ⟨_, rfl⟩
  have N3 : Hid ((s.data.toList ++ ((⟨#[13, 10]⟩ : ByteArray)).data.toList ++ (d :: ts)).length = n3) := hn3
  have b3 : n3 ≤ 9223372036854775807 := by
    rw [← hn3, List.length_append, List.length_append, bytes_len, bytes_len]
    have e1 : ((⟨#[13, 10]⟩ : ByteArray)).size ≤ 2 := by decide
    rw [T.1]
    omega
  clear hn3
  obtain ⟨n4, hn4⟩ : ∃ n, (s.data.toList ++ ((⟨#[13]⟩ : ByteArray)).data.toList ++ (d :: ts)).length = n := ⟨_, rfl⟩
  have N4 : Hid ((s.data.toList ++ ((⟨#[13]⟩ : ByteArray)).data.toList ++ (d :: ts)).length = n4) := hn4
  have b4 : n4 ≤ 9223372036854775807 := by
    rw [← hn4, List.length_append, List.length_append, bytes_len, bytes_len]
    have e1 : ((⟨#[13]⟩ : ByteArray)).size ≤ 2 := by decide
    rw [T.1]
    omega
  clear hn4
  obtain ⟨n5, hn5⟩ : ∃ n, (s.data.toList ++ ((⟨#[120]⟩ : ByteArray)).data.toList ++ (d :: ts)).length = n := ⟨_, rfl⟩
  have N5 : Hid ((s.data.toList ++ ((⟨#[120]⟩ : ByteArray)).data.toList ++ (d :: ts)).length = n5) := hn5
  have b5 : n5 ≤ 9223372036854775807 := by
    rw [← hn5, List.length_append, List.length_append, bytes_len, bytes_len]
    have e1 : ((⟨#[120]⟩ : ByteArray)).size ≤ 2 := by decide
    rw [T.1]
    omega
  clear hn5
  obtain ⟨n6, hn6⟩ : ∃ n, (s.data.toList ++ ((⟨#[10]⟩ : ByteArray)).data.toList ++ (d :: ts)).length = n := ⟨_, rfl⟩
  have N6 : Hid ((s.data.toList ++ ((⟨#[10]⟩ : ByteArray)).data.toList ++ (d :: ts)).length = n6) := hn6
  have b6 : n6 ≤ 9223372036854775807 := by
    rw [← hn6, List.length_append, List.length_append, bytes_len, bytes_len]
    have e1 : ((⟨#[10]⟩ : ByteArray)).size ≤ 2 := by decide
    rw [T.1]
    omega
  clear hn6
  have TT : Hid (TailAt w (some ⟨b, off, none⟩) tl (d :: ts)) := T
  have hc0 : ∀ wc, Below w.heap.size w wc → wc.cell? ⟨b, off, none⟩ = some (.int .u8 ((d.toNat : Nat) : Int)) := fun wc hb => by
    obtain ⟨b', off', e, hc⟩ := (T.below hb).2 htp
    injection e with e
    injection e with e1 e2
    subst e1; subst e2
    exact hc 0 (by simp)
  have HC : Hid (∀ wc, Below w.heap.size w wc → wc.cell? ⟨b, off, none⟩ = some (.int .u8 ((d.toNat : Nat) : Int))) := hc0
  clear T hc0
  go_enter Try.func4, Try.ntmps4
  go_wp2_with (go_at_call 9; refine (zzb9_ok _ _ _ _ _ hs htl).mono ?_; rintro e w' ⟨rfl, rfl⟩)
  have B0 := Below.refl w.heap.size w
  have j1 := step_join w w B0 s ⟨#[]⟩ none 0 0 [] (tail_none w) hsm (by decide) (by decide) _ rfl n1 N1.out
  refine j1.mono ?_
  rintro e w1 ⟨g1, cap1, rfl, H1, D1⟩
  clear j1
  have k1 := step_begins w w1 D1 g1 cap1 _ n1 N1.out H1 s b1 hsz true (law1 _)
  go_wp2_with fail
  refine k1.mono ?_
  rintro e v1 ⟨rfl, B1⟩
  clear k1 H1 D1
  go_wp2_with fail
  have j2 := step_join w v1 B1 s ⟨#[10]⟩ (some ⟨b, off, none⟩) tl tc (d :: ts) TT.out hsm (by decide) htm _ rfl n2 N2.out
  refine j2.mono ?_
  rintro e w2 ⟨g2, cap2, rfl, H2, D2⟩
  clear j2
  have k2 := step_begins w w2 D2 g2 cap2 _ n2 N2.out H2 s b2 hsz true (law2 _ _)
  go_wp2_with fail
  refine k2.mono ?_
  rintro e v2 ⟨rfl, B2⟩
  clear k2 H2 D2
  go_wp2_with fail
  have j3 := step_join w v2 B2 s ⟨#[13, 10]⟩ (some ⟨b, off, none⟩) tl tc (d :: ts) TT.out hsm (by decide) htm _ rfl n3 N3.out
  refine j3.mono ?_
  rintro e w3 ⟨g3, cap3, rfl, H3, D3⟩
  clear j3
  have k3 := step_begins w w3 D3 g3 cap3 _ n3 N3.out H3 s b3 hsz true (law3 _ _)
  go_wp2_with fail
  refine k3.mono ?_
  rintro e v3 ⟨rfl, B3⟩
  clear k3 H3 D3
  have c0 := HC.out _ B3
  go_wp2_with fail
  have j4 := step_join w v3 B3 s ⟨#[13]⟩ (some ⟨b, off, none⟩) tl tc (d :: ts) TT.out hsm (by decide) htm _ rfl n4 N4.out
  refine j4.mono ?_
  rintro e w4 ⟨g4, cap4, rfl, H4, D4⟩
  clear j4
  have k4 := step_begins w w4 D4 g4 cap4 _ n4 N4.out H4 s b4 hsz (((d.toNat : Nat) : Int) == 10) (law4_cons _ _ _)
  go_wp2_with fail
  refine k4.mono ?_
  rintro e v4 ⟨rfl, B4⟩
  clear k4 H4 D4
  go_wp2_with fail
  have j5 := step_join w v4 B4 s ⟨#[120]⟩ (some ⟨b, off, none⟩) tl tc (d :: ts) TT.out hsm (by decide) htm _ rfl n5 N5.out
  refine j5.mono ?_
  rintro e w5 ⟨g5, cap5, rfl, H5, D5⟩
  clear j5
  have k5 := step_begins w w5 D5 g5 cap5 _ n5 N5.out H5 s b5 hsz false (law5 _ _)
  go_wp2_with fail
  refine k5.mono ?_
  rintro e v5 ⟨rfl, B5⟩
  clear k5 H5 D5
  go_wp2_with fail
  have j6 := step_join w v5 B5 s ⟨#[10]⟩ (some ⟨b, off, none⟩) tl tc (d :: ts) TT.out hsm (by decide) htm _ rfl n6 N6.out
  refine j6.mono ?_
  rintro e w6 ⟨g6, cap6, rfl, H6, D6⟩
  clear j6
  have k6 := step_begins w w6 D6 g6 cap6 _ n6 N6.out H6 (s ++ ⟨#[120]⟩) b6 (by rw [app_size]; have e1 : ((⟨#[120]⟩ : ByteArray)).size = 1 := rfl; omega) false (by rw [app_data]; exact law6 _ _)
  go_wp2_with fail
  refine k6.mono ?_
  rintro e v6 ⟨rfl, B6⟩
  clear k6 H6 D6
  go_wp2_with fail
  go_ret
  exact ⟨rfl, B6⟩

set_option maxHeartbeats 2000000 in
set_option maxRecDepth 100000 in
theorem own_e_l (s : ByteArray) (t : Option Addr) (tc : Nat) (w : World) (hs : s.size ≤ 524288) (hline : 0 < s.size) (T : TailAt w t 0 []) :
    Calls Try.prog 4 #[.string s, .slice t 0 tc] w fun e w' => e = .returned (.bool true) ∧ Below w.heap.size w w' := by
  have hsm : s.size ≤ 1048576 := by omega
  have hsz : s.size ≤ 9223372036854775807 := by omega
  have htm : 0 ≤ 1048576 := by omega
  obtain ⟨n1, hn1⟩ : ∃ n, (s.data.toList ++ ((⟨#[]⟩ : ByteArray)).data.toList ++ []).length = n := ⟨_, rfl⟩
  have N1 : Hid ((s.data.toList ++ ((⟨#[]⟩ : ByteArray)).data.toList ++ []).length = n1) := hn1
  have b1 : n1 ≤ 9223372036854775807 := by
    rw [← hn1, List.length_append, List.length_append, bytes_len, bytes_len]
    have e1 : ((⟨#[]⟩ : ByteArray)).size ≤ 2 := by decide
    have e3 : ([] : List UInt8).length = 0 := rfl
    omega
  clear hn1
  obtain ⟨n2, hn2⟩ : ∃ n, (s.data.toList ++ ((⟨#[10]⟩ : ByteArray)).data.toList ++ []).length = n := ⟨_, rfl⟩
  have N2 : Hid ((s.data.toList ++ ((⟨#[10]⟩ : ByteArray)).data.toList ++ []).length = n2) := hn2
  have b2 : n2 ≤ 9223372036854775807 := by
    rw [← hn2, List.length_append, List.length_append, bytes_len, bytes_len]
    have e1 : ((⟨#[10]⟩ : ByteArray)).size ≤ 2 := by decide
    rw [T.1]
    omega
  clear hn2
  obtain ⟨n3, hn3⟩ : ∃ n, (s.data.toList ++ ((⟨#[13, 10]⟩ : ByteArray)).data.toList ++ []).length = n := ⟨_, rfl⟩
  have N3 : Hid ((s.data.toList ++ ((⟨#[13, 10]⟩ : ByteArray)).data.toList ++ []).length = n3) := hn3
  have b3 : n3 ≤ 9223372036854775807 := by
    rw [← hn3, List.length_append, List.length_append, bytes_len, bytes_len]
    have e1 : ((⟨#[13, 10]⟩ : ByteArray)).size ≤ 2 := by decide
    rw [T.1]
    omega
  clear hn3
  obtain ⟨n4, hn4⟩ : ∃ n, (s.data.toList ++ ((⟨#[13]⟩ : ByteArray)).data.toList ++ []).length = n := ⟨_, rfl⟩
  have N4 : Hid ((s.data.toList ++ ((⟨#[13]⟩ : ByteArray)).data.toList ++ []).length = n4) := hn4
  have b4 : n4 ≤ 9223372036854775807 := by
    rw [← hn4, List.length_append, List.length_append, bytes_len, bytes_len]
    have e1 : ((⟨#[13]⟩ : ByteArray)).size ≤ 2 := by decide
    rw [T.1]
    omega
  clear hn4
  obtain ⟨n5, hn5⟩ : ∃ n, (s.data.toList ++ ((⟨#[120]⟩ : ByteArray)).data.toList ++ []).length = n := ⟨_, rfl⟩
  have N5 : Hid ((s.data.toList ++ ((⟨#[120]⟩ : ByteArray)).data.toList ++ []).length = n5) := hn5
  have b5 : n5 ≤ 9223372036854775807 := by
    rw [← hn5, List.length_append, List.length_append, bytes_len, bytes_len]
    have e1 : ((⟨#[120]⟩ : ByteArray)).size ≤ 2 := by decide
    rw [T.1]
    omega
  clear hn5
  obtain ⟨n6, hn6⟩ : ∃ n, (s.data.toList ++ ((⟨#[10]⟩ : ByteArray)).data.toList ++ []).length = n := ⟨_, rfl⟩
  have N6 : Hid ((s.data.toList ++ ((⟨#[10]⟩ : ByteArray)).data.toList ++ []).length = n6) := hn6
  have b6 : n6 ≤ 9223372036854775807 := by
    rw [← hn6, List.length_append, List.length_append, bytes_len, bytes_len]
    have e1 : ((⟨#[10]⟩ : ByteArray)).size ≤ 2 := by decide
    rw [T.1]
    omega
  clear hn6
  obtain ⟨n7, hn7⟩ : ∃ n, ((s.extract 0 (s.size - 1)).data.toList ++ ((⟨#[]⟩ : ByteArray)).data.toList ++ []).length = n := ⟨_, rfl⟩
  have N7 : Hid (((s.extract 0 (s.size - 1)).data.toList ++ ((⟨#[]⟩ : ByteArray)).data.toList ++ []).length = n7) := hn7
  have b7 : n7 ≤ 9223372036854775807 := by
    rw [← hn7, List.length_append, List.length_append, bytes_len, bytes_len]
    have e1 : ((⟨#[]⟩ : ByteArray)).size ≤ 2 := by decide
    have e2 : (s.extract 0 (s.size - 1)).size ≤ s.size := by rw [ByteArray.size_extract]; omega
    have e3 : ([] : List UInt8).length = 0 := rfl
    omega
  clear hn7
  have TT : Hid (TailAt w t 0 []) := T
  clear T
  go_enter Try.func4, Try.ntmps4
  go_wp2_with (go_at_call 9; refine (zzb9_ok _ _ _ _ _ hs (by decide)).mono ?_; rintro e w' ⟨rfl, rfl⟩)
  have B0 := Below.refl w.heap.size w
  have j1 := step_join w w B0 s ⟨#[]⟩ none 0 0 [] (tail_none w) hsm (by decide) (by decide) _ rfl n1 N1.out
  refine j1.mono ?_
  rintro e w1 ⟨g1, cap1, rfl, H1, D1⟩
  clear j1
  have k1 := step_begins w w1 D1 g1 cap1 _ n1 N1.out H1 s b1 hsz true (law1 _)
  go_wp2_with fail
  refine k1.mono ?_
  rintro e v1 ⟨rfl, B1⟩
  clear k1 H1 D1
  go_wp2_with fail
  have j2 := step_join w v1 B1 s ⟨#[10]⟩ t 0 tc [] TT.out hsm (by decide) htm _ rfl n2 N2.out
  refine j2.mono ?_
  rintro e w2 ⟨g2, cap2, rfl, H2, D2⟩
  clear j2
  have k2 := step_begins w w2 D2 g2 cap2 _ n2 N2.out H2 s b2 hsz true (law2 _ _)
  go_wp2_with fail
  refine k2.mono ?_
  rintro e v2 ⟨rfl, B2⟩
  clear k2 H2 D2
  go_wp2_with fail
  have j3 := step_join w v2 B2 s ⟨#[13, 10]⟩ t 0 tc [] TT.out hsm (by decide) htm _ rfl n3 N3.out
  refine j3.mono ?_
  rintro e w3 ⟨g3, cap3, rfl, H3, D3⟩
  clear j3
  have k3 := step_begins w w3 D3 g3 cap3 _ n3 N3.out H3 s b3 hsz true (law3 _ _)
  go_wp2_with fail
  refine k3.mono ?_
  rintro e v3 ⟨rfl, B3⟩
  clear k3 H3 D3
  go_wp2_with fail
  have j4 := step_join w v3 B3 s ⟨#[13]⟩ t 0 tc [] TT.out hsm (by decide) htm _ rfl n4 N4.out
  refine j4.mono ?_
  rintro e w4 ⟨g4, cap4, rfl, H4, D4⟩
  clear j4
  have k4 := step_begins w w4 D4 g4 cap4 _ n4 N4.out H4 s b4 hsz false (law4_nil _)
  go_wp2_with fail
  refine k4.mono ?_
  rintro e v4 ⟨rfl, B4⟩
  clear k4 H4 D4
  go_wp2_with fail
  have j5 := step_join w v4 B4 s ⟨#[120]⟩ t 0 tc [] TT.out hsm (by decide) htm _ rfl n5 N5.out
  refine j5.mono ?_
  rintro e w5 ⟨g5, cap5, rfl, H5, D5⟩
  clear j5
  have k5 := step_begins w w5 D5 g5 cap5 _ n5 N5.out H5 s b5 hsz false (law5 _ _)
  go_wp2_with fail
  refine k5.mono ?_
  rintro e v5 ⟨rfl, B5⟩
  clear k5 H5 D5
  go_wp2_with fail
  have j6 := step_join w v5 B5 s ⟨#[10]⟩ t 0 tc [] TT.out hsm (by decide) htm _ rfl n6 N6.out
  refine j6.mono ?_
  rintro e w6 ⟨g6, cap6, rfl, H6, D6⟩
  clear j6
  have k6 := step_begins w w6 D6 g6 cap6 _ n6 N6.out H6 (s ++ ⟨#[120]⟩) b6 (by rw [app_size]; have e1 : ((⟨#[120]⟩ : ByteArray)).size = 1 := rfl; omega) false (by rw [app_data]; exact law6 _ _)
  go_wp2_with fail
  refine k6.mono ?_
  rintro e v6 ⟨rfl, B6⟩
  clear k6 H6 D6
  go_wp2_with fail
  have j7 := step_join w v6 B6 (s.extract 0 (s.size - 1)) ⟨#[]⟩ none 0 0 [] (tail_none w) (by rw [ByteArray.size_extract]; omega) (by decide) (by decide) _ rfl n7 N7.out
  refine j7.mono ?_
  rintro e w7 ⟨g7, cap7, rfl, H7, D7⟩
  clear j7
  have k7 := step_begins w w7 D7 g7 cap7 _ n7 N7.out H7 s b7 hsz false (by rw [cut_data]; exact law7 _ (by rw [bytes_len]; exact hline))
  go_wp2_with fail
  refine k7.mono ?_
  rintro e v7 ⟨rfl, B7⟩
  clear k7 H7 D7
  go_wp2_with fail
  go_ret
  exact ⟨rfl, B7⟩

set_option maxHeartbeats 2000000 in
set_option maxRecDepth 100000 in
theorem own_e_z (s : ByteArray) (t : Option Addr) (tc : Nat) (w : World) (hs : s.size ≤ 524288) (hline : s.size = 0) (T : TailAt w t 0 []) :
    Calls Try.prog 4 #[.string s, .slice t 0 tc] w fun e w' => e = .returned (.bool true) ∧ Below w.heap.size w w' := by
  have hsm : s.size ≤ 1048576 := by omega
  have hsz : s.size ≤ 9223372036854775807 := by omega
  have htm : 0 ≤ 1048576 := by omega
  obtain ⟨n1, hn1⟩ : ∃ n, (s.data.toList ++ ((⟨#[]⟩ : ByteArray)).data.toList ++ []).length = n := ⟨_, rfl⟩
  have N1 : Hid ((s.data.toList ++ ((⟨#[]⟩ : ByteArray)).data.toList ++ []).length = n1) := hn1
  have b1 : n1 ≤ 9223372036854775807 := by
    rw [← hn1, List.length_append, List.length_append, bytes_len, bytes_len]
    have e1 : ((⟨#[]⟩ : ByteArray)).size ≤ 2 := by decide
    have e3 : ([] : List UInt8).length = 0 := rfl
    omega
  clear hn1
  obtain ⟨n2, hn2⟩ : ∃ n, (s.data.toList ++ ((⟨#[10]⟩ : ByteArray)).data.toList ++ []).length = n := ⟨_, rfl⟩
  have N2 : Hid ((s.data.toList ++ ((⟨#[10]⟩ : ByteArray)).data.toList ++ []).length = n2) := hn2
  have b2 : n2 ≤ 9223372036854775807 := by
    rw [← hn2, List.length_append, List.length_append, bytes_len, bytes_len]
    have e1 : ((⟨#[10]⟩ : ByteArray)).size ≤ 2 := by decide
    rw [T.1]
    omega
  clear hn2
  obtain ⟨n3, hn3⟩ : ∃ n, (s.data.toList ++ ((⟨#[13, 10]⟩ : ByteArray)).data.toList ++ []).length = n := ⟨_, rfl⟩
  have N3 : Hid ((s.data.toList ++ ((⟨#[13, 10]⟩ : ByteArray)).data.toList ++ []).length = n3) := hn3
  have b3 : n3 ≤ 9223372036854775807 := by
    rw [← hn3, List.length_append, List.length_append, bytes_len, bytes_len]
    have e1 : ((⟨#[13, 10]⟩ : ByteArray)).size ≤ 2 := by decide
    rw [T.1]
    omega
  clear hn3
  obtain ⟨n4, hn4⟩ : ∃ n, (s.data.toList ++ ((⟨#[13]⟩ : ByteArray)).data.toList ++ []).length = n := ⟨_, rfl⟩
  have N4 : Hid ((s.data.toList ++ ((⟨#[13]⟩ : ByteArray)).data.toList ++ []).length = n4) := hn4
  have b4 : n4 ≤ 9223372036854775807 := by
    rw [← hn4, List.length_append, List.length_append, bytes_len, bytes_len]
    have e1 : ((⟨#[13]⟩ : ByteArray)).size ≤ 2 := by decide
    rw [T.1]
    omega
  clear hn4
  obtain ⟨n5, hn5⟩ : ∃ n, (s.data.toList ++ ((⟨#[120]⟩ : ByteArray)).data.toList ++ []).length = n := ⟨_, rfl⟩
  have N5 : Hid ((s.data.toList ++ ((⟨#[120]⟩ : ByteArray)).data.toList ++ []).length = n5) := hn5
  have b5 : n5 ≤ 9223372036854775807 := by
    rw [← hn5, List.length_append, List.length_append, bytes_len, bytes_len]
    have e1 : ((⟨#[120]⟩ : ByteArray)).size ≤ 2 := by decide
    rw [T.1]
    omega
  clear hn5
  obtain ⟨n6, hn6⟩ : ∃ n, (s.data.toList ++ ((⟨#[10]⟩ : ByteArray)).data.toList ++ []).length = n := ⟨_, rfl⟩
  have N6 : Hid ((s.data.toList ++ ((⟨#[10]⟩ : ByteArray)).data.toList ++ []).length = n6) := hn6
  have b6 : n6 ≤ 9223372036854775807 := by
    rw [← hn6, List.length_append, List.length_append, bytes_len, bytes_len]
    have e1 : ((⟨#[10]⟩ : ByteArray)).size ≤ 2 := by decide
    rw [T.1]
    omega
  clear hn6
  have TT : Hid (TailAt w t 0 []) := T
  clear T
  go_enter Try.func4, Try.ntmps4
  go_wp2_with (go_at_call 9; refine (zzb9_ok _ _ _ _ _ hs (by decide)).mono ?_; rintro e w' ⟨rfl, rfl⟩)
  have B0 := Below.refl w.heap.size w
  have j1 := step_join w w B0 s ⟨#[]⟩ none 0 0 [] (tail_none w) hsm (by decide) (by decide) _ rfl n1 N1.out
  refine j1.mono ?_
  rintro e w1 ⟨g1, cap1, rfl, H1, D1⟩
  clear j1
  have k1 := step_begins w w1 D1 g1 cap1 _ n1 N1.out H1 s b1 hsz true (law1 _)
  go_wp2_with fail
  refine k1.mono ?_
  rintro e v1 ⟨rfl, B1⟩
  clear k1 H1 D1
  go_wp2_with fail
  have j2 := step_join w v1 B1 s ⟨#[10]⟩ t 0 tc [] TT.out hsm (by decide) htm _ rfl n2 N2.out
  refine j2.mono ?_
  rintro e w2 ⟨g2, cap2, rfl, H2, D2⟩
  clear j2
  have k2 := step_begins w w2 D2 g2 cap2 _ n2 N2.out H2 s b2 hsz true (law2 _ _)
  go_wp2_with fail
  refine k2.mono ?_
  rintro e v2 ⟨rfl, B2⟩
  clear k2 H2 D2
  go_wp2_with fail
  have j3 := step_join w v2 B2 s ⟨#[13, 10]⟩ t 0 tc [] TT.out hsm (by decide) htm _ rfl n3 N3.out
  refine j3.mono ?_
  rintro e w3 ⟨g3, cap3, rfl, H3, D3⟩
  clear j3
  have k3 := step_begins w w3 D3 g3 cap3 _ n3 N3.out H3 s b3 hsz true (law3 _ _)
  go_wp2_with fail
  refine k3.mono ?_
  rintro e v3 ⟨rfl, B3⟩
  clear k3 H3 D3
  go_wp2_with fail
  have j4 := step_join w v3 B3 s ⟨#[13]⟩ t 0 tc [] TT.out hsm (by decide) htm _ rfl n4 N4.out
  refine j4.mono ?_
  rintro e w4 ⟨g4, cap4, rfl, H4, D4⟩
  clear j4
  have k4 := step_begins w w4 D4 g4 cap4 _ n4 N4.out H4 s b4 hsz false (law4_nil _)
  go_wp2_with fail
  refine k4.mono ?_
  rintro e v4 ⟨rfl, B4⟩
  clear k4 H4 D4
  go_wp2_with fail
  have j5 := step_join w v4 B4 s ⟨#[120]⟩ t 0 tc [] TT.out hsm (by decide) htm _ rfl n5 N5.out
  refine j5.mono ?_
  rintro e w5 ⟨g5, cap5, rfl, H5, D5⟩
  clear j5
  have k5 := step_begins w w5 D5 g5 cap5 _ n5 N5.out H5 s b5 hsz false (law5 _ _)
  go_wp2_with fail
  refine k5.mono ?_
  rintro e v5 ⟨rfl, B5⟩
  clear k5 H5 D5
  go_wp2_with fail
  have j6 := step_join w v5 B5 s ⟨#[10]⟩ t 0 tc [] TT.out hsm (by decide) htm _ rfl n6 N6.out
  refine j6.mono ?_
  rintro e w6 ⟨g6, cap6, rfl, H6, D6⟩
  clear j6
  have k6 := step_begins w w6 D6 g6 cap6 _ n6 N6.out H6 (s ++ ⟨#[120]⟩) b6 (by rw [app_size]; have e1 : ((⟨#[120]⟩ : ByteArray)).size = 1 := rfl; omega) false (by rw [app_data]; exact law6 _ _)
  go_wp2_with fail
  refine k6.mono ?_
  rintro e v6 ⟨rfl, B6⟩
  clear k6 H6 D6
  go_wp2_with fail
  go_ret
  exact ⟨rfl, B6⟩

set_option maxHeartbeats 1000000 in
set_option maxRecDepth 100000 in
theorem own_long (s : ByteArray) (t : Option Addr) (tl tc : Nat) (w : World) (m1 : s.size ≤ maxLen) (m2 : tl ≤ maxLen) (h : 524288 < s.size) :
    Calls Try.prog 4 #[.string s, .slice t tl tc] w fun e w' => e = .returned (.bool true) ∧ w' = w := by
  unfold maxLen at m1 m2
  go_enter Try.func4, Try.ntmps4
  go_wp2
  all_goals
    go_ret
    exact ⟨rfl, rfl⟩

set_option maxHeartbeats 1000000 in
set_option maxRecDepth 100000 in
theorem own_wide (s : ByteArray) (t : Option Addr) (tl tc : Nat) (w : World) (m2 : tl ≤ maxLen) (h1 : s.size ≤ 524288) (h : 524288 < tl) :
    Calls Try.prog 4 #[.string s, .slice t tl tc] w fun e w' => e = .returned (.bool true) ∧ w' = w := by
  unfold maxLen at m2
  go_enter Try.func4, Try.ntmps4
  go_wp2
  all_goals
    go_ret
    exact ⟨rfl, rfl⟩

end Go.Proofs.Qxb6619461a
