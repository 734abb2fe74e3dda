import Derived.Test.Qxb6621667aProbeC
namespace Go.Proofs.Qxb6621667a
open Go.RowKit

set_option maxRecDepth 100000 in
theorem zzb_ok (a0 a1 a2 a3 a4 : Int) (a5 : Bool) (a6 a7 a8 : ByteArray) (a9 : Int) (a10 : Bool) (a11 : Int) (w : World) (h6 : a6.size ≤ 65536) (h7 : a7.size ≤ 65536) (h8 : a8.size ≤ 65536) :
    Calls Try.prog 6 #[.int .i32 a0, .int .i32 a1, .int .i32 a2, .int .i32 a3, .int .i32 a4, .bool a5, .string a6, .string a7, .string a8, .int .i32 a9, .bool a10, .int .i64 a11] w fun e w' => e = .returned (.bool true) ∧ w = w' := by
  go_enter Try.func6, Try.ntmps6
  go_wp2
  go_ret
  exact ⟨rfl, rfl⟩

theorem Kept.below {S : Nat → Prop} {B : Nat} {w W w' : World} (h : Below B w W) (k : Kept S W w') (hB : B ≤ W.heap.size) (hS : ∀ j, S j → B ≤ j) : Below B w w' :=
  ⟨k.os.trans h.os, k.tape.trans h.tape, k.output.trans h.output, Nat.le_trans h.size k.size, fun j hj => (k.block j (by omega) (fun e => by have := hS j e; omega)).trans (h.block j hj)⟩
theorem Kept.drewN {S : Nat → Prop} {a w : World} (h : Kept S a w) (n : Nat) : Kept S a (w.drewN n) := ⟨h.os, h.tape, h.output, h.size, h.block⟩
theorem orD_twice (x d : Int) : orD (orD x d) d = orD x d := by unfold orD; split <;> simp_all
theorem orS_twice (x d : ByteArray) : orS (orS x d) d = orS x d := by unfold orS; split <;> simp_all

theorem one_a (w : World) (A : Obj) : (w.alloc A).heap[w.heap.size]? = some A := heap_alloc_new w A
theorem two_a (w : World) (A B : Obj) : ((w.alloc A).alloc B).heap[w.heap.size]? = some A := row_alloc (one_a w A) B
theorem two_b (w : World) (A B : Obj) : ((w.alloc A).alloc B).heap[w.heap.size + 1]? = some B := heap_alloc2_new w A B
theorem three_a (w : World) (A B C : Obj) : (((w.alloc A).alloc B).alloc C).heap[w.heap.size]? = some A := row_alloc (two_a w A B) C
theorem three_b (w : World) (A B C : Obj) : (((w.alloc A).alloc B).alloc C).heap[w.heap.size + 1]? = some B := row_alloc (two_b w A B) C
theorem three_c (w : World) (A B C : Obj) : (((w.alloc A).alloc B).alloc C).heap[w.heap.size + 1 + 1]? = some C := by
  have h := two_b (w.alloc A) B C
  have e : (w.alloc A).heap.size = w.heap.size + 1 := by show (w.heap.push A).size = _; simp
  rw [e] at h
  exact h
theorem size_one (w : World) (A : Obj) : w.heap.size ≤ (w.alloc A).heap.size := by simp
theorem size_two (w : World) (A B : Obj) : w.heap.size ≤ ((w.alloc A).alloc B).heap.size := by simp; omega
theorem size_three (w : World) (A B C : Obj) : w.heap.size ≤ (((w.alloc A).alloc B).alloc C).heap.size := by simp; omega
theorem below_one (w : World) (A : Obj) : Below w.heap.size w (w.alloc A) := (Below.refl _ _).alloc (Nat.le_refl _) _
theorem below_two (w : World) (A B : Obj) : Below w.heap.size w ((w.alloc A).alloc B) := (below_one w A).alloc (size_one w A) _
theorem below_three (w : World) (A B C : Obj) : Below w.heap.size w (((w.alloc A).alloc B).alloc C) := (below_two w A B).alloc (size_two w A B) _

set_option maxHeartbeats 1000000 in
set_option maxRecDepth 100000 in
theorem law_long6 (a0 a1 a2 a3 a4 : Int) (a5 : Bool) (a6 a7 a8 : ByteArray) (a9 : Int) (a10 : Bool) (a11 : Int) (w : World) (m6 : a6.size ≤ maxLen) (m7 : a7.size ≤ maxLen) (m8 : a8.size ≤ maxLen) (h6 : 65536 < a6.size) :
    Calls Try.prog 3 #[.int .i32 a0, .int .i32 a1, .int .i32 a2, .int .i32 a3, .int .i32 a4, .bool a5, .string a6, .string a7, .string a8, .int .i32 a9, .bool a10, .int .i64 a11] w fun e w' => e = .returned (.bool true) ∧ w' = w := by
  unfold maxLen at m6 m7 m8
  go_enter Try.func3, Try.ntmps3
  go_wp2
  all_goals
    go_ret
    exact ⟨rfl, rfl⟩

set_option maxHeartbeats 1000000 in
set_option maxRecDepth 100000 in
theorem law_long7 (a0 a1 a2 a3 a4 : Int) (a5 : Bool) (a6 a7 a8 : ByteArray) (a9 : Int) (a10 : Bool) (a11 : Int) (w : World) (m6 : a6.size ≤ maxLen) (m7 : a7.size ≤ maxLen) (m8 : a8.size ≤ maxLen) (h6 : a6.size ≤ 65536) (h7 : 65536 < a7.size) :
    Calls Try.prog 3 #[.int .i32 a0, .int .i32 a1, .int .i32 a2, .int .i32 a3, .int .i32 a4, .bool a5, .string a6, .string a7, .string a8, .int .i32 a9, .bool a10, .int .i64 a11] w fun e w' => e = .returned (.bool true) ∧ w' = w := by
  unfold maxLen at m6 m7 m8
  go_enter Try.func3, Try.ntmps3
  go_wp2
  all_goals
    go_ret
    exact ⟨rfl, rfl⟩

set_option maxHeartbeats 1000000 in
set_option maxRecDepth 100000 in
theorem law_long8 (a0 a1 a2 a3 a4 : Int) (a5 : Bool) (a6 a7 a8 : ByteArray) (a9 : Int) (a10 : Bool) (a11 : Int) (w : World) (m6 : a6.size ≤ maxLen) (m7 : a7.size ≤ maxLen) (m8 : a8.size ≤ maxLen) (h6 : a6.size ≤ 65536) (h7 : a7.size ≤ 65536) (h8 : 65536 < a8.size) :
    Calls Try.prog 3 #[.int .i32 a0, .int .i32 a1, .int .i32 a2, .int .i32 a3, .int .i32 a4, .bool a5, .string a6, .string a7, .string a8, .int .i32 a9, .bool a10, .int .i64 a11] w fun e w' => e = .returned (.bool true) ∧ w' = w := by
  unfold maxLen at m6 m7 m8
  go_enter Try.func3, Try.ntmps3
  go_wp2
  all_goals
    go_ret
    exact ⟨rfl, rfl⟩

set_option maxHeartbeats 2000000 in
set_option maxRecDepth 100000 in
theorem law_none_none (a0 a1 a2 a3 a4 : Int) (a6 a7 a8 : ByteArray) (a9 : Int) (a11 : Int) (w : World) (h6 : a6.size ≤ 65536) (h7 : a7.size ≤ 65536) (h8 : a8.size ≤ 65536) :
    Calls Try.prog 3 #[.int .i32 a0, .int .i32 a1, .int .i32 a2, .int .i32 a3, .int .i32 a4, .bool false, .string a6, .string a7, .string a8, .int .i32 a9, .bool false, .int .i64 a11] w fun e w' => e = .returned (.bool true) ∧ Below w.heap.size w w' := by
  have hp : ProbeAt (w.alloc (.cells #[.pointer none, .pointer none, .pointer none, .pointer none, .int .i32 a0, .int .i32 a1, .int .i32 a2, .int .i32 a3, .int .i32 a4, .pointer none] 30)) w.heap.size (.pointer none) (.pointer none) a0 a1 a2 a3 a4 := one_a _ _
  have hbl : Below w.heap.size w (w.alloc (.cells #[.pointer none, .pointer none, .pointer none, .pointer none, .int .i32 a0, .int .i32 a1, .int .i32 a2, .int .i32 a3, .int .i32 a4, .pointer none] 30)) := below_one _ _
  have hsz : w.heap.size ≤ (w.alloc (.cells #[.pointer none, .pointer none, .pointer none, .pointer none, .int .i32 a0, .int .i32 a1, .int .i32 a2, .int .i32 a3, .int .i32 a4, .pointer none] 30)).heap.size := size_one _ _
  have k1 := set_none w.heap.size (.pointer none) a0 a1 a2 a3 a4 (w.alloc (.cells #[.pointer none, .pointer none, .pointer none, .pointer none, .int .i32 a0, .int .i32 a1, .int .i32 a2, .int .i32 a3, .int .i32 a4, .pointer none] 30)) (.pointer none) rfl hp
  have hS : ∀ j, (fun j => j = w.heap.size) j → w.heap.size ≤ j := fun j e => by have e' : j = w.heap.size := e; omega
  have X : Hid (Below w.heap.size w (w.alloc (.cells #[.pointer none, .pointer none, .pointer none, .pointer none, .int .i32 a0, .int .i32 a1, .int .i32 a2, .int .i32 a3, .int .i32 a4, .pointer none] 30)) ∧ w.heap.size ≤ (w.alloc (.cells #[.pointer none, .pointer none, .pointer none, .pointer none, .int .i32 a0, .int .i32 a1, .int .i32 a2, .int .i32 a3, .int .i32 a4, .pointer none] 30)).heap.size ∧ ∀ j, (fun j => j = w.heap.size) j → w.heap.size ≤ j) := ⟨hbl, hsz, hS⟩
  clear hp hbl hsz hS
  go_enter Try.func3, Try.ntmps3
  go_wp2_with (go_at_call 6; refine (zzb_ok _ _ _ _ _ _ _ _ _ _ _ _ _ h6 h7 h8).mono ?_; rintro e w' ⟨rfl, rfl⟩)
  refine k1.mono ?_
  rintro e w1 ⟨rfl, hp1, hk1⟩
  clear k1
  have k2 := filled_none_none w.heap.size a0 a1 a2 a3 a4 a6 a7 a8 a9 a11 w1 hp1
  go_wp2_with fail
  refine k2.mono ?_
  rintro e w2 ⟨rfl, m, rfl⟩
  clear k2
  have k3 := set_none w.heap.size (.pointer none) a0 (orD a1 1) (orD a2 10) (orD a3 1) (orD a4 3) (w1.drewN m) (.pointer none) rfl hp1
  rw [orD_twice, orD_twice, orD_twice, orD_twice] at k3
  go_wp2_with fail
  refine k3.mono ?_
  rintro e w3 ⟨rfl, hp3, hk3⟩
  clear k3
  have hk : Kept (fun j => j = w.heap.size) (w.alloc (.cells #[.pointer none, .pointer none, .pointer none, .pointer none, .int .i32 a0, .int .i32 a1, .int .i32 a2, .int .i32 a3, .int .i32 a4, .pointer none] 30)) w3 := (hk1.drewN m).trans hk3
  have hfin : Below w.heap.size w w3 := hk.below X.out.1 X.out.2.1 X.out.2.2
  have k4 := filled_none_none w.heap.size a0 a1 a2 a3 a4 a6 a7 a8 a9 a11 w3 hp3
  clear hk hk1 hk3
  go_wp2_with fail
  refine k4.mono ?_
  rintro e w4 ⟨rfl, m4, rfl⟩
  clear k4
  go_wp2_with fail
  go_ret
  exact ⟨rfl, below_drewN hfin _⟩

set_option maxHeartbeats 2000000 in
set_option maxRecDepth 100000 in
theorem law_none_term (a0 a1 a2 a3 a4 : Int) (a6 a7 a8 : ByteArray) (a9 : Int) (a11 : Int) (w : World) (h6 : a6.size ≤ 65536) (h7 : a7.size ≤ 65536) (h8 : a8.size ≤ 65536) :
    Calls Try.prog 3 #[.int .i32 a0, .int .i32 a1, .int .i32 a2, .int .i32 a3, .int .i32 a4, .bool false, .string a6, .string a7, .string a8, .int .i32 a9, .bool true, .int .i64 a11] w fun e w' => e = .returned (.bool true) ∧ Below w.heap.size w w' := by
  have hp : ProbeAt ((w.alloc (.cells #[.pointer none, .pointer none, .pointer none, .pointer none, .int .i32 a0, .int .i32 a1, .int .i32 a2, .int .i32 a3, .int .i32 a4, .pointer (some ⟨w.heap.size + 1, 0, none⟩)] 30)).alloc (.cells #[.int .i64 a11] 2)) w.heap.size (.pointer none) (.pointer (some ⟨w.heap.size + 1, 0, none⟩)) a0 a1 a2 a3 a4 := two_a _ _ _
  have ht : ((w.alloc (.cells #[.pointer none, .pointer none, .pointer none, .pointer none, .int .i32 a0, .int .i32 a1, .int .i32 a2, .int .i32 a3, .int .i32 a4, .pointer (some ⟨w.heap.size + 1, 0, none⟩)] 30)).alloc (.cells #[.int .i64 a11] 2)).heap[w.heap.size + 1]? = some (.cells #[.int .i64 a11] 2 (0, 0)) := two_b _ _ _
  have hbl : Below w.heap.size w ((w.alloc (.cells #[.pointer none, .pointer none, .pointer none, .pointer none, .int .i32 a0, .int .i32 a1, .int .i32 a2, .int .i32 a3, .int .i32 a4, .pointer (some ⟨w.heap.size + 1, 0, none⟩)] 30)).alloc (.cells #[.int .i64 a11] 2)) := below_two _ _ _
  have hsz : w.heap.size ≤ ((w.alloc (.cells #[.pointer none, .pointer none, .pointer none, .pointer none, .int .i32 a0, .int .i32 a1, .int .i32 a2, .int .i32 a3, .int .i32 a4, .pointer (some ⟨w.heap.size + 1, 0, none⟩)] 30)).alloc (.cells #[.int .i64 a11] 2)).heap.size := size_two _ _ _
  have k1 := set_none w.heap.size (.pointer (some ⟨w.heap.size + 1, 0, none⟩)) a0 a1 a2 a3 a4 ((w.alloc (.cells #[.pointer none, .pointer none, .pointer none, .pointer none, .int .i32 a0, .int .i32 a1, .int .i32 a2, .int .i32 a3, .int .i32 a4, .pointer (some ⟨w.heap.size + 1, 0, none⟩)] 30)).alloc (.cells #[.int .i64 a11] 2)) (.pointer none) rfl hp
  have hS : ∀ j, (fun j => j = w.heap.size) j → w.heap.size ≤ j := fun j e => by have e' : j = w.heap.size := e; omega
  have X : Hid (Below w.heap.size w ((w.alloc (.cells #[.pointer none, .pointer none, .pointer none, .pointer none, .int .i32 a0, .int .i32 a1, .int .i32 a2, .int .i32 a3, .int .i32 a4, .pointer (some ⟨w.heap.size + 1, 0, none⟩)] 30)).alloc (.cells #[.int .i64 a11] 2)) ∧ w.heap.size ≤ ((w.alloc (.cells #[.pointer none, .pointer none, .pointer none, .pointer none, .int .i32 a0, .int .i32 a1, .int .i32 a2, .int .i32 a3, .int .i32 a4, .pointer (some ⟨w.heap.size + 1, 0, none⟩)] 30)).alloc (.cells #[.int .i64 a11] 2)).heap.size ∧ ∀ j, (fun j => j = w.heap.size) j → w.heap.size ≤ j) := ⟨hbl, hsz, hS⟩
  have Y : Hid (((w.alloc (.cells #[.pointer none, .pointer none, .pointer none, .pointer none, .int .i32 a0, .int .i32 a1, .int .i32 a2, .int .i32 a3, .int .i32 a4, .pointer (some ⟨w.heap.size + 1, 0, none⟩)] 30)).alloc (.cells #[.int .i64 a11] 2)).heap[w.heap.size + 1]? = some (.cells #[.int .i64 a11] 2 (0, 0))) := ht
  clear hp ht hbl hsz hS
  go_enter Try.func3, Try.ntmps3
  go_wp2_with (go_at_call 6; refine (zzb_ok _ _ _ _ _ _ _ _ _ _ _ _ _ h6 h7 h8).mono ?_; rintro e w' ⟨rfl, rfl⟩)
  refine k1.mono ?_
  rintro e w1 ⟨rfl, hp1, hk1⟩
  clear k1
  have ht1 : w1.heap[w.heap.size + 1]? = some (.cells #[.int .i64 a11] 2 (0, 0)) := (hk1.block (w.heap.size + 1) (lt_of_some Y.out) (by show ¬ (_ = _); omega)).trans Y.out
  have k2 := filled_none_term w.heap.size (w.heap.size + 1) a0 a1 a2 a3 a4 a6 a7 a8 a9 a11 w1 hp1 (cell_of_row _ _ 0 _ _ _ ht1)
  go_wp2_with fail
  refine k2.mono ?_
  rintro e w2 ⟨rfl, m, rfl⟩
  clear k2
  have k3 := set_none w.heap.size (.pointer (some ⟨w.heap.size + 1, 0, none⟩)) a0 (orD a1 1) (orD a2 10) (orD a3 1) (orD a4 3) (w1.drewN m) (.pointer none) rfl hp1
  rw [orD_twice, orD_twice, orD_twice, orD_twice] at k3
  go_wp2_with fail
  refine k3.mono ?_
  rintro e w3 ⟨rfl, hp3, hk3⟩
  clear k3
  have ht3 : w3.heap[w.heap.size + 1]? = some (.cells #[.int .i64 a11] 2 (0, 0)) := (hk3.block (w.heap.size + 1) (lt_of_some (w := w1) ht1) (by show ¬ (_ = _); omega)).trans ht1
  have hk : Kept (fun j => j = w.heap.size) ((w.alloc (.cells #[.pointer none, .pointer none, .pointer none, .pointer none, .int .i32 a0, .int .i32 a1, .int .i32 a2, .int .i32 a3, .int .i32 a4, .pointer (some ⟨w.heap.size + 1, 0, none⟩)] 30)).alloc (.cells #[.int .i64 a11] 2)) w3 := (hk1.drewN m).trans hk3
  have hfin : Below w.heap.size w w3 := hk.below X.out.1 X.out.2.1 X.out.2.2
  have k4 := filled_none_term w.heap.size (w.heap.size + 1) a0 a1 a2 a3 a4 a6 a7 a8 a9 a11 w3 hp3 (cell_of_row _ _ 0 _ _ _ ht3)
  clear hk hk1 hk3
  go_wp2_with fail
  refine k4.mono ?_
  rintro e w4 ⟨rfl, m4, rfl⟩
  clear k4
  go_wp2_with fail
  go_ret
  exact ⟨rfl, below_drewN hfin _⟩

set_option maxHeartbeats 2000000 in
set_option maxRecDepth 100000 in
theorem law_http_none (a0 a1 a2 a3 a4 : Int) (a6 a7 a8 : ByteArray) (a9 : Int) (a11 : Int) (w : World) (h6 : a6.size ≤ 65536) (h7 : a7.size ≤ 65536) (h8 : a8.size ≤ 65536) :
    Calls Try.prog 3 #[.int .i32 a0, .int .i32 a1, .int .i32 a2, .int .i32 a3, .int .i32 a4, .bool true, .string a6, .string a7, .string a8, .int .i32 a9, .bool false, .int .i64 a11] w fun e w' => e = .returned (.bool true) ∧ Below w.heap.size w w' := by
  have hp : ProbeAt ((w.alloc (.cells #[.pointer none, .pointer (some ⟨w.heap.size + 1, 0, none⟩), .pointer none, .pointer none, .int .i32 a0, .int .i32 a1, .int .i32 a2, .int .i32 a3, .int .i32 a4, .pointer none] 30)).alloc (.cells #[.string a6, .bool false, .int .i32 a9, .string ⟨#[]⟩, .string a8, .string a7, .slice none 0 0] 35)) w.heap.size (.pointer (some ⟨w.heap.size + 1, 0, none⟩)) (.pointer none) a0 a1 a2 a3 a4 := two_a _ _ _
  have hg : HttpAt ((w.alloc (.cells #[.pointer none, .pointer (some ⟨w.heap.size + 1, 0, none⟩), .pointer none, .pointer none, .int .i32 a0, .int .i32 a1, .int .i32 a2, .int .i32 a3, .int .i32 a4, .pointer none] 30)).alloc (.cells #[.string a6, .bool false, .int .i32 a9, .string ⟨#[]⟩, .string a8, .string a7, .slice none 0 0] 35)) (w.heap.size + 1) a6 a8 a7 a9 := two_b _ _ _
  have hbl : Below w.heap.size w ((w.alloc (.cells #[.pointer none, .pointer (some ⟨w.heap.size + 1, 0, none⟩), .pointer none, .pointer none, .int .i32 a0, .int .i32 a1, .int .i32 a2, .int .i32 a3, .int .i32 a4, .pointer none] 30)).alloc (.cells #[.string a6, .bool false, .int .i32 a9, .string ⟨#[]⟩, .string a8, .string a7, .slice none 0 0] 35)) := below_two _ _ _
  have hsz : w.heap.size ≤ ((w.alloc (.cells #[.pointer none, .pointer (some ⟨w.heap.size + 1, 0, none⟩), .pointer none, .pointer none, .int .i32 a0, .int .i32 a1, .int .i32 a2, .int .i32 a3, .int .i32 a4, .pointer none] 30)).alloc (.cells #[.string a6, .bool false, .int .i32 a9, .string ⟨#[]⟩, .string a8, .string a7, .slice none 0 0] 35)).heap.size := size_two _ _ _
  have k1 := set_http w.heap.size (w.heap.size + 1) (.pointer none) a0 a1 a2 a3 a4 a6 a8 a7 a9 ((w.alloc (.cells #[.pointer none, .pointer (some ⟨w.heap.size + 1, 0, none⟩), .pointer none, .pointer none, .int .i32 a0, .int .i32 a1, .int .i32 a2, .int .i32 a3, .int .i32 a4, .pointer none] 30)).alloc (.cells #[.string a6, .bool false, .int .i32 a9, .string ⟨#[]⟩, .string a8, .string a7, .slice none 0 0] 35)) (.pointer (some ⟨w.heap.size + 1, 0, none⟩)) rfl hp hg (by omega)
  have hS : ∀ j, (fun j => j = w.heap.size ∨ j = w.heap.size + 1) j → w.heap.size ≤ j := fun j e => by rcases e with rfl | rfl <;> omega
  have X : Hid (Below w.heap.size w ((w.alloc (.cells #[.pointer none, .pointer (some ⟨w.heap.size + 1, 0, none⟩), .pointer none, .pointer none, .int .i32 a0, .int .i32 a1, .int .i32 a2, .int .i32 a3, .int .i32 a4, .pointer none] 30)).alloc (.cells #[.string a6, .bool false, .int .i32 a9, .string ⟨#[]⟩, .string a8, .string a7, .slice none 0 0] 35)) ∧ w.heap.size ≤ ((w.alloc (.cells #[.pointer none, .pointer (some ⟨w.heap.size + 1, 0, none⟩), .pointer none, .pointer none, .int .i32 a0, .int .i32 a1, .int .i32 a2, .int .i32 a3, .int .i32 a4, .pointer none] 30)).alloc (.cells #[.string a6, .bool false, .int .i32 a9, .string ⟨#[]⟩, .string a8, .string a7, .slice none 0 0] 35)).heap.size ∧ ∀ j, (fun j => j = w.heap.size ∨ j = w.heap.size + 1) j → w.heap.size ≤ j) := ⟨hbl, hsz, hS⟩
  clear hp hg hbl hsz hS
  go_enter Try.func3, Try.ntmps3
  go_wp2_with (go_at_call 6; refine (zzb_ok _ _ _ _ _ _ _ _ _ _ _ _ _ h6 h7 h8).mono ?_; rintro e w' ⟨rfl, rfl⟩)
  refine k1.mono ?_
  rintro e w1 ⟨rfl, hp1, hg1, hk1⟩
  clear k1
  have k2 := filled_http_none w.heap.size (w.heap.size + 1) a0 a1 a2 a3 a4 a6 a7 a8 a9 a11 w1 hp1 hg1
  go_wp2_with fail
  refine k2.mono ?_
  rintro e w2 ⟨rfl, m, rfl⟩
  clear k2
  have k3 := set_http w.heap.size (w.heap.size + 1) (.pointer none) a0 (orD a1 1) (orD a2 10) (orD a3 1) (orD a4 3) (orS a6 ⟨#[47]⟩) a8 (orS a7 ⟨#[72, 84, 84, 80]⟩) a9 (w1.drewN m) (.pointer (some ⟨w.heap.size + 1, 0, none⟩)) rfl hp1 hg1 (by omega)
  rw [orD_twice, orD_twice, orD_twice, orD_twice, orS_twice, orS_twice] at k3
  go_wp2_with fail
  refine k3.mono ?_
  rintro e w3 ⟨rfl, hp3, hg3, hk3⟩
  clear k3
  have hk : Kept (fun j => j = w.heap.size ∨ j = w.heap.size + 1) ((w.alloc (.cells #[.pointer none, .pointer (some ⟨w.heap.size + 1, 0, none⟩), .pointer none, .pointer none, .int .i32 a0, .int .i32 a1, .int .i32 a2, .int .i32 a3, .int .i32 a4, .pointer none] 30)).alloc (.cells #[.string a6, .bool false, .int .i32 a9, .string ⟨#[]⟩, .string a8, .string a7, .slice none 0 0] 35)) w3 := (hk1.drewN m).trans hk3
  have hfin : Below w.heap.size w w3 := hk.below X.out.1 X.out.2.1 X.out.2.2
  have k4 := filled_http_none w.heap.size (w.heap.size + 1) a0 a1 a2 a3 a4 a6 a7 a8 a9 a11 w3 hp3 hg3
  clear hk hk1 hk3
  go_wp2_with fail
  refine k4.mono ?_
  rintro e w4 ⟨rfl, m4, rfl⟩
  clear k4
  go_wp2_with fail
  go_ret
  exact ⟨rfl, below_drewN hfin _⟩

set_option maxHeartbeats 2000000 in
set_option maxRecDepth 100000 in
theorem law_http_term (a0 a1 a2 a3 a4 : Int) (a6 a7 a8 : ByteArray) (a9 : Int) (a11 : Int) (w : World) (h6 : a6.size ≤ 65536) (h7 : a7.size ≤ 65536) (h8 : a8.size ≤ 65536) :
    Calls Try.prog 3 #[.int .i32 a0, .int .i32 a1, .int .i32 a2, .int .i32 a3, .int .i32 a4, .bool true, .string a6, .string a7, .string a8, .int .i32 a9, .bool true, .int .i64 a11] w fun e w' => e = .returned (.bool true) ∧ Below w.heap.size w w' := by
  have hp : ProbeAt (((w.alloc (.cells #[.pointer none, .pointer (some ⟨w.heap.size + 1, 0, none⟩), .pointer none, .pointer none, .int .i32 a0, .int .i32 a1, .int .i32 a2, .int .i32 a3, .int .i32 a4, .pointer (some ⟨w.heap.size + 1 + 1, 0, none⟩)] 30)).alloc (.cells #[.string a6, .bool false, .int .i32 a9, .string ⟨#[]⟩, .string a8, .string a7, .slice none 0 0] 35)).alloc (.cells #[.int .i64 a11] 2)) w.heap.size (.pointer (some ⟨w.heap.size + 1, 0, none⟩)) (.pointer (some ⟨w.heap.size + 1 + 1, 0, none⟩)) a0 a1 a2 a3 a4 := three_a _ _ _ _
  have hg : HttpAt (((w.alloc (.cells #[.pointer none, .pointer (some ⟨w.heap.size + 1, 0, none⟩), .pointer none, .pointer none, .int .i32 a0, .int .i32 a1, .int .i32 a2, .int .i32 a3, .int .i32 a4, .pointer (some ⟨w.heap.size + 1 + 1, 0, none⟩)] 30)).alloc (.cells #[.string a6, .bool false, .int .i32 a9, .string ⟨#[]⟩, .string a8, .string a7, .slice none 0 0] 35)).alloc (.cells #[.int .i64 a11] 2)) (w.heap.size + 1) a6 a8 a7 a9 := three_b _ _ _ _
  have ht : (((w.alloc (.cells #[.pointer none, .pointer (some ⟨w.heap.size + 1, 0, none⟩), .pointer none, .pointer none, .int .i32 a0, .int .i32 a1, .int .i32 a2, .int .i32 a3, .int .i32 a4, .pointer (some ⟨w.heap.size + 1 + 1, 0, none⟩)] 30)).alloc (.cells #[.string a6, .bool false, .int .i32 a9, .string ⟨#[]⟩, .string a8, .string a7, .slice none 0 0] 35)).alloc (.cells #[.int .i64 a11] 2)).heap[w.heap.size + 1 + 1]? = some (.cells #[.int .i64 a11] 2 (0, 0)) := three_c _ _ _ _
  have hbl : Below w.heap.size w (((w.alloc (.cells #[.pointer none, .pointer (some ⟨w.heap.size + 1, 0, none⟩), .pointer none, .pointer none, .int .i32 a0, .int .i32 a1, .int .i32 a2, .int .i32 a3, .int .i32 a4, .pointer (some ⟨w.heap.size + 1 + 1, 0, none⟩)] 30)).alloc (.cells #[.string a6, .bool false, .int .i32 a9, .string ⟨#[]⟩, .string a8, .string a7, .slice none 0 0] 35)).alloc (.cells #[.int .i64 a11] 2)) := below_three _ _ _ _
  have hsz : w.heap.size ≤ (((w.alloc (.cells #[.pointer none, .pointer (some ⟨w.heap.size + 1, 0, none⟩), .pointer none, .pointer none, .int .i32 a0, .int .i32 a1, .int .i32 a2, .int .i32 a3, .int .i32 a4, .pointer (some ⟨w.heap.size + 1 + 1, 0, none⟩)] 30)).alloc (.cells #[.string a6, .bool false, .int .i32 a9, .string ⟨#[]⟩, .string a8, .string a7, .slice none 0 0] 35)).alloc (.cells #[.int .i64 a11] 2)).heap.size := size_three _ _ _ _
  have k1 := set_http w.heap.size (w.heap.size + 1) (.pointer (some ⟨w.heap.size + 1 + 1, 0, none⟩)) a0 a1 a2 a3 a4 a6 a8 a7 a9 (((w.alloc (.cells #[.pointer none, .pointer (some ⟨w.heap.size + 1, 0, none⟩), .pointer none, .pointer none, .int .i32 a0, .int .i32 a1, .int .i32 a2, .int .i32 a3, .int .i32 a4, .pointer (some ⟨w.heap.size + 1 + 1, 0, none⟩)] 30)).alloc (.cells #[.string a6, .bool false, .int .i32 a9, .string ⟨#[]⟩, .string a8, .string a7, .slice none 0 0] 35)).alloc (.cells #[.int .i64 a11] 2)) (.pointer (some ⟨w.heap.size + 1, 0, none⟩)) rfl hp hg (by omega)
  have hS : ∀ j, (fun j => j = w.heap.size ∨ j = w.heap.size + 1) j → w.heap.size ≤ j := fun j e => by rcases e with rfl | rfl <;> omega
  have X : Hid (Below w.heap.size w (((w.alloc (.cells #[.pointer none, .pointer (some ⟨w.heap.size + 1, 0, none⟩), .pointer none, .pointer none, .int .i32 a0, .int .i32 a1, .int .i32 a2, .int .i32 a3, .int .i32 a4, .pointer (some ⟨w.heap.size + 1 + 1, 0, none⟩)] 30)).alloc (.cells #[.string a6, .bool false, .int .i32 a9, .string ⟨#[]⟩, .string a8, .string a7, .slice none 0 0] 35)).alloc (.cells #[.int .i64 a11] 2)) ∧ w.heap.size ≤ (((w.alloc (.cells #[.pointer none, .pointer (some ⟨w.heap.size + 1, 0, none⟩), .pointer none, .pointer none, .int .i32 a0, .int .i32 a1, .int .i32 a2, .int .i32 a3, .int .i32 a4, .pointer (some ⟨w.heap.size + 1 + 1, 0, none⟩)] 30)).alloc (.cells #[.string a6, .bool false, .int .i32 a9, .string ⟨#[]⟩, .string a8, .string a7, .slice none 0 0] 35)).alloc (.cells #[.int .i64 a11] 2)).heap.size ∧ ∀ j, (fun j => j = w.heap.size ∨ j = w.heap.size + 1) j → w.heap.size ≤ j) := ⟨hbl, hsz, hS⟩
  have Y : Hid ((((w.alloc (.cells #[.pointer none, .pointer (some ⟨w.heap.size + 1, 0, none⟩), .pointer none, .pointer none, .int .i32 a0, .int .i32 a1, .int .i32 a2, .int .i32 a3, .int .i32 a4, .pointer (some ⟨w.heap.size + 1 + 1, 0, none⟩)] 30)).alloc (.cells #[.string a6, .bool false, .int .i32 a9, .string ⟨#[]⟩, .string a8, .string a7, .slice none 0 0] 35)).alloc (.cells #[.int .i64 a11] 2)).heap[w.heap.size + 1 + 1]? = some (.cells #[.int .i64 a11] 2 (0, 0))) := ht
  clear hp hg ht hbl hsz hS
  go_enter Try.func3, Try.ntmps3
  go_wp2_with (go_at_call 6; refine (zzb_ok _ _ _ _ _ _ _ _ _ _ _ _ _ h6 h7 h8).mono ?_; rintro e w' ⟨rfl, rfl⟩)
  refine k1.mono ?_
  rintro e w1 ⟨rfl, hp1, hg1, hk1⟩
  clear k1
  have ht1 : w1.heap[w.heap.size + 1 + 1]? = some (.cells #[.int .i64 a11] 2 (0, 0)) := (hk1.block (w.heap.size + 1 + 1) (lt_of_some Y.out) (by show ¬ (_ ∨ _); omega)).trans Y.out
  have k2 := filled_http_term w.heap.size (w.heap.size + 1) (w.heap.size + 1 + 1) a0 a1 a2 a3 a4 a6 a7 a8 a9 a11 w1 hp1 hg1 (cell_of_row _ _ 0 _ _ _ ht1)
  go_wp2_with fail
  refine k2.mono ?_
  rintro e w2 ⟨rfl, m, rfl⟩
  clear k2
  have k3 := set_http w.heap.size (w.heap.size + 1) (.pointer (some ⟨w.heap.size + 1 + 1, 0, none⟩)) a0 (orD a1 1) (orD a2 10) (orD a3 1) (orD a4 3) (orS a6 ⟨#[47]⟩) a8 (orS a7 ⟨#[72, 84, 84, 80]⟩) a9 (w1.drewN m) (.pointer (some ⟨w.heap.size + 1, 0, none⟩)) rfl hp1 hg1 (by omega)
  rw [orD_twice, orD_twice, orD_twice, orD_twice, orS_twice, orS_twice] at k3
  go_wp2_with fail
  refine k3.mono ?_
  rintro e w3 ⟨rfl, hp3, hg3, hk3⟩
  clear k3
  have ht3 : w3.heap[w.heap.size + 1 + 1]? = some (.cells #[.int .i64 a11] 2 (0, 0)) := (hk3.block (w.heap.size + 1 + 1) (lt_of_some (w := w1) ht1) (by show ¬ (_ ∨ _); omega)).trans ht1
  have hk : Kept (fun j => j = w.heap.size ∨ j = w.heap.size + 1) (((w.alloc (.cells #[.pointer none, .pointer (some ⟨w.heap.size + 1, 0, none⟩), .pointer none, .pointer none, .int .i32 a0, .int .i32 a1, .int .i32 a2, .int .i32 a3, .int .i32 a4, .pointer (some ⟨w.heap.size + 1 + 1, 0, none⟩)] 30)).alloc (.cells #[.string a6, .bool false, .int .i32 a9, .string ⟨#[]⟩, .string a8, .string a7, .slice none 0 0] 35)).alloc (.cells #[.int .i64 a11] 2)) w3 := (hk1.drewN m).trans hk3
  have hfin : Below w.heap.size w w3 := hk.below X.out.1 X.out.2.1 X.out.2.2
  have k4 := filled_http_term w.heap.size (w.heap.size + 1) (w.heap.size + 1 + 1) a0 a1 a2 a3 a4 a6 a7 a8 a9 a11 w3 hp3 hg3 (cell_of_row _ _ 0 _ _ _ ht3)
  clear hk hk1 hk3
  go_wp2_with fail
  refine k4.mono ?_
  rintro e w4 ⟨rfl, m4, rfl⟩
  clear k4
  go_wp2_with fail
  go_ret
  exact ⟨rfl, below_drewN hfin _⟩

end Go.Proofs.Qxb6621667a
