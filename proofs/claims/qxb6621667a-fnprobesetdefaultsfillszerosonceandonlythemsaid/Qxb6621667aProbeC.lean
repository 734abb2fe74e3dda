import Derived.Test.Qxb6621667aProbeB
import Derived.Deep.QuietTactic
import Derived.BigQuiet
import Derived.Lib.Builder
namespace Go.Proofs.Qxb6621667a
open Go.RowKit

theorem info35 : (Try.prog.info? 35).isSome = true := by kernel_rfl
theorem info2 : (Try.prog.info? 2).isSome = true := by kernel_rfl
theorem neq25 (a : Addr) (w : World) : (binOp .neq 25 (.pointer (some a)) (.pointer (some a))).run Try.prog w = .ok (.bool false) w := by
  obtain ⟨j, hj⟩ := Option.isSome_iff_exists.1 info35
  exact Lib.run_neq_ptr_same w a Try.underlying25 hj
theorem neq28 (a : Addr) (w : World) : (binOp .neq 28 (.pointer (some a)) (.pointer (some a))).run Try.prog w = .ok (.bool false) w := by
  obtain ⟨j, hj⟩ := Option.isSome_iff_exists.1 info2
  exact Lib.run_neq_ptr_same w a Try.underlying28 hj
theorem neq33 (w : World) : (binOp .neq 33 (.slice none 0 0) (.slice none 0 0)).run Try.prog w = .ok (.bool false) w := run_neq_slice_nil_any (P := Try.prog) w 33 75 none 0 0 0 0 Try.underlying33

theorem ord_any (x d : Int) (w : World) : Calls Try.prog 14 #[.int .i32 x, .int .i32 d] w fun e w' => e = .returned (.int .i32 (orD x d)) ∧ w' = w := by
  by_cases h : x = 0
  · subst h
    rw [orD_zero]
    go_enter Try.func14, Try.ntmps14
    go_wp2
    go_ret
    exact ⟨rfl, rfl⟩
  · rw [orD_ne d h]
    have h' : (x == 0) = false := by simpa using h
    clear h
    go_enter Try.func14, Try.ntmps14
    go_wp2
    go_ret
    exact ⟨rfl, rfl⟩

theorem ors_any (x d : ByteArray) (w : World) : Calls Try.prog 15 #[.string x, .string d] w fun e w' => e = .returned (.string (orS x d)) ∧ w' = w := by
  by_cases h : x.toList.isEmpty = true
  · rw [orS_yes d h]
    go_enter Try.func15, Try.ntmps15
    go_wp2
    go_ret
    exact ⟨rfl, rfl⟩
  · have h' : x.toList.isEmpty = false := by simpa using h
    rw [orS_no d h']
    clear h
    go_enter Try.func15, Try.ntmps15
    go_wp2
    go_ret
    exact ⟨rfl, rfl⟩

set_option maxHeartbeats 2000000 in
set_option maxRecDepth 100000 in
theorem filled_none_none (b : Nat) (a0 a1 a2 a3 a4 : Int) (path scheme host : ByteArray) (port term : Int) (w : World)
    (hb : ProbeAt w b (.pointer none) (.pointer none) a0 (orD a1 1) (orD a2 10) (orD a3 1) (orD a4 3)) :
    Calls Try.prog 8 #[.pointer (some ⟨b, 0, none⟩), .pointer none, .pointer none, .int .i32 a0, .int .i32 a1, .int .i32 a2, .int .i32 a3, .int .i32 a4, .bool false, .string path, .string scheme, .string host, .int .i32 port, .bool false, .int .i64 term] w
      fun e w' => e = .returned (.bool true) ∧ ∃ n, w' = w.drewN n := by
  have c0 : w.cell? ⟨b, 0, none⟩ = some (.pointer none) := hb.cell 0
  have c1 : w.cell? ⟨b, 1, none⟩ = some (.pointer none) := hb.cell 1
  have c2 : w.cell? ⟨b, 2, none⟩ = some (.pointer none) := hb.cell 2
  have c3 : w.cell? ⟨b, 3, none⟩ = some (.pointer none) := hb.cell 3
  have c4 : w.cell? ⟨b, 4, none⟩ = some (.int .i32 a0) := hb.cell 4
  have c5 : w.cell? ⟨b, 5, none⟩ = some (.int .i32 (orD a1 1)) := hb.cell 5
  have c6 : w.cell? ⟨b, 6, none⟩ = some (.int .i32 (orD a2 10)) := hb.cell 6
  have c7 : w.cell? ⟨b, 7, none⟩ = some (.int .i32 (orD a3 1)) := hb.cell 7
  have c8 : w.cell? ⟨b, 8, none⟩ = some (.int .i32 (orD a4 3)) := hb.cell 8
  have c9 : w.cell? ⟨b, 9, none⟩ = some (.pointer none) := hb.cell 9
  clear hb
  have n25 := neq25
  have n28 := neq28
  have n33 := neq33
  go_enter Try.func8, Try.ntmps8
  go_wp2_with fail
  go_quiet ((go_at_call 14; refine (ord_any _ _ _).mono ?_; rintro e w' ⟨rfl, rfl⟩; exact ⟨rfl, _, rfl⟩))
  go_wp2_with fail
  go_quiet ((go_at_call 14; refine (ord_any _ _ _).mono ?_; rintro e w' ⟨rfl, rfl⟩; exact ⟨rfl, _, rfl⟩))
  go_wp2_with fail
  go_quiet ((go_at_call 14; refine (ord_any _ _ _).mono ?_; rintro e w' ⟨rfl, rfl⟩; exact ⟨rfl, _, rfl⟩))
  go_wp2_with fail
  go_quiet ((go_at_call 14; refine (ord_any _ _ _).mono ?_; rintro e w' ⟨rfl, rfl⟩; exact ⟨rfl, _, rfl⟩))
  go_wp2_with fail
  go_ret
  exact ⟨rfl, _, rfl⟩

set_option maxHeartbeats 2000000 in
set_option maxRecDepth 100000 in
theorem filled_none_term (b : Nat) (tb : Nat) (a0 a1 a2 a3 a4 : Int) (path scheme host : ByteArray) (port term : Int) (w : World)
    (hb : ProbeAt w b (.pointer none) (.pointer (some ⟨tb, 0, none⟩)) a0 (orD a1 1) (orD a2 10) (orD a3 1) (orD a4 3))
    (ht : w.cell? ⟨tb, 0, none⟩ = some (.int .i64 term)) :
    Calls Try.prog 8 #[.pointer (some ⟨b, 0, none⟩), .pointer none, .pointer (some ⟨tb, 0, none⟩), .int .i32 a0, .int .i32 a1, .int .i32 a2, .int .i32 a3, .int .i32 a4, .bool false, .string path, .string scheme, .string host, .int .i32 port, .bool true, .int .i64 term] w
      fun e w' => e = .returned (.bool true) ∧ ∃ n, w' = w.drewN n := by
  have c0 : w.cell? ⟨b, 0, none⟩ = some (.pointer none) := hb.cell 0
  have c1 : w.cell? ⟨b, 1, none⟩ = some (.pointer none) := hb.cell 1
  have c2 : w.cell? ⟨b, 2, none⟩ = some (.pointer none) := hb.cell 2
  have c3 : w.cell? ⟨b, 3, none⟩ = some (.pointer none) := hb.cell 3
  have c4 : w.cell? ⟨b, 4, none⟩ = some (.int .i32 a0) := hb.cell 4
  have c5 : w.cell? ⟨b, 5, none⟩ = some (.int .i32 (orD a1 1)) := hb.cell 5
  have c6 : w.cell? ⟨b, 6, none⟩ = some (.int .i32 (orD a2 10)) := hb.cell 6
  have c7 : w.cell? ⟨b, 7, none⟩ = some (.int .i32 (orD a3 1)) := hb.cell 7
  have c8 : w.cell? ⟨b, 8, none⟩ = some (.int .i32 (orD a4 3)) := hb.cell 8
  have c9 : w.cell? ⟨b, 9, none⟩ = some (.pointer (some ⟨tb, 0, none⟩)) := hb.cell 9
  clear hb
  have n25 := neq25
  have n28 := neq28
  have n33 := neq33
  go_enter Try.func8, Try.ntmps8
  go_wp2_with fail
  go_quiet ((go_at_call 14; refine (ord_any _ _ _).mono ?_; rintro e w' ⟨rfl, rfl⟩; exact ⟨rfl, _, rfl⟩))
  go_wp2_with fail
  go_quiet ((go_at_call 14; refine (ord_any _ _ _).mono ?_; rintro e w' ⟨rfl, rfl⟩; exact ⟨rfl, _, rfl⟩))
  go_wp2_with fail
  go_quiet ((go_at_call 14; refine (ord_any _ _ _).mono ?_; rintro e w' ⟨rfl, rfl⟩; exact ⟨rfl, _, rfl⟩))
  go_wp2_with fail
  go_quiet ((go_at_call 14; refine (ord_any _ _ _).mono ?_; rintro e w' ⟨rfl, rfl⟩; exact ⟨rfl, _, rfl⟩))
  go_wp2_with fail
  go_ret
  exact ⟨rfl, _, rfl⟩

set_option maxHeartbeats 2000000 in
set_option maxRecDepth 100000 in
theorem filled_http_none (b : Nat) (gb : Nat) (a0 a1 a2 a3 a4 : Int) (path scheme host : ByteArray) (port term : Int) (w : World)
    (hb : ProbeAt w b (.pointer (some ⟨gb, 0, none⟩)) (.pointer none) a0 (orD a1 1) (orD a2 10) (orD a3 1) (orD a4 3))
    (hg : HttpAt w gb (orS path ⟨#[47]⟩) host (orS scheme ⟨#[72, 84, 84, 80]⟩) port) :
    Calls Try.prog 8 #[.pointer (some ⟨b, 0, none⟩), .pointer (some ⟨gb, 0, none⟩), .pointer none, .int .i32 a0, .int .i32 a1, .int .i32 a2, .int .i32 a3, .int .i32 a4, .bool true, .string path, .string scheme, .string host, .int .i32 port, .bool false, .int .i64 term] w
      fun e w' => e = .returned (.bool true) ∧ ∃ n, w' = w.drewN n := by
  have c0 : w.cell? ⟨b, 0, none⟩ = some (.pointer none) := hb.cell 0
  have c1 : w.cell? ⟨b, 1, none⟩ = some (.pointer (some ⟨gb, 0, none⟩)) := hb.cell 1
  have c2 : w.cell? ⟨b, 2, none⟩ = some (.pointer none) := hb.cell 2
  have c3 : w.cell? ⟨b, 3, none⟩ = some (.pointer none) := hb.cell 3
  have c4 : w.cell? ⟨b, 4, none⟩ = some (.int .i32 a0) := hb.cell 4
  have c5 : w.cell? ⟨b, 5, none⟩ = some (.int .i32 (orD a1 1)) := hb.cell 5
  have c6 : w.cell? ⟨b, 6, none⟩ = some (.int .i32 (orD a2 10)) := hb.cell 6
  have c7 : w.cell? ⟨b, 7, none⟩ = some (.int .i32 (orD a3 1)) := hb.cell 7
  have c8 : w.cell? ⟨b, 8, none⟩ = some (.int .i32 (orD a4 3)) := hb.cell 8
  have c9 : w.cell? ⟨b, 9, none⟩ = some (.pointer none) := hb.cell 9
  have g0 : w.cell? ⟨gb, 0, none⟩ = some (.string (orS path ⟨#[47]⟩)) := hg.cell 0
  have g1 : w.cell? ⟨gb, 1, none⟩ = some (.bool false) := hg.cell 1
  have g2 : w.cell? ⟨gb, 2, none⟩ = some (.int .i32 port) := hg.cell 2
  have g3 : w.cell? ⟨gb, 3, none⟩ = some (.string ⟨#[]⟩) := hg.cell 3
  have g4 : w.cell? ⟨gb, 4, none⟩ = some (.string host) := hg.cell 4
  have g5 : w.cell? ⟨gb, 5, none⟩ = some (.string (orS scheme ⟨#[72, 84, 84, 80]⟩)) := hg.cell 5
  have g6 : w.cell? ⟨gb, 6, none⟩ = some (.slice none 0 0) := hg.cell 6
  clear hg
  clear hb
  have n25 := neq25
  have n28 := neq28
  have n33 := neq33
  go_enter Try.func8, Try.ntmps8
  go_wp2_with fail
  go_quiet ((go_at_call 14; refine (ord_any _ _ _).mono ?_; rintro e w' ⟨rfl, rfl⟩; exact ⟨rfl, _, rfl⟩))
  go_wp2_with fail
  go_quiet ((go_at_call 14; refine (ord_any _ _ _).mono ?_; rintro e w' ⟨rfl, rfl⟩; exact ⟨rfl, _, rfl⟩))
  go_wp2_with fail
  go_quiet ((go_at_call 14; refine (ord_any _ _ _).mono ?_; rintro e w' ⟨rfl, rfl⟩; exact ⟨rfl, _, rfl⟩))
  go_wp2_with fail
  go_quiet ((go_at_call 14; refine (ord_any _ _ _).mono ?_; rintro e w' ⟨rfl, rfl⟩; exact ⟨rfl, _, rfl⟩))
  go_wp2_with fail
  go_quiet ((go_at_call 15; refine (ors_any _ _ _).mono ?_; rintro e w' ⟨rfl, rfl⟩; exact ⟨rfl, _, rfl⟩))
  go_wp2_with fail
  go_quiet ((go_at_call 15; refine (ors_any _ _ _).mono ?_; rintro e w' ⟨rfl, rfl⟩; exact ⟨rfl, _, rfl⟩))
  go_wp2_with fail
  go_ret
  exact ⟨rfl, _, rfl⟩

set_option maxHeartbeats 2000000 in
set_option maxRecDepth 100000 in
theorem filled_http_term (b : Nat) (gb : Nat) (tb : Nat) (a0 a1 a2 a3 a4 : Int) (path scheme host : ByteArray) (port term : Int) (w : World)
    (hb : ProbeAt w b (.pointer (some ⟨gb, 0, none⟩)) (.pointer (some ⟨tb, 0, none⟩)) a0 (orD a1 1) (orD a2 10) (orD a3 1) (orD a4 3))
    (hg : HttpAt w gb (orS path ⟨#[47]⟩) host (orS scheme ⟨#[72, 84, 84, 80]⟩) port)
    (ht : w.cell? ⟨tb, 0, none⟩ = some (.int .i64 term)) :
    Calls Try.prog 8 #[.pointer (some ⟨b, 0, none⟩), .pointer (some ⟨gb, 0, none⟩), .pointer (some ⟨tb, 0, none⟩), .int .i32 a0, .int .i32 a1, .int .i32 a2, .int .i32 a3, .int .i32 a4, .bool true, .string path, .string scheme, .string host, .int .i32 port, .bool true, .int .i64 term] w
      fun e w' => e = .returned (.bool true) ∧ ∃ n, w' = w.drewN n := by
  have c0 : w.cell? ⟨b, 0, none⟩ = some (.pointer none) := hb.cell 0
  have c1 : w.cell? ⟨b, 1, none⟩ = some (.pointer (some ⟨gb, 0, none⟩)) := hb.cell 1
  have c2 : w.cell? ⟨b, 2, none⟩ = some (.pointer none) := hb.cell 2
  have c3 : w.cell? ⟨b, 3, none⟩ = some (.pointer none) := hb.cell 3
  have c4 : w.cell? ⟨b, 4, none⟩ = some (.int .i32 a0) := hb.cell 4
  have c5 : w.cell? ⟨b, 5, none⟩ = some (.int .i32 (orD a1 1)) := hb.cell 5
  have c6 : w.cell? ⟨b, 6, none⟩ = some (.int .i32 (orD a2 10)) := hb.cell 6
  have c7 : w.cell? ⟨b, 7, none⟩ = some (.int .i32 (orD a3 1)) := hb.cell 7
  have c8 : w.cell? ⟨b, 8, none⟩ = some (.int .i32 (orD a4 3)) := hb.cell 8
  have c9 : w.cell? ⟨b, 9, none⟩ = some (.pointer (some ⟨tb, 0, none⟩)) := hb.cell 9
  have g0 : w.cell? ⟨gb, 0, none⟩ = some (.string (orS path ⟨#[47]⟩)) := hg.cell 0
  have g1 : w.cell? ⟨gb, 1, none⟩ = some (.bool false) := hg.cell 1
  have g2 : w.cell? ⟨gb, 2, none⟩ = some (.int .i32 port) := hg.cell 2
  have g3 : w.cell? ⟨gb, 3, none⟩ = some (.string ⟨#[]⟩) := hg.cell 3
  have g4 : w.cell? ⟨gb, 4, none⟩ = some (.string host) := hg.cell 4
  have g5 : w.cell? ⟨gb, 5, none⟩ = some (.string (orS scheme ⟨#[72, 84, 84, 80]⟩)) := hg.cell 5
  have g6 : w.cell? ⟨gb, 6, none⟩ = some (.slice none 0 0) := hg.cell 6
  clear hg
  clear hb
  have n25 := neq25
  have n28 := neq28
  have n33 := neq33
  go_enter Try.func8, Try.ntmps8
  go_wp2_with fail
  go_quiet ((go_at_call 14; refine (ord_any _ _ _).mono ?_; rintro e w' ⟨rfl, rfl⟩; exact ⟨rfl, _, rfl⟩))
  go_wp2_with fail
  go_quiet ((go_at_call 14; refine (ord_any _ _ _).mono ?_; rintro e w' ⟨rfl, rfl⟩; exact ⟨rfl, _, rfl⟩))
  go_wp2_with fail
  go_quiet ((go_at_call 14; refine (ord_any _ _ _).mono ?_; rintro e w' ⟨rfl, rfl⟩; exact ⟨rfl, _, rfl⟩))
  go_wp2_with fail
  go_quiet ((go_at_call 14; refine (ord_any _ _ _).mono ?_; rintro e w' ⟨rfl, rfl⟩; exact ⟨rfl, _, rfl⟩))
  go_wp2_with fail
  go_quiet ((go_at_call 15; refine (ors_any _ _ _).mono ?_; rintro e w' ⟨rfl, rfl⟩; exact ⟨rfl, _, rfl⟩))
  go_wp2_with fail
  go_quiet ((go_at_call 15; refine (ors_any _ _ _).mono ?_; rintro e w' ⟨rfl, rfl⟩; exact ⟨rfl, _, rfl⟩))
  go_wp2_with fail
  go_ret
  exact ⟨rfl, _, rfl⟩

end Go.Proofs.Qxb6621667a
