import Derived.Test.Qxb6621667aRows
import Derived.WalkKit
import Derived.WalkSpells
import Derived.WalkLawsBesides
namespace Go.Proofs.Qxb6621667a
open Go.RowKit

theorem zzbytes_ok (s : ByteArray) (w : World) (h : s.size ≤ 65536) :
    Calls Try.prog 9 #[.string s] w fun e w' => e = .returned (.bool true) ∧ w' = w := by
  go_enter Try.func9, Try.ntmps9
  go_wp2
  go_ret
  exact ⟨rfl, rfl⟩

theorem comp_miss (s : ByteArray) (w : World)
    (h1 : (s.toList == [99, 112, 117]) = false) (h2 : (s.toList == [114, 101, 113, 117, 101, 115, 116, 115, 46, 99, 112, 117]) = false) (h3 : (s.toList == [108, 105, 109, 105, 116, 115, 46, 99, 112, 117]) = false)
    (h4 : (s.toList == [109, 101, 109, 111, 114, 121]) = false) (h5 : (s.toList == [114, 101, 113, 117, 101, 115, 116, 115, 46, 109, 101, 109, 111, 114, 121]) = false) (h6 : (s.toList == [108, 105, 109, 105, 116, 115, 46, 109, 101, 109, 111, 114, 121]) = false) :
    Calls Try.prog 16 #[.string s] w fun e w' => e = .returned (.tuple #[.string ⟨#[]⟩, .bool false, .bool false]) ∧ w' = w := by
  go_enter Try.func16, Try.ntmps16
  go_wp2
  go_ret3
  exact ⟨rfl, rfl⟩


theorem zz_miss (s : ByteArray) (w : World)
    (h1 : (s.toList == [99, 112, 117]) = false) (h2 : (s.toList == [114, 101, 113, 117, 101, 115, 116, 115, 46, 99, 112, 117]) = false) (h3 : (s.toList == [108, 105, 109, 105, 116, 115, 46, 99, 112, 117]) = false)
    (h4 : (s.toList == [109, 101, 109, 111, 114, 121]) = false) (h5 : (s.toList == [114, 101, 113, 117, 101, 115, 116, 115, 46, 109, 101, 109, 111, 114, 121]) = false) (h6 : (s.toList == [108, 105, 109, 105, 116, 115, 46, 109, 101, 109, 111, 114, 121]) = false) :
    Calls Try.prog 10 #[.string s] w fun e w' => e = .returned (.tuple #[.string ⟨#[]⟩, .bool false, .bool false]) ∧ w' = w := by
  have h := comp_miss s w h1 h2 h3 h4 h5 h6
  clear h1 h2 h3 h4 h5 h6
  go_enter Try.func10, Try.ntmps10
  go_wp2_with (go_at_call 16; refine h.mono ?_; rintro e w' ⟨rfl, rfl⟩)
  go_ret3
  exact ⟨rfl, rfl⟩

theorem comp_cpu (w : World) :
    Calls Try.prog 16 #[.string ⟨#[99, 112, 117]⟩] w fun e w' => e = .returned (.tuple #[.string ⟨#[99, 112, 117]⟩, .bool false, .bool true]) ∧ w' = w := by
  go_enter Try.func16, Try.ntmps16
  go_wp2
  go_ret3
  exact ⟨rfl, rfl⟩
theorem zz_cpu (s : ByteArray) (hs : s = ⟨#[99, 112, 117]⟩) (w : World) :
    Calls Try.prog 10 #[.string s] w fun e w' => e = .returned (.tuple #[.string ⟨#[99, 112, 117]⟩, .bool false, .bool true]) ∧ w' = w := by
  subst hs
  go_enter Try.func10, Try.ntmps10
  go_wp2_with (go_at_call 16; refine (comp_cpu _).mono ?_; rintro e w' ⟨rfl, rfl⟩)
  go_ret3
  exact ⟨rfl, rfl⟩

theorem comp_rcpu (w : World) :
    Calls Try.prog 16 #[.string ⟨#[114, 101, 113, 117, 101, 115, 116, 115, 46, 99, 112, 117]⟩] w fun e w' => e = .returned (.tuple #[.string ⟨#[99, 112, 117]⟩, .bool false, .bool true]) ∧ w' = w := by
  go_enter Try.func16, Try.ntmps16
  go_wp2
  go_ret3
  exact ⟨rfl, rfl⟩
theorem zz_rcpu (s : ByteArray) (hs : s = ⟨#[114, 101, 113, 117, 101, 115, 116, 115, 46, 99, 112, 117]⟩) (w : World) :
    Calls Try.prog 10 #[.string s] w fun e w' => e = .returned (.tuple #[.string ⟨#[99, 112, 117]⟩, .bool false, .bool true]) ∧ w' = w := by
  subst hs
  go_enter Try.func10, Try.ntmps10
  go_wp2_with (go_at_call 16; refine (comp_rcpu _).mono ?_; rintro e w' ⟨rfl, rfl⟩)
  go_ret3
  exact ⟨rfl, rfl⟩

theorem comp_lcpu (w : World) :
    Calls Try.prog 16 #[.string ⟨#[108, 105, 109, 105, 116, 115, 46, 99, 112, 117]⟩] w fun e w' => e = .returned (.tuple #[.string ⟨#[99, 112, 117]⟩, .bool true, .bool true]) ∧ w' = w := by
  go_enter Try.func16, Try.ntmps16
  go_wp2
  go_ret3
  exact ⟨rfl, rfl⟩
theorem zz_lcpu (s : ByteArray) (hs : s = ⟨#[108, 105, 109, 105, 116, 115, 46, 99, 112, 117]⟩) (w : World) :
    Calls Try.prog 10 #[.string s] w fun e w' => e = .returned (.tuple #[.string ⟨#[99, 112, 117]⟩, .bool true, .bool true]) ∧ w' = w := by
  subst hs
  go_enter Try.func10, Try.ntmps10
  go_wp2_with (go_at_call 16; refine (comp_lcpu _).mono ?_; rintro e w' ⟨rfl, rfl⟩)
  go_ret3
  exact ⟨rfl, rfl⟩

theorem comp_mem (w : World) :
    Calls Try.prog 16 #[.string ⟨#[109, 101, 109, 111, 114, 121]⟩] w fun e w' => e = .returned (.tuple #[.string ⟨#[109, 101, 109, 111, 114, 121]⟩, .bool false, .bool true]) ∧ w' = w := by
  go_enter Try.func16, Try.ntmps16
  go_wp2
  go_ret3
  exact ⟨rfl, rfl⟩
theorem zz_mem (s : ByteArray) (hs : s = ⟨#[109, 101, 109, 111, 114, 121]⟩) (w : World) :
    Calls Try.prog 10 #[.string s] w fun e w' => e = .returned (.tuple #[.string ⟨#[109, 101, 109, 111, 114, 121]⟩, .bool false, .bool true]) ∧ w' = w := by
  subst hs
  go_enter Try.func10, Try.ntmps10
  go_wp2_with (go_at_call 16; refine (comp_mem _).mono ?_; rintro e w' ⟨rfl, rfl⟩)
  go_ret3
  exact ⟨rfl, rfl⟩

theorem comp_rmem (w : World) :
    Calls Try.prog 16 #[.string ⟨#[114, 101, 113, 117, 101, 115, 116, 115, 46, 109, 101, 109, 111, 114, 121]⟩] w fun e w' => e = .returned (.tuple #[.string ⟨#[109, 101, 109, 111, 114, 121]⟩, .bool false, .bool true]) ∧ w' = w := by
  go_enter Try.func16, Try.ntmps16
  go_wp2
  go_ret3
  exact ⟨rfl, rfl⟩
theorem zz_rmem (s : ByteArray) (hs : s = ⟨#[114, 101, 113, 117, 101, 115, 116, 115, 46, 109, 101, 109, 111, 114, 121]⟩) (w : World) :
    Calls Try.prog 10 #[.string s] w fun e w' => e = .returned (.tuple #[.string ⟨#[109, 101, 109, 111, 114, 121]⟩, .bool false, .bool true]) ∧ w' = w := by
  subst hs
  go_enter Try.func10, Try.ntmps10
  go_wp2_with (go_at_call 16; refine (comp_rmem _).mono ?_; rintro e w' ⟨rfl, rfl⟩)
  go_ret3
  exact ⟨rfl, rfl⟩

theorem comp_lmem (w : World) :
    Calls Try.prog 16 #[.string ⟨#[108, 105, 109, 105, 116, 115, 46, 109, 101, 109, 111, 114, 121]⟩] w fun e w' => e = .returned (.tuple #[.string ⟨#[109, 101, 109, 111, 114, 121]⟩, .bool true, .bool true]) ∧ w' = w := by
  go_enter Try.func16, Try.ntmps16
  go_wp2
  go_ret3
  exact ⟨rfl, rfl⟩
theorem zz_lmem (s : ByteArray) (hs : s = ⟨#[108, 105, 109, 105, 116, 115, 46, 109, 101, 109, 111, 114, 121]⟩) (w : World) :
    Calls Try.prog 10 #[.string s] w fun e w' => e = .returned (.tuple #[.string ⟨#[109, 101, 109, 111, 114, 121]⟩, .bool true, .bool true]) ∧ w' = w := by
  subst hs
  go_enter Try.func10, Try.ntmps10
  go_wp2_with (go_at_call 16; refine (comp_lmem _).mono ?_; rintro e w' ⟨rfl, rfl⟩)
  go_ret3
  exact ⟨rfl, rfl⟩

set_option maxHeartbeats 1000000 in
set_option maxRecDepth 100000 in
theorem law_cpu (w : World) :
    Calls Try.prog 4 #[.string ⟨#[99, 112, 117]⟩] w fun e w' => e = .returned (.bool true) ∧ w' = w := by
  go_enter Try.func4, Try.ntmps4
  go_wp2_with (go_at_call 9; refine (zzbytes_ok _ _ (by decide)).mono ?_; rintro e w' ⟨rfl, rfl⟩)
  refine (zz_cpu _ (by decide +kernel) _).mono ?_
  rintro e w' ⟨rfl, rfl⟩
  go_wp2_with fail
  refine (zz_rcpu _ (by decide +kernel) _).mono ?_
  rintro e w' ⟨rfl, rfl⟩
  go_wp2_with fail
  refine (zz_lcpu _ (by decide +kernel) _).mono ?_
  rintro e w' ⟨rfl, rfl⟩
  go_wp2_with fail
  refine (zz_cpu _ (by decide +kernel) _).mono ?_
  rintro e w' ⟨rfl, rfl⟩
  go_wp2_with fail
  go_ret
  exact ⟨rfl, rfl⟩

set_option maxHeartbeats 1000000 in
set_option maxRecDepth 100000 in
theorem law_rcpu (w : World) :
    Calls Try.prog 4 #[.string ⟨#[114, 101, 113, 117, 101, 115, 116, 115, 46, 99, 112, 117]⟩] w fun e w' => e = .returned (.bool true) ∧ w' = w := by
  have hq : ([114, 101, 113, 117, 101, 115, 116, 115, 46, 99, 112, 117] == ((⟨#[114, 101, 113, 117, 101, 115, 116, 115, 46]⟩ : ByteArray) ++ ⟨#[99, 112, 117]⟩).toList) = true := by decide +kernel
  go_enter Try.func4, Try.ntmps4
  go_wp2_with (go_at_call 9; refine (zzbytes_ok _ _ (by decide)).mono ?_; rintro e w' ⟨rfl, rfl⟩)
  refine (zz_rcpu _ (by decide +kernel) _).mono ?_
  rintro e w' ⟨rfl, rfl⟩
  go_wp2_with fail
  refine (zz_miss _ _ (by decide +kernel) (by decide +kernel) (by decide +kernel) (by decide +kernel) (by decide +kernel) (by decide +kernel)).mono ?_
  rintro e w' ⟨rfl, rfl⟩
  go_wp2_with fail
  refine (zz_miss _ _ (by decide +kernel) (by decide +kernel) (by decide +kernel) (by decide +kernel) (by decide +kernel) (by decide +kernel)).mono ?_
  rintro e w' ⟨rfl, rfl⟩
  go_wp2_with fail
  refine (zz_cpu _ (by decide +kernel) _).mono ?_
  rintro e w' ⟨rfl, rfl⟩
  go_wp2_with fail
  go_ret
  exact ⟨rfl, rfl⟩

set_option maxHeartbeats 1000000 in
set_option maxRecDepth 100000 in
theorem law_lcpu (w : World) :
    Calls Try.prog 4 #[.string ⟨#[108, 105, 109, 105, 116, 115, 46, 99, 112, 117]⟩] w fun e w' => e = .returned (.bool true) ∧ w' = w := by
  have hq : ([108, 105, 109, 105, 116, 115, 46, 99, 112, 117] == ((⟨#[108, 105, 109, 105, 116, 115, 46]⟩ : ByteArray) ++ ⟨#[99, 112, 117]⟩).toList) = true := by decide +kernel
  go_enter Try.func4, Try.ntmps4
  go_wp2_with (go_at_call 9; refine (zzbytes_ok _ _ (by decide)).mono ?_; rintro e w' ⟨rfl, rfl⟩)
  refine (zz_lcpu _ (by decide +kernel) _).mono ?_
  rintro e w' ⟨rfl, rfl⟩
  go_wp2_with fail
  refine (zz_miss _ _ (by decide +kernel) (by decide +kernel) (by decide +kernel) (by decide +kernel) (by decide +kernel) (by decide +kernel)).mono ?_
  rintro e w' ⟨rfl, rfl⟩
  go_wp2_with fail
  refine (zz_miss _ _ (by decide +kernel) (by decide +kernel) (by decide +kernel) (by decide +kernel) (by decide +kernel) (by decide +kernel)).mono ?_
  rintro e w' ⟨rfl, rfl⟩
  go_wp2_with fail
  refine (zz_cpu _ (by decide +kernel) _).mono ?_
  rintro e w' ⟨rfl, rfl⟩
  go_wp2_with fail
  go_ret
  exact ⟨rfl, rfl⟩

set_option maxHeartbeats 1000000 in
set_option maxRecDepth 100000 in
theorem law_mem (w : World) :
    Calls Try.prog 4 #[.string ⟨#[109, 101, 109, 111, 114, 121]⟩] w fun e w' => e = .returned (.bool true) ∧ w' = w := by
  go_enter Try.func4, Try.ntmps4
  go_wp2_with (go_at_call 9; refine (zzbytes_ok _ _ (by decide)).mono ?_; rintro e w' ⟨rfl, rfl⟩)
  refine (zz_mem _ (by decide +kernel) _).mono ?_
  rintro e w' ⟨rfl, rfl⟩
  go_wp2_with fail
  refine (zz_rmem _ (by decide +kernel) _).mono ?_
  rintro e w' ⟨rfl, rfl⟩
  go_wp2_with fail
  refine (zz_lmem _ (by decide +kernel) _).mono ?_
  rintro e w' ⟨rfl, rfl⟩
  go_wp2_with fail
  refine (zz_mem _ (by decide +kernel) _).mono ?_
  rintro e w' ⟨rfl, rfl⟩
  go_wp2_with fail
  go_ret
  exact ⟨rfl, rfl⟩

set_option maxHeartbeats 1000000 in
set_option maxRecDepth 100000 in
theorem law_rmem (w : World) :
    Calls Try.prog 4 #[.string ⟨#[114, 101, 113, 117, 101, 115, 116, 115, 46, 109, 101, 109, 111, 114, 121]⟩] w fun e w' => e = .returned (.bool true) ∧ w' = w := by
  have hq : ([114, 101, 113, 117, 101, 115, 116, 115, 46, 109, 101, 109, 111, 114, 121] == ((⟨#[114, 101, 113, 117, 101, 115, 116, 115, 46]⟩ : ByteArray) ++ ⟨#[109, 101, 109, 111, 114, 121]⟩).toList) = true := by decide +kernel
  go_enter Try.func4, Try.ntmps4
  go_wp2_with (go_at_call 9; refine (zzbytes_ok _ _ (by decide)).mono ?_; rintro e w' ⟨rfl, rfl⟩)
  refine (zz_rmem _ (by decide +kernel) _).mono ?_
  rintro e w' ⟨rfl, rfl⟩
  go_wp2_with fail
  refine (zz_miss _ _ (by decide +kernel) (by decide +kernel) (by decide +kernel) (by decide +kernel) (by decide +kernel) (by decide +kernel)).mono ?_
  rintro e w' ⟨rfl, rfl⟩
  go_wp2_with fail
  refine (zz_miss _ _ (by decide +kernel) (by decide +kernel) (by decide +kernel) (by decide +kernel) (by decide +kernel) (by decide +kernel)).mono ?_
  rintro e w' ⟨rfl, rfl⟩
  go_wp2_with fail
  refine (zz_mem _ (by decide +kernel) _).mono ?_
  rintro e w' ⟨rfl, rfl⟩
  go_wp2_with fail
  go_ret
  exact ⟨rfl, rfl⟩

set_option maxHeartbeats 1000000 in
set_option maxRecDepth 100000 in
theorem law_lmem (w : World) :
    Calls Try.prog 4 #[.string ⟨#[108, 105, 109, 105, 116, 115, 46, 109, 101, 109, 111, 114, 121]⟩] w fun e w' => e = .returned (.bool true) ∧ w' = w := by
  have hq : ([108, 105, 109, 105, 116, 115, 46, 109, 101, 109, 111, 114, 121] == ((⟨#[108, 105, 109, 105, 116, 115, 46]⟩ : ByteArray) ++ ⟨#[109, 101, 109, 111, 114, 121]⟩).toList) = true := by decide +kernel
  go_enter Try.func4, Try.ntmps4
  go_wp2_with (go_at_call 9; refine (zzbytes_ok _ _ (by decide)).mono ?_; rintro e w' ⟨rfl, rfl⟩)
  refine (zz_lmem _ (by decide +kernel) _).mono ?_
  rintro e w' ⟨rfl, rfl⟩
  go_wp2_with fail
  refine (zz_miss _ _ (by decide +kernel) (by decide +kernel) (by decide +kernel) (by decide +kernel) (by decide +kernel) (by decide +kernel)).mono ?_
  rintro e w' ⟨rfl, rfl⟩
  go_wp2_with fail
  refine (zz_miss _ _ (by decide +kernel) (by decide +kernel) (by decide +kernel) (by decide +kernel) (by decide +kernel) (by decide +kernel)).mono ?_
  rintro e w' ⟨rfl, rfl⟩
  go_wp2_with fail
  refine (zz_mem _ (by decide +kernel) _).mono ?_
  rintro e w' ⟨rfl, rfl⟩
  go_wp2_with fail
  go_ret
  exact ⟨rfl, rfl⟩

theorem app_toList (a s : ByteArray) : (a ++ s).toList = a.toList ++ s.toList := by
  rw [ByteArray.toList_eq, ByteArray.toList_eq, ByteArray.toList_eq, ByteArray.data_append, Array.toList_append]

theorem preR (s : ByteArray) (h1 : (s.toList == [99, 112, 117]) = false) (h4 : (s.toList == [109, 101, 109, 111, 114, 121]) = false) :
    ((((⟨#[114, 101, 113, 117, 101, 115, 116, 115, 46]⟩ : ByteArray) ++ s).toList == [99, 112, 117]) = false) ∧ ((((⟨#[114, 101, 113, 117, 101, 115, 116, 115, 46]⟩ : ByteArray) ++ s).toList == [114, 101, 113, 117, 101, 115, 116, 115, 46, 99, 112, 117]) = false) ∧ ((((⟨#[114, 101, 113, 117, 101, 115, 116, 115, 46]⟩ : ByteArray) ++ s).toList == [108, 105, 109, 105, 116, 115, 46, 99, 112, 117]) = false) ∧ ((((⟨#[114, 101, 113, 117, 101, 115, 116, 115, 46]⟩ : ByteArray) ++ s).toList == [109, 101, 109, 111, 114, 121]) = false) ∧ ((((⟨#[114, 101, 113, 117, 101, 115, 116, 115, 46]⟩ : ByteArray) ++ s).toList == [114, 101, 113, 117, 101, 115, 116, 115, 46, 109, 101, 109, 111, 114, 121]) = false) ∧ ((((⟨#[114, 101, 113, 117, 101, 115, 116, 115, 46]⟩ : ByteArray) ++ s).toList == [108, 105, 109, 105, 116, 115, 46, 109, 101, 109, 111, 114, 121]) = false) := by
  have e : ((⟨#[114, 101, 113, 117, 101, 115, 116, 115, 46]⟩ : ByteArray) ++ s).toList = [114, 101, 113, 117, 101, 115, 116, 115, 46] ++ s.toList := by
    rw [app_toList]; congr 1; rw [ByteArray.toList_eq]
  rw [e]
  simp at h1 h4
  simp [h1, h4]

theorem preL (s : ByteArray) (h1 : (s.toList == [99, 112, 117]) = false) (h4 : (s.toList == [109, 101, 109, 111, 114, 121]) = false) :
    ((((⟨#[108, 105, 109, 105, 116, 115, 46]⟩ : ByteArray) ++ s).toList == [99, 112, 117]) = false) ∧ ((((⟨#[108, 105, 109, 105, 116, 115, 46]⟩ : ByteArray) ++ s).toList == [114, 101, 113, 117, 101, 115, 116, 115, 46, 99, 112, 117]) = false) ∧ ((((⟨#[108, 105, 109, 105, 116, 115, 46]⟩ : ByteArray) ++ s).toList == [108, 105, 109, 105, 116, 115, 46, 99, 112, 117]) = false) ∧ ((((⟨#[108, 105, 109, 105, 116, 115, 46]⟩ : ByteArray) ++ s).toList == [109, 101, 109, 111, 114, 121]) = false) ∧ ((((⟨#[108, 105, 109, 105, 116, 115, 46]⟩ : ByteArray) ++ s).toList == [114, 101, 113, 117, 101, 115, 116, 115, 46, 109, 101, 109, 111, 114, 121]) = false) ∧ ((((⟨#[108, 105, 109, 105, 116, 115, 46]⟩ : ByteArray) ++ s).toList == [108, 105, 109, 105, 116, 115, 46, 109, 101, 109, 111, 114, 121]) = false) := by
  have e : ((⟨#[108, 105, 109, 105, 116, 115, 46]⟩ : ByteArray) ++ s).toList = [108, 105, 109, 105, 116, 115, 46] ++ s.toList := by
    rw [app_toList]; congr 1; rw [ByteArray.toList_eq]
  rw [e]
  simp at h1 h4
  simp [h1, h4]

set_option maxHeartbeats 1000000 in
set_option maxRecDepth 100000 in
theorem law_miss (s : ByteArray) (hsz : s.size ≤ 65536) (h1 : (s.toList == [99, 112, 117]) = false) (h2 : (s.toList == [114, 101, 113, 117, 101, 115, 116, 115, 46, 99, 112, 117]) = false) (h3 : (s.toList == [108, 105, 109, 105, 116, 115, 46, 99, 112, 117]) = false) (h4 : (s.toList == [109, 101, 109, 111, 114, 121]) = false) (h5 : (s.toList == [114, 101, 113, 117, 101, 115, 116, 115, 46, 109, 101, 109, 111, 114, 121]) = false) (h6 : (s.toList == [108, 105, 109, 105, 116, 115, 46, 109, 101, 109, 111, 114, 121]) = false) (w : World) :
    Calls Try.prog 4 #[.string s] w fun e w' => e = .returned (.bool true) ∧ w' = w := by
  obtain ⟨r1, r2, r3, r4, r5, r6⟩ := preR s h1 h4
  obtain ⟨l1, l2, l3, l4, l5, l6⟩ := preL s h1 h4
  go_enter Try.func4, Try.ntmps4
  go_wp2_with (go_at_call 9; refine (zzbytes_ok _ _ hsz).mono ?_; rintro e w' ⟨rfl, rfl⟩)
  refine (zz_miss s _ h1 h2 h3 h4 h5 h6).mono ?_
  rintro e w' ⟨rfl, rfl⟩
  go_wp2_with fail
  refine (zz_miss _ _ r1 r2 r3 r4 r5 r6).mono ?_
  rintro e w' ⟨rfl, rfl⟩
  go_wp2_with fail
  refine (zz_miss _ _ l1 l2 l3 l4 l5 l6).mono ?_
  rintro e w' ⟨rfl, rfl⟩
  go_wp2_with fail
  go_ret
  exact ⟨rfl, rfl⟩

set_option maxHeartbeats 1000000 in
set_option maxRecDepth 100000 in
theorem law_long (s : ByteArray) (hsz : 65536 < s.size) (hm : s.size ≤ maxLen) (w : World) :
    Calls Try.prog 4 #[.string s] w fun e w' => e = .returned (.bool true) ∧ w' = w := by
  unfold maxLen at hm
  by_cases hb : 1048576 < s.size
  · go_enter Try.func4, Try.ntmps4
    go_wp2
    go_ret
    exact ⟨rfl, rfl⟩
  · go_enter Try.func4, Try.ntmps4
    go_wp2
    go_ret
    exact ⟨rfl, rfl⟩

theorem of_toList (s : ByteArray) (l : List UInt8) (h : (s.toList == l) = true) : s = ⟨l.toArray⟩ := by
  rw [ByteArray.toList_eq] at h
  have h' : s.data.toList = l := by simpa using h
  cases s
  subst h'
  simp

theorem law_all (s : ByteArray) (hm : s.size ≤ maxLen) (w : World) :
    Calls Try.prog 4 #[.string s] w fun e w' => e = .returned (.bool true) ∧ w' = w := by
  by_cases hsz : s.size ≤ 65536
  · by_cases h1 : (s.toList == [99, 112, 117]) = true
    · rw [of_toList s _ h1]; exact law_cpu w
    have g1 : (s.toList == [99, 112, 117]) = false := by simpa using h1
    by_cases h2 : (s.toList == [114, 101, 113, 117, 101, 115, 116, 115, 46, 99, 112, 117]) = true
    · rw [of_toList s _ h2]; exact law_rcpu w
    have g2 : (s.toList == [114, 101, 113, 117, 101, 115, 116, 115, 46, 99, 112, 117]) = false := by simpa using h2
    by_cases h3 : (s.toList == [108, 105, 109, 105, 116, 115, 46, 99, 112, 117]) = true
    · rw [of_toList s _ h3]; exact law_lcpu w
    have g3 : (s.toList == [108, 105, 109, 105, 116, 115, 46, 99, 112, 117]) = false := by simpa using h3
    by_cases h4 : (s.toList == [109, 101, 109, 111, 114, 121]) = true
    · rw [of_toList s _ h4]; exact law_mem w
    have g4 : (s.toList == [109, 101, 109, 111, 114, 121]) = false := by simpa using h4
    by_cases h5 : (s.toList == [114, 101, 113, 117, 101, 115, 116, 115, 46, 109, 101, 109, 111, 114, 121]) = true
    · rw [of_toList s _ h5]; exact law_rmem w
    have g5 : (s.toList == [114, 101, 113, 117, 101, 115, 116, 115, 46, 109, 101, 109, 111, 114, 121]) = false := by simpa using h5
    by_cases h6 : (s.toList == [108, 105, 109, 105, 116, 115, 46, 109, 101, 109, 111, 114, 121]) = true
    · rw [of_toList s _ h6]; exact law_lmem w
    have g6 : (s.toList == [108, 105, 109, 105, 116, 115, 46, 109, 101, 109, 111, 114, 121]) = false := by simpa using h6
    exact law_miss s hsz g1 g2 g3 g4 g5 g6 w
  · exact law_long s (by omega) hm w

end Go.Proofs.Qxb6621667a
