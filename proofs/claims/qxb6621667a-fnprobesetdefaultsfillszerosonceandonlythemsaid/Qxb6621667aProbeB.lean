import Derived.Test.Qxb6621667aProbeA
namespace Go.Proofs.Qxb6621667a
open Go.RowKit

def httpCells (path host scheme : ByteArray) (port : Int) : Array Value :=
  #[.string path, .bool false, .int .i32 port, .string ⟨#[]⟩, .string host, .string scheme, .slice none 0 0]
def HttpAt (w : World) (b : Nat) (path host scheme : ByteArray) (port : Int) : Prop := w.heap[b]? = some (.cells (httpCells path host scheme port) 35 (0, 0))
theorem HttpAt.cell {w : World} {b : Nat} {path host scheme : ByteArray} {port : Int} (hb : HttpAt w b path host scheme port) (j : Nat) : w.cell? ⟨b, j, none⟩ = (httpCells path host scheme port)[j]? := cell_of_row w b j _ _ _ hb
theorem HttpAt.frozen {w : World} {b : Nat} {path host scheme : ByteArray} {port : Int} (hb : HttpAt w b path host scheme port) (j : Nat) : w.frozen? ⟨b, j, none⟩ = false := frozen_of_row w b j _ _ hb
theorem HttpAt.set0 {w : World} {b : Nat} {path host scheme : ByteArray} {port : Int} (hb : HttpAt w b path host scheme port) (x : ByteArray) : HttpAt (w.setCell ⟨b, 0, none⟩ (.string x)) b x host scheme port := heap_setCell_same w b 0 _ _ _ hb
theorem HttpAt.set5 {w : World} {b : Nat} {path host scheme : ByteArray} {port : Int} (hb : HttpAt w b path host scheme port) (x : ByteArray) : HttpAt (w.setCell ⟨b, 5, none⟩ (.string x)) b path host x port := heap_setCell_same w b 5 _ _ _ hb

/-- x, or d where x is empty. -/
def orS (x d : ByteArray) : ByteArray := if x.toList.isEmpty = true then d else x
theorem orS_yes {x : ByteArray} (d : ByteArray) (h : x.toList.isEmpty = true) : orS x d = d := by simp [orS, h]
theorem orS_no {x : ByteArray} (d : ByteArray) (h : x.toList.isEmpty = false) : orS x d = x := by simp [orS, h]

set_option maxHeartbeats 4000000 in
theorem set_http (b gb : Nat) (tg : Value) (i t p s f : Int) (path host scheme : ByteArray) (port : Int) (w : World) (h : Value) (hh : h = .pointer (some ⟨gb, 0, none⟩)) (hb : ProbeAt w b h tg i t p s f) (hg : HttpAt w gb path host scheme port) (hne : gb ≠ b) :
    Calls Try.prog 7 #[.pointer (some ⟨b, 0, none⟩)] w fun e w' => e = .returned (.tuple #[]) ∧ ProbeAt w' b h tg i (orD t 1) (orD p 10) (orD s 1) (orD f 3) ∧ HttpAt w' gb (orS path ⟨#[47]⟩) host (orS scheme ⟨#[72, 84, 84, 80]⟩) port ∧ Kept (fun j => j = b ∨ j = gb) w w' := by
  have HH : Hid (h = .pointer (some ⟨gb, 0, none⟩)) := hh
  clear hh
  have hbw := lt_of_some hb
  have hsb : w.heap.size ≠ b := by omega
  go_enter Try.func7, Try.ntmps7
  go_wp2
  go_region
  go_wp2
  go_loopw [3, 23] (fun _ x wr => ∃ k : Nat, k ≤ 4 ∧ x = .int .i64 k ∧ ProbeAt wr b h tg i (T1 t k) (P1 p k) (S1 s k) (F1 f k) ∧ wr.heap[w.heap.size]? = some (.cells (litCells b) 46 (0, 0)) ∧ Kept (fun j => j = b) w wr) (fun _ x _ => 4 - (intOf x).toNat)
  case atStart => exact ⟨0, by decide, rfl, hb.alloc _, heap_alloc_new w _, ((Kept.refl _ _).alloc _).drew⟩
  case round =>
    obtain ⟨k, hk, rfl, hpr, hsl, hkp⟩ := hrel
    have hbr := lt_of_some hpr
    have hsr := lt_of_some hsl
    obtain rfl | rfl | rfl | rfl | rfl : k = 0 ∨ k = 1 ∨ k = 2 ∨ k = 3 ∨ k = 4 := by omega
    · have c : wr.cell? ⟨b, 6, none⟩ = some (.int .i32 p) := hpr.cell 6
      have fz := hpr.frozen 6
      have s0 : wr.cell? ⟨w.heap.size, 0, none⟩ = some (.pointer (some ⟨b, 6, none⟩)) := cell_of_row wr _ 0 _ _ _ hsl
      have s1 : wr.cell? ⟨w.heap.size, 1, none⟩ = some (.int .i32 10) := cell_of_row wr _ 1 _ _ _ hsl
      by_cases hz : p = 0
      · subst hz
        go_wp2
        go_roundw
        case rel => exact ⟨1, by decide, rfl, (hpr.set6 10).alloc _, row_alloc (row_other hsl hsb _) _, (hkp.setCell (.inl rfl) _).alloc _⟩
        case measure => simp [intOf]
      · have hz' : (p == 0) = false := by simpa using hz
        have e : P1 p 1 = p := orD_ne 10 hz
        have E : Hid (P1 p 1 = p) := e
        clear e hz
        go_wp2
        go_roundw
        case rel => exact ⟨1, by decide, rfl, by rw [E.out]; exact hpr.alloc _, row_alloc hsl _, hkp.alloc _⟩
        case measure => simp [intOf]
    · have c : wr.cell? ⟨b, 5, none⟩ = some (.int .i32 t) := hpr.cell 5
      have fz := hpr.frozen 5
      have s0 : wr.cell? ⟨w.heap.size, 2, none⟩ = some (.pointer (some ⟨b, 5, none⟩)) := cell_of_row wr _ 2 _ _ _ hsl
      have s1 : wr.cell? ⟨w.heap.size, 3, none⟩ = some (.int .i32 1) := cell_of_row wr _ 3 _ _ _ hsl
      by_cases hz : t = 0
      · subst hz
        go_wp2
        go_roundw
        case rel => exact ⟨2, by decide, rfl, (hpr.set5 1).alloc _, row_alloc (row_other hsl hsb _) _, (hkp.setCell (.inl rfl) _).alloc _⟩
        case measure => simp [intOf]
      · have hz' : (t == 0) = false := by simpa using hz
        have e : T1 t 2 = t := orD_ne 1 hz
        have E : Hid (T1 t 2 = t) := e
        clear e hz
        go_wp2
        go_roundw
        case rel => exact ⟨2, by decide, rfl, by rw [E.out]; exact hpr.alloc _, row_alloc hsl _, hkp.alloc _⟩
        case measure => simp [intOf]
    · have c : wr.cell? ⟨b, 7, none⟩ = some (.int .i32 s) := hpr.cell 7
      have fz := hpr.frozen 7
      have s0 : wr.cell? ⟨w.heap.size, 4, none⟩ = some (.pointer (some ⟨b, 7, none⟩)) := cell_of_row wr _ 4 _ _ _ hsl
      have s1 : wr.cell? ⟨w.heap.size, 5, none⟩ = some (.int .i32 1) := cell_of_row wr _ 5 _ _ _ hsl
      by_cases hz : s = 0
      · subst hz
        go_wp2
        go_roundw
        case rel => exact ⟨3, by decide, rfl, (hpr.set7 1).alloc _, row_alloc (row_other hsl hsb _) _, (hkp.setCell (.inl rfl) _).alloc _⟩
        case measure => simp [intOf]
      · have hz' : (s == 0) = false := by simpa using hz
        have e : S1 s 3 = s := orD_ne 1 hz
        have E : Hid (S1 s 3 = s) := e
        clear e hz
        go_wp2
        go_roundw
        case rel => exact ⟨3, by decide, rfl, by rw [E.out]; exact hpr.alloc _, row_alloc hsl _, hkp.alloc _⟩
        case measure => simp [intOf]
    · have c : wr.cell? ⟨b, 8, none⟩ = some (.int .i32 f) := hpr.cell 8
      have fz := hpr.frozen 8
      have s0 : wr.cell? ⟨w.heap.size, 6, none⟩ = some (.pointer (some ⟨b, 8, none⟩)) := cell_of_row wr _ 6 _ _ _ hsl
      have s1 : wr.cell? ⟨w.heap.size, 7, none⟩ = some (.int .i32 3) := cell_of_row wr _ 7 _ _ _ hsl
      by_cases hz : f = 0
      · subst hz
        go_wp2
        go_roundw
        case rel => exact ⟨4, by decide, rfl, (hpr.set8 3).alloc _, row_alloc (row_other hsl hsb _) _, (hkp.setCell (.inl rfl) _).alloc _⟩
        case measure => simp [intOf]
      · have hz' : (f == 0) = false := by simpa using hz
        have e : F1 f 4 = f := orD_ne 3 hz
        have E : Hid (F1 f 4 = f) := e
        clear e hz
        go_wp2
        go_roundw
        case rel => exact ⟨4, by decide, rfl, by rw [E.out]; exact hpr.alloc _, row_alloc hsl _, hkp.alloc _⟩
        case measure => simp [intOf]
    · have c1 : wr.cell? ⟨b, 1, none⟩ = some (.pointer (some ⟨gb, 0, none⟩)) := by rw [← HH.out]; exact hpr.cell 1
      have hgr : HttpAt wr gb path host scheme port := (hkp.block gb (lt_of_some hg) hne).trans hg
      have hgs := lt_of_some hgr
      have p0 : wr.cell? ⟨gb, 0, none⟩ = some (.string path) := hgr.cell 0
      have p5 : wr.cell? ⟨gb, 5, none⟩ = some (.string scheme) := hgr.cell 5
      have f0 := hgr.frozen 0
      have f5 := hgr.frozen 5
      clear hsl hsr c1
      have c1 : wr.cell? ⟨b, 1, none⟩ = some (.pointer (some ⟨gb, 0, none⟩)) := by rw [← HH.out]; exact hpr.cell 1
      have hk2 : Kept (fun j => j = b ∨ j = gb) w wr := hkp.mono (fun _ e => .inl e)
      have hbg : b ≠ gb := fun e => hne e.symm
      go_wp2
      · have q0 : path.toList.isEmpty = true := by assumption
        have q5 : scheme.toList.isEmpty = true := by assumption
        go_end0
        exact ⟨rfl, row_other (row_other hpr hbg _) hbg _, by rw [orS_yes _ q0, orS_yes _ q5]; exact (hgr.set0 _).set5 _, (hk2.setCell (.inl (.inr rfl)) _).setCell (.inl (.inr rfl)) _⟩
      · have q0 : path.toList.isEmpty = true := by assumption
        have q5 : scheme.toList.isEmpty = false := by assumption
        go_end0
        exact ⟨rfl, row_other hpr hbg _, by rw [orS_yes _ q0, orS_no _ q5]; exact hgr.set0 _, hk2.setCell (.inl (.inr rfl)) _⟩
      · have q0 : path.toList.isEmpty = false := by assumption
        have q5 : scheme.toList.isEmpty = true := by assumption
        go_end0
        exact ⟨rfl, row_other hpr hbg _, by rw [orS_no _ q0, orS_yes _ q5]; exact hgr.set5 _, hk2.setCell (.inl (.inr rfl)) _⟩
      · have q0 : path.toList.isEmpty = false := by assumption
        have q5 : scheme.toList.isEmpty = false := by assumption
        go_end0
        exact ⟨rfl, hpr, by rw [orS_no _ q0, orS_no _ q5]; exact hgr, hk2⟩
end Go.Proofs.Qxb6621667a
