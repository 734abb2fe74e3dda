import Derived.Test.Qxb6621667aRows
import Derived.WalkKit
import Derived.WalkSpells
import Derived.WalkLawsBesides
import Derived.RegionTactic
import Derived.BigRegion
namespace Go.Proofs.Qxb6621667a
open Go.RowKit

/-- All blocks of w but those of S are in w' as they were; the streams are as they were. -/
structure Kept (S : Nat → Prop) (w w' : World) : Prop where
  os : w'.os = w.os
  tape : w'.tape = w.tape
  output : w'.output = w.output
  size : w.heap.size ≤ w'.heap.size
  block : ∀ k, k < w.heap.size → ¬ S k → w'.heap[k]? = w.heap[k]?

theorem Kept.refl (S : Nat → Prop) (w : World) : Kept S w w := ⟨rfl, rfl, rfl, Nat.le_refl _, fun _ _ _ => rfl⟩
theorem Kept.trans {S : Nat → Prop} {a b c : World} (h : Kept S a b) (k : Kept S b c) : Kept S a c :=
  ⟨k.os.trans h.os, k.tape.trans h.tape, k.output.trans h.output, Nat.le_trans h.size k.size, fun i hi hs => (k.block i (Nat.lt_of_lt_of_le hi h.size) hs).trans (h.block i hi hs)⟩
theorem Kept.drew {S : Nat → Prop} {a w : World} (h : Kept S a w) : Kept S a w.drew := ⟨h.os, h.tape, h.output, h.size, h.block⟩
theorem Kept.alloc {S : Nat → Prop} {a w : World} (h : Kept S a w) (o : Obj) : Kept S a (w.alloc o) :=
  h.trans ⟨rfl, rfl, rfl, by simp, fun k hk _ => Below.heap_alloc _ _ _ hk⟩
theorem Kept.setCell {S : Nat → Prop} {a w : World} (h : Kept S a w) {p : Addr} (hp : S p.block ∨ a.heap.size ≤ p.block) (u : Value) : Kept S a (w.setCell p u) :=
  ⟨h.os, h.tape, h.output, by simpa [World.setCell] using h.size, fun k hk hs => by
    rw [Below.heap_setCell _ _ _ _ (by intro e; subst e; rcases hp with hp | hp; exact hs hp; omega)]
    exact h.block k hk hs⟩
theorem Kept.mono {S S' : Nat → Prop} {a w : World} (h : Kept S a w) (hs : ∀ k, S k → S' k) : Kept S' a w :=
  ⟨h.os, h.tape, h.output, h.size, fun k hk hn => h.block k hk (fun e => hn (hs k e))⟩

/-- x, or d where x is 0. -/
def orD (x d : Int) : Int := if x = 0 then d else x
theorem orD_zero (d : Int) : orD 0 d = d := by simp [orD]
theorem orD_ne {x : Int} (d : Int) (h : ¬ x = 0) : orD x d = x := by simp [orD, h]

def probeCells (h tg : Value) (i t p s f : Int) : Array Value :=
  #[.pointer none, h, .pointer none, .pointer none, .int .i32 i, .int .i32 t, .int .i32 p, .int .i32 s, .int .i32 f, tg]
def ProbeAt (w : World) (b : Nat) (h tg : Value) (i t p s f : Int) : Prop := w.heap[b]? = some (.cells (probeCells h tg i t p s f) 30 (0, 0))
def litCells (b : Nat) : Array Value :=
  #[.pointer (some ⟨b, 6, none⟩), .int .i32 10, .pointer (some ⟨b, 5, none⟩), .int .i32 1, .pointer (some ⟨b, 7, none⟩), .int .i32 1, .pointer (some ⟨b, 8, none⟩), .int .i32 3]

theorem ProbeAt.cell {w : World} {b : Nat} {h tg : Value} {i t p s f : Int} (hb : ProbeAt w b h tg i t p s f) (j : Nat) : w.cell? ⟨b, j, none⟩ = (probeCells h tg i t p s f)[j]? := cell_of_row w b j _ _ _ hb
theorem ProbeAt.frozen {w : World} {b : Nat} {h tg : Value} {i t p s f : Int} (hb : ProbeAt w b h tg i t p s f) (j : Nat) : w.frozen? ⟨b, j, none⟩ = false := frozen_of_row w b j _ _ hb
theorem lt_of_some {w : World} {b : Nat} {o : Obj} (h : w.heap[b]? = some o) : b < w.heap.size := by
  rcases Nat.lt_or_ge b w.heap.size with h' | h'
  · exact h'
  · rw [Array.getElem?_eq_none h'] at h; cases h

/-- What the loop has made of the four numbers behind k rounds. -/
def T1 (t : Int) (k : Nat) : Int := if 2 ≤ k then orD t 1 else t
def P1 (p : Int) (k : Nat) : Int := if 1 ≤ k then orD p 10 else p
def S1 (s : Int) (k : Nat) : Int := if 3 ≤ k then orD s 1 else s
def F1 (f : Int) (k : Nat) : Int := if 4 ≤ k then orD f 3 else f

theorem row_alloc {w : World} {b : Nat} {o : Obj} (h : w.heap[b]? = some o) (o' : Obj) : (w.alloc o').heap[b]? = some o := by
  rw [Below.heap_alloc w o' b (lt_of_some h)]; exact h
theorem ProbeAt.alloc {w : World} {b : Nat} {h tg : Value} {i t p s f : Int} (hb : ProbeAt w b h tg i t p s f) (o : Obj) : ProbeAt (w.alloc o) b h tg i t p s f := row_alloc hb o
theorem row_other {w : World} {b k j : Nat} {o : Obj} (h : w.heap[b]? = some o) (hk : b ≠ k) (v : Value) : (w.setCell ⟨k, j, none⟩ v).heap[b]? = some o := by
  rw [heap_setCell_other w ⟨k, j, none⟩ b v hk]; exact h
theorem ProbeAt.set5 {w : World} {b : Nat} {h tg : Value} {i t p s f : Int} (hb : ProbeAt w b h tg i t p s f) (x : Int) : ProbeAt (w.setCell ⟨b, 5, none⟩ (.int .i32 x)) b h tg i x p s f := heap_setCell_same w b 5 _ _ _ hb
theorem ProbeAt.set6 {w : World} {b : Nat} {h tg : Value} {i t p s f : Int} (hb : ProbeAt w b h tg i t p s f) (x : Int) : ProbeAt (w.setCell ⟨b, 6, none⟩ (.int .i32 x)) b h tg i t x s f := heap_setCell_same w b 6 _ _ _ hb
theorem ProbeAt.set7 {w : World} {b : Nat} {h tg : Value} {i t p s f : Int} (hb : ProbeAt w b h tg i t p s f) (x : Int) : ProbeAt (w.setCell ⟨b, 7, none⟩ (.int .i32 x)) b h tg i t p x f := heap_setCell_same w b 7 _ _ _ hb
theorem ProbeAt.set8 {w : World} {b : Nat} {h tg : Value} {i t p s f : Int} (hb : ProbeAt w b h tg i t p s f) (x : Int) : ProbeAt (w.setCell ⟨b, 8, none⟩ (.int .i32 x)) b h tg i t p s x := heap_setCell_same w b 8 _ _ _ hb

set_option maxHeartbeats 2000000 in
theorem set_none (b : Nat) (tg : Value) (i t p s f : Int) (w : World) (h : Value) (hh : h = .pointer none) (hb : ProbeAt w b h tg i t p s f) :
    Calls Try.prog 7 #[.pointer (some ⟨b, 0, none⟩)] w fun e w' => e = .returned (.tuple #[]) ∧ ProbeAt w' b h tg i (orD t 1) (orD p 10) (orD s 1) (orD f 3) ∧ Kept (fun j => j = b) w w' := by
  have HH : Hid (h = .pointer none) := hh
  clear hh
  have hbw := lt_of_some hb
  have hsb : w.heap.size ≠ b := by omega
  go_enter Try.func7, Try.ntmps7
  go_wp2
  go_region
  go_wp2
  go_loopw [3, 23] (fun _ x wr => ∃ k : Nat, k ≤ 4 ∧ x = .int .i64 k ∧ ProbeAt wr b h tg i (T1 t k) (P1 p k) (S1 s k) (F1 f k) ∧ wr.heap[w.heap.size]? = some (.cells (litCells b) 46 (0, 0)) ∧ Kept (fun j => j = b) w wr) (fun _ x _ => 4 - (intOf x).toNat)
  case atStart => exact ⟨0, by decide, rfl, hb.alloc _, heap_alloc_new w _, ((Kept.refl _ _).alloc _).drew⟩
  case round =>
    obtain ⟨k, hk, rfl, hpr, hsl, hkp⟩ := hrel
    have hbr := lt_of_some hpr
    have hsr := lt_of_some hsl
    obtain rfl | rfl | rfl | rfl | rfl : k = 0 ∨ k = 1 ∨ k = 2 ∨ k = 3 ∨ k = 4 := by omega
    · have c : wr.cell? ⟨b, 6, none⟩ = some (.int .i32 p) := hpr.cell 6
      have fz := hpr.frozen 6
      have s0 : wr.cell? ⟨w.heap.size, 0, none⟩ = some (.pointer (some ⟨b, 6, none⟩)) := cell_of_row wr _ 0 _ _ _ hsl
      have s1 : wr.cell? ⟨w.heap.size, 1, none⟩ = some (.int .i32 10) := cell_of_row wr _ 1 _ _ _ hsl
      by_cases hz : p = 0
      · subst hz
        go_wp2
        go_roundw
        case rel => exact ⟨1, by decide, rfl, (hpr.set6 10).alloc _, row_alloc (row_other hsl hsb _) _, (hkp.setCell (.inl rfl) _).alloc _⟩
        case measure => simp [intOf]
      · have hz' : (p == 0) = false := by simpa using hz
        have e : P1 p 1 = p := orD_ne 10 hz
        have E : Hid (P1 p 1 = p) := e
        clear e hz
        go_wp2
        go_roundw
        case rel => exact ⟨1, by decide, rfl, by rw [E.out]; exact hpr.alloc _, row_alloc hsl _, hkp.alloc _⟩
        case measure => simp [intOf]
    · have c : wr.cell? ⟨b, 5, none⟩ = some (.int .i32 t) := hpr.cell 5
      have fz := hpr.frozen 5
      have s0 : wr.cell? ⟨w.heap.size, 2, none⟩ = some (.pointer (some ⟨b, 5, none⟩)) := cell_of_row wr _ 2 _ _ _ hsl
      have s1 : wr.cell? ⟨w.heap.size, 3, none⟩ = some (.int .i32 1) := cell_of_row wr _ 3 _ _ _ hsl
      by_cases hz : t = 0
      · subst hz
        go_wp2
        go_roundw
        case rel => exact ⟨2, by decide, rfl, (hpr.set5 1).alloc _, row_alloc (row_other hsl hsb _) _, (hkp.setCell (.inl rfl) _).alloc _⟩
        case measure => simp [intOf]
      · have hz' : (t == 0) = false := by simpa using hz
        have e : T1 t 2 = t := orD_ne 1 hz
        have E : Hid (T1 t 2 = t) := e
        clear e hz
        go_wp2
        go_roundw
        case rel => exact ⟨2, by decide, rfl, by rw [E.out]; exact hpr.alloc _, row_alloc hsl _, hkp.alloc _⟩
        case measure => simp [intOf]
    · have c : wr.cell? ⟨b, 7, none⟩ = some (.int .i32 s) := hpr.cell 7
      have fz := hpr.frozen 7
      have s0 : wr.cell? ⟨w.heap.size, 4, none⟩ = some (.pointer (some ⟨b, 7, none⟩)) := cell_of_row wr _ 4 _ _ _ hsl
      have s1 : wr.cell? ⟨w.heap.size, 5, none⟩ = some (.int .i32 1) := cell_of_row wr _ 5 _ _ _ hsl
      by_cases hz : s = 0
      · subst hz
        go_wp2
        go_roundw
        case rel => exact ⟨3, by decide, rfl, (hpr.set7 1).alloc _, row_alloc (row_other hsl hsb _) _, (hkp.setCell (.inl rfl) _).alloc _⟩
        case measure => simp [intOf]
      · have hz' : (s == 0) = false := by simpa using hz
        have e : S1 s 3 = s := orD_ne 1 hz
        have E : Hid (S1 s 3 = s) := e
        clear e hz
        go_wp2
        go_roundw
        case rel => exact ⟨3, by decide, rfl, by rw [E.out]; exact hpr.alloc _, row_alloc hsl _, hkp.alloc _⟩
        case measure => simp [intOf]
    · have c : wr.cell? ⟨b, 8, none⟩ = some (.int .i32 f) := hpr.cell 8
      have fz := hpr.frozen 8
      have s0 : wr.cell? ⟨w.heap.size, 6, none⟩ = some (.pointer (some ⟨b, 8, none⟩)) := cell_of_row wr _ 6 _ _ _ hsl
      have s1 : wr.cell? ⟨w.heap.size, 7, none⟩ = some (.int .i32 3) := cell_of_row wr _ 7 _ _ _ hsl
      by_cases hz : f = 0
      · subst hz
        go_wp2
        go_roundw
        case rel => exact ⟨4, by decide, rfl, (hpr.set8 3).alloc _, row_alloc (row_other hsl hsb _) _, (hkp.setCell (.inl rfl) _).alloc _⟩
        case measure => simp [intOf]
      · have hz' : (f == 0) = false := by simpa using hz
        have e : F1 f 4 = f := orD_ne 3 hz
        have E : Hid (F1 f 4 = f) := e
        clear e hz
        go_wp2
        go_roundw
        case rel => exact ⟨4, by decide, rfl, by rw [E.out]; exact hpr.alloc _, row_alloc hsl _, hkp.alloc _⟩
        case measure => simp [intOf]
    · have c1 : wr.cell? ⟨b, 1, none⟩ = some (.pointer none) := by rw [← HH.out]; exact hpr.cell 1
      go_wp2
      go_end0
      exact ⟨rfl, hpr, hkp⟩
end Go.Proofs.Qxb6621667a
