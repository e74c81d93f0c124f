/-
  THE FINDER IN MEMORY: what the law's loop knows of the world, and 'add' by it.
-/
import Derived.Test.YbulkazdyPlain
namespace Go.Proofs.Ybulkazdy
open Go.RowKit

/-- The table lies in block B, the finder in block B + 1. -/
structure St (B n : Nat) (s : Int) (T : Nat → Int) (zr d : Bool) (w : World) : Prop where
  size : B + 2 ≤ w.heap.size
  tab : w.cell? ⟨B + 1, 2, none⟩ = some (.slice (some ⟨B, 0, none⟩) n n)
  sh : w.cell? ⟨B + 1, 3, none⟩ = some (.int .i64 s)
  zero : w.cell? ⟨B + 1, 4, none⟩ = some (.bool zr)
  dirty : w.cell? ⟨B + 1, 5, none⟩ = some (.bool d)
  fz : ∀ o, w.frozen? ⟨B + 1, o, none⟩ = false
  cells : ∀ i, i < n → w.cell? ⟨B, i, none⟩ = some (.int .u64 (T i))
  ft : ∀ o, w.frozen? ⟨B, o, none⟩ = false

/-- All but the blocks B and B + 1 is as it was. -/
structure Keep (B : Nat) (w w' : World) : Prop where
  os : w'.os = w.os
  tape : w'.tape = w.tape
  output : w'.output = w.output
  size : w'.heap.size = w.heap.size
  block : ∀ k, k ≠ B → k ≠ B + 1 → w'.heap[k]? = w.heap[k]?

theorem Keep.refl (B : Nat) (w : World) : Keep B w w := ⟨rfl, rfl, rfl, rfl, fun _ _ _ => rfl⟩
theorem Keep.setCell {B : Nat} {w w' : World} (h : Keep B w w') (a : Addr) (ha : a.block = B ∨ a.block = B + 1) (v : Value) : Keep B w (w'.setCell a v) :=
  ⟨h.os, h.tape, h.output, by rw [World.size_setCell]; exact h.size, fun k h1 h2 => by rw [Below.heap_setCell _ _ _ _ (by omega)]; exact h.block k h1 h2⟩
theorem Keep.below {B : Nat} {a w w' : World} (h : Keep B w w') (hb : Below B a w) : Below B a w' :=
  hb.trans ⟨h.os, h.tape, h.output, by rw [h.size]; exact Nat.le_refl _, fun k hk => h.block k (by omega) (by omega)⟩
theorem Keep.owns {B : Nat} {w w' : World} (h : Keep B w w') {e : TypeId} {size : Nat} {v : Value} {n : Nat} {xs : List Value} (ho : w.ownsRow (B + 2) e size v n xs) : w'.ownsRow (B + 2) e size v n xs := by
  refine ⟨ho.1, ?_⟩
  rcases ho.2 with hn | ⟨g, cap, cur, rfl, hb, hgg, rest⟩
  · exact .inl hn
  · exact .inr ⟨g, cap, cur, rfl, hb, by rw [h.block g (by omega) (by omega)]; exact hgg, rest⟩

theorem cell_far {w : World} {a b : Addr} (v : Value) (h : a ≠ b) : (w.setCell a v).cell? b = w.cell? b := by
  rw [World.cell?_setCell_other]; exact h
section
variable {B n : Nat} {s : Int} {T : Nat → Int} {zr d : Bool} {w : World}
theorem St.setDirty (h : St B n s T zr d w) : St B n s T zr true (w.setCell ⟨B + 1, 5, none⟩ (.bool true)) where
  size := by rw [World.size_setCell]; exact h.size
  tab := (cell_far _ (by simp)).trans (h.tab)
  sh := (cell_far _ (by simp)).trans (h.sh)
  zero := (cell_far _ (by simp)).trans (h.zero)
  dirty := World.cell?_setCell_same _ _ _ h.dirty
  fz := fun o => by rw [World.frozen?_setCell]; exact h.fz o
  cells := fun i hi => (cell_far _ (by simp)).trans (h.cells i hi)
  ft := fun o => by rw [World.frozen?_setCell]; exact h.ft o
theorem St.setZero (h : St B n s T zr d w) : St B n s T true d (w.setCell ⟨B + 1, 4, none⟩ (.bool true)) where
  size := by rw [World.size_setCell]; exact h.size
  tab := (cell_far _ (by simp)).trans (h.tab)
  sh := (cell_far _ (by simp)).trans (h.sh)
  zero := World.cell?_setCell_same _ _ _ h.zero
  dirty := (cell_far _ (by simp)).trans (h.dirty)
  fz := fun o => by rw [World.frozen?_setCell]; exact h.fz o
  cells := fun i hi => (cell_far _ (by simp)).trans (h.cells i hi)
  ft := fun o => by rw [World.frozen?_setCell]; exact h.ft o
theorem St.setSlot (h : St B n s T zr d w) (j : Nat) (hj : j < n) (x : Int) : St B n s (upd T j x) zr d (w.setCell ⟨B, j, none⟩ (.int .u64 x)) where
  size := by rw [World.size_setCell]; exact h.size
  tab := (cell_far _ (by simp)).trans (h.tab)
  sh := (cell_far _ (by simp)).trans (h.sh)
  zero := (cell_far _ (by simp)).trans (h.zero)
  dirty := (cell_far _ (by simp)).trans (h.dirty)
  fz := fun o => by rw [World.frozen?_setCell]; exact h.fz o
  cells := fun i hi => by
    by_cases e : i = j
    · subst e; rw [upd_same]; exact World.cell?_setCell_same _ _ _ (h.cells i hi)
    · rw [upd_other T j i x e]; exact (cell_far _ (fun e' => e (by cases e'; rfl))).trans (h.cells i hi)
  ft := fun o => by rw [World.frozen?_setCell]; exact h.ft o
theorem St.grown (h : St B n s T zr d w) {w' : World} (hb : Below (B + 2) w w') : St B n s T zr d w' where
  size := Nat.le_trans h.size hb.size
  tab := by rw [hb.cell (by simp)]; exact h.tab
  sh := by rw [hb.cell (by simp)]; exact h.sh
  zero := by rw [hb.cell (by simp)]; exact h.zero
  dirty := by rw [hb.cell (by simp)]; exact h.dirty
  fz := fun o => by rw [hb.frozen (by simp)]; exact h.fz o
  cells := fun i hi => by rw [hb.cell (by simp)]; exact h.cells i hi
  ft := fun o => by rw [hb.frozen (by simp)]; exact h.ft o
end

theorem addz (B n : Nat) (s : Int) (T : Nat → Int) (zr d : Bool) (w : World) (h : St B n s T zr d w) :
    Calls Yba.prog 4 #[.pointer (some ⟨B + 1, 0, none⟩), .int .u64 0] w fun e w' => e = .returned (.bool (!zr)) ∧ St B n s T true true w' ∧ Keep B w w' := by
  refine (add_zero (B + 1) zr d w h.zero h.dirty (h.fz 4) (h.fz 5)).mono ?_
  rintro e w' ⟨rfl, rfl⟩
  exact ⟨rfl, h.setDirty.setZero, ((Keep.refl _ _).setCell _ (.inr rfl) _).setCell _ (.inr rfl) _⟩

/-- The home slot of a hash. -/
def home (s : Int) (h : Int) : Nat := (h / 2 ^ s.toNat).toNat

theorem addn (B n : Nat) (s : Int) (T S : Nat → Int) (m : Nat) (zr d : Bool) (w : World) (h : St B n s T zr d w) (I : Inv n (home s) T S m) (x : Int)
    (x0 : 0 < x) (x1 : x < 18446744073709551616) (s0 : 58 ≤ s) (s1 : s ≤ 64) (hn : n = 1 ∨ n = 2 ∨ n = 4 ∨ n = 8 ∨ n = 16 ∨ n = 32 ∨ n = 64) (hh : home s x < n)
    (hroom : hasB S m x = false → m < n) :
    Calls Yba.prog 4 #[.pointer (some ⟨B + 1, 0, none⟩), .int .u64 x] w fun e w' => e = .returned (.bool (!hasB S m x)) ∧ Keep B w w' ∧
      ∃ T', St B n s T' zr true w' ∧ Inv n (home s) T' (if hasB S m x then S else upd S m x) (if hasB S m x then m else m + 1) := by
  have hc : x / 2 ^ s.toNat = (home s x : Int) := by
    unfold home
    rw [Int.toNat_of_nonneg (Int.ediv_nonneg (by omega) (Int.pow_nonneg (by decide)))]
  cases hin : hasB S m x with
  | true =>
    obtain ⟨q, hq, e, p⟩ := I.find x hin
    refine (add_walk true (B + 1) B n (home s x) q T s x d w (by omega) x0 x1 s0 s1 hn hh hc hq p h.dirty h.tab h.sh (h.fz 5) h.cells (fun i _ => h.ft i) e).mono ?_
    rintro e w' ⟨rfl, rfl⟩
    exact ⟨rfl, (Keep.refl _ _).setCell _ (.inr rfl) _, T, h.setDirty, I⟩
  | false =>
    obtain ⟨q, hq, e, p⟩ := I.free x hh hin (hroom hin)
    refine (add_walk false (B + 1) B n (home s x) q T s x d w (by omega) x0 x1 s0 s1 hn hh hc hq p h.dirty h.tab h.sh (h.fz 5) h.cells (fun i _ => h.ft i) e).mono ?_
    rintro e' w' ⟨rfl, rfl⟩
    simp only [Bool.false_eq_true, if_false]
    exact ⟨trivial, ((Keep.refl B w).setCell _ (.inr rfl) _).setCell ⟨B, _, none⟩ (.inl rfl) _, _, h.setDirty.setSlot _ (Nat.mod_lt _ (by omega)) x, I.put x x0 x1 q hq e p⟩
end Go.Proofs.Ybulkazdy
