/-
  'zzs2524cfresh': the contract: a new row of n versions, each fresh.
-/
import Derived.Test.YbulkazgcRows
import Derived.WalkKit
import Derived.ProofKit
import Derived.Deep.MidRow
namespace Go.Proofs.Ybulkazgc
open Go.RowKit

theorem hide {p : Prop} (h : p) : Hid p := h
theorem unhide {p : Prop} (h : Hid p) : p := h

/-- A version's nine cells. -/
def vrec (j : Nat) (val non : Int) : List Value :=
  [.int .i64 j, .int .i64 (-1), .int .i64 val, .int .i64 non, .int .i64 (-1), .int .i64 (-1), .int .i64 0, .int .i64 0, .int .i64 0]
theorem vrec_one (j : Nat) (val non : Int) : (vrec j val non).toArray.all (·.oneCell') = true := all_oneCell_toArray (by
  intro v hv
  simp only [vrec, List.mem_cons, List.not_mem_nil, or_false] at hv
  rcases hv with rfl | rfl | rfl | rfl | rfl | rfl | rfl | rfl | rfl <;> rfl)
theorem vrec_length (j : Nat) (val non : Int) : (vrec j val non).length = 9 := rfl

/-- The nine zero cells that 'make' lays. -/
def Z9 : Array Value := #[.int .i64 0, .int .i64 0, .int .i64 0, .int .i64 0, .int .i64 0, .int .i64 0, .int .i64 0, .int .i64 0, .int .i64 0]
theorem Yba.info43 : (Yba.prog.info? 43).map (fun i => (i.zero, i.size, i.bytes)) = some (some (.agg Z9), 9, 72) := by kernel_rfl
theorem Yba.size43 : (Yba.prog.info? 43).map (·.size) = some 9 := by kernel_rfl

theorem mkV (n : Nat) (hn : n ≤ 64) (w : World) : (Instr.makeSlice 29 (.int .i64 (n : Int)) (.int .i64 (n : Int))).run Yba.prog w = .ok (.slice (some ⟨w.heap.size, 0, none⟩) n n) (w.alloc (.cells (madeCells Z9 (n * 9)) 43)) := by
  obtain ⟨i0, hi, hz0, hz1, hz2⟩ := info_parts Yba.info43
  have hr := run_make (P := Yba.prog) w 29 43 i0 (.agg Z9) Yba.underlying29 hi hz0 .i64 .i64 n n (by omega) (by omega) (by rw [hz2]; omega) (by omega)
  simpa [hz1, Value.cells] using hr

/-- THE ROW of n versions in block g. -/
structure VRow (w : World) (g n : Nat) (V N : Nat → Int) : Prop where
  lt : g < w.heap.size
  at_ : ∀ j, j < n → w.rangeAt g (j * 9) (vrec j (V j) (N j))
  froz : ∀ o, w.frozen? ⟨g, o, none⟩ = false

structure Mid (w : World) (n k : Nat) (wr : World) : Prop where
  size : wr.heap.size = w.heap.size + 1
  done : ∀ j, j < k → wr.rangeAt w.heap.size (j * 9) (vrec j (-1) (-1))
  there : ∀ o, o < n * 9 → (wr.cell? ⟨w.heap.size, o, none⟩).isSome = true
  froz : ∀ o, wr.frozen? ⟨w.heap.size, o, none⟩ = false
  below : Below w.heap.size w wr

theorem Mid.start (w : World) (n : Nat) : Mid w n 0 (w.alloc (.cells (madeCells Z9 (n * 9)) 43)) where
  size := by simp
  done := fun j hj => absurd hj (Nat.not_lt_zero _)
  there := fun o ho => by simp [size_madeCells, ho]
  froz := fun o => by simp
  below := (Below.refl _ _).alloc (Nat.le_refl _) _

theorem size_cells (b : Nat) : ∀ (vs : List Value) (o : Nat) (w : World), (w.setCells b o vs).heap.size = w.heap.size
  | [], _, _ => rfl
  | v :: r, o, w => by rw [World.setCells, size_cells b r]; simp
theorem below_cells {B b : Nat} {a : World} (hb : B ≤ b) : ∀ (vs : List Value) (o : Nat) (w : World), Below B a w → Below B a (w.setCells b o vs)
  | [], _, _, h => h
  | v :: r, o, w, h => below_cells hb r (o + 1) _ (h.setCell (by exact hb) v)

theorem Mid.next {w : World} {n k : Nat} {wr : World} (h : Mid w n k wr) (hk : k < n) : Mid w n (k + 1) (wr.setCells w.heap.size (k * 9) (vrec k (-1) (-1))) where
  size := by rw [size_cells]; exact h.size
  done := fun j hj => by
    by_cases e : j = k
    · subst e
      exact World.rangeAt_setCells_same _ _ _ _ (fun i hi => ⟨h.there _ (by rw [vrec_length] at hi; omega), h.froz _⟩)
    · exact World.rangeAt_setCells_apart (h.done j (by omega)) _ _ _ (.inr (.inl (by rw [vrec_length]; omega)))
  there := fun o ho => World.isSome_setCells _ _ _ _ _ (h.there o ho)
  froz := fun o => by rw [World.frozen?_setCells]; exact h.froz o
  below := below_cells (Nat.le_refl _) _ _ _ h.below

set_option maxRecDepth 100000 in
set_option maxHeartbeats 2000000 in
theorem fresh_any (n : Nat) (hn : n ≤ 64) (w : World) :
    Calls Yba.prog 4 #[.int .i64 (n : Int)] w fun e w' => e = .returned (.slice (some ⟨w.heap.size, 0, none⟩) n n) ∧ w'.heap.size = w.heap.size + 1 ∧ Below w.heap.size w w' ∧ VRow w' w.heap.size n (fun _ => -1) (fun _ => -1) := by
  have hmk := mkV n hn
  go_enter Yba.func4, Yba.ntmps4
  go_wp2_with fail
  clear hmk
  go_loopw [4] (fun i wr => ∃ k : Nat, k ≤ n ∧ i = .int .i64 k ∧ Mid w n k wr) (fun i _ => n - (intOf i).toNat)
  case atStart => exact ⟨0, Nat.zero_le _, rfl, Mid.start w n⟩
  case round =>
    obtain ⟨k, hk, rfl, hm⟩ := hrel
    by_cases hlt : k < n
    · have hnext := hide (hm.next hlt)
      have ht : wr.there w.heap.size (k * 9) 9 := fun i hi => ⟨hm.there _ (by omega), hm.froz _⟩
      have Ht := hide ht
      clear ht hm
      go_wp2_with ((with_reducible show wpList _ _ _ ({ dst := none, op := Op.store 43 (.tmp 16) (.tmp 15), type := _, pos := _, after := _, guard := _ } :: _) _ _); refine wpList_store_mid rfl 43 (.tmp 16) (.tmp 15) rfl w.heap.size (k * 9) (vrec k (-1) (-1)).toArray (by rfl) (by rfl) (by exact unhide Ht) Yba.size43 (vrec_one _ _ _) ?_)
      go_roundw
      case rel => exact ⟨k + 1, by omega, by go_num, unhide hnext⟩
      case measure => simp [intOf]; omega
    · obtain rfl : k = n := by omega
      go_wp2_with fail
      go_ret
      exact ⟨rfl, hm.size, hm.below, ⟨by have := hm.size; omega, hm.done, hm.froz⟩⟩
end Go.Proofs.Ybulkazgc
