/-
  'LawS2522CSequence' walked.
-/
import Derived.Test.YbulkazfaQueue
namespace Go.Proofs.Ybulkazfa
open Go.RowKit Go.Conc

theorem mkChan (w : World) : (Instr.makeChan 66 (.int .i64 1)).run Yba.prog w = .ok (.chan (some w.heap.size)) (w.alloc (.chan 1 #[] false 0 0 false)) := by kernel_rfl

def ptrs (q : Nat → Nat) (k : Nat) : List Value := (List.range k).map fun i => .pointer (some ⟨q i, 0, none⟩)
def updN (q : Nat → Nat) (j h : Nat) : Nat → Nat := fun i => if i = j then h else q i
theorem updN_same (q : Nat → Nat) (j h : Nat) : updN q j h j = h := by simp [updN]
theorem updN_other (q : Nat → Nat) (j h i : Nat) (hi : i ≠ j) : updN q j h i = q i := by simp [updN, hi]
theorem ptrs_get (q : Nat → Nat) (k i : Nat) (hi : i < k) : (ptrs q k)[i]? = some (.pointer (some ⟨q i, 0, none⟩)) := by simp [ptrs, hi]
theorem ptrs_push (q : Nat → Nat) (k h : Nat) : ptrs q k ++ [.pointer (some ⟨h, 0, none⟩)] = ptrs (updN q k h) (k + 1) := by
  simp only [ptrs, List.range_succ, List.map_append, List.map_cons, List.map_nil, updN_same]
  congr 1
  apply List.map_congr_left
  intro i hi
  rw [updN_other q k h i (by have := List.mem_range.1 hi; omega)]

/-- What the loop knows: the channel lies in block B, the gateway in block B + 1. -/
structure SeqSt (B : Nat) (z : Nat → Int) (w : World) (k : Nat) (v : Value) (q : Nat → Nat) (wr : World) : Prop where
  size : B + 2 ≤ wr.heap.size
  uns : wr.cell? ⟨B + 1, 26, none⟩ = some v
  wake : wr.cell? ⟨B + 1, 28, none⟩ = some (.chan (some B))
  froz : wr.frozen? ⟨B + 1, 26, none⟩ = false
  own : wr.ownsRow (B + 2) 70 1 v k (ptrs q k)
  each : ∀ i, i < k → B + 2 ≤ q i ∧ q i < wr.heap.size ∧ some (q i) ≠ v.ownBlock ∧ wr.cell? ⟨q i, 0, none⟩ = some (.int .u32 (z i))
  chan : Wake wr (some B) B (if k = 0 then 0 else 1)
  below : Below B w wr

theorem Wake.kept {w w' : World} {cv : Option Nat} {cB n : Nat} (h : Wake w cv cB n) (hb : w'.heap[cB]? = w.heap[cB]?) : Wake w' cv cB n := by
  rcases h with h | ⟨h1, h2, buf, s, r, h3, h4⟩
  · exact .inl h
  · exact .inr ⟨h1, h2, buf, s, r, h3, hb.trans h4⟩

theorem SeqSt.next {B : Nat} {z : Nat → Int} {w : World} {k : Nat} {v : Value} {q : Nat → Nat} {wr : World} (h : SeqSt B z w k v q wr) (hk : k ≤ 1024) (arr : Array Value) (hz : arr[0]? = some (.int .u32 (z k))) :
    Calls Yba.prog 5 #[.pointer (some ⟨B + 1, 0, none⟩), .pointer (some ⟨wr.heap.size, 0, none⟩)] (wr.alloc (.cells arr 79)) fun e w' => e = .returned (.tuple #[]) ∧
      ∃ v', SeqSt B z w (k + 1) v' (updN q k wr.heap.size) w' := by
  have hs := h.size
  refine (queue_any (B + 1) (B + 2) k B (if k = 0 then 0 else 1) ⟨wr.heap.size, 0, none⟩ v (ptrs q k) (some B) (wr.alloc (.cells arr 79)) ?_ ?_ ?_ (h.own.alloc _) (by omega) (by omega) (by simp; omega) (by omega) (fun _ => by omega) (h.chan.kept (Below.heap_alloc _ _ _ (by omega)))).mono ?_
  · rw [World.cell?_alloc_past _ _ _ (by omega)]; exact h.uns
  · rw [World.cell?_alloc_past _ _ _ (by omega)]; exact h.wake
  · rw [World.frozen?_alloc_past _ _ _ (by omega)]; exact h.froz
  · rintro e w' ⟨rfl, u, cap, f1, f2, f3, f4, f5, f6, f7⟩
    have hsz := f7.size
    simp only [World.size_alloc] at hsz f5
    refine ⟨rfl, _, ⟨by omega, f1, f2, f3, by rw [← ptrs_push]; exact f4, fun i hi => ?_, by simpa using f6, ?_⟩⟩
    · have hblk : ∀ x, B + 2 ≤ x → x < wr.heap.size + 1 → some x ≠ v.ownBlock → w'.heap[x]? = (wr.alloc (.cells arr 79)).heap[x]? := fun x h1 h2 h3 => f7.block x (by simp; omega) h3 (by omega) (by omega)
      by_cases e : i = k
      · subst e
        rw [updN_same]
        have hno : some wr.heap.size ≠ v.ownBlock := fun e => by have := (h.own.lt _ e.symm).2; omega
        refine ⟨by omega, by omega, ?_, ?_⟩
        · simp only [Value.ownBlock, ne_eq, Option.some.injEq]
          rcases f5 with e | e
          · intro e'; exact hno (by rw [e']; exact e)
          · omega
        · rw [World.cell?_of_block (a := ⟨wr.heap.size, 0, none⟩) (hblk wr.heap.size (by omega) (by omega) hno), World.cell?_alloc_at _ _ _ _ rfl]; exact hz
      · rw [updN_other q k _ i e]
        obtain ⟨g1, g2, g3, g4⟩ := h.each i (by omega)
        refine ⟨g1, by omega, ?_, ?_⟩
        · simp only [Value.ownBlock, ne_eq, Option.some.injEq]
          rcases f5 with e | e
          · intro e'; exact g3 (by rw [e']; exact e)
          · omega
        · rw [World.cell?_of_block (a := ⟨q i, 0, none⟩) (hblk (q i) g1 (by omega) g3), World.cell?_alloc_past _ _ _ g2]; exact g4
    · refine h.below.trans ⟨f7.os, f7.tape, f7.output, by omega, fun x hx => ?_⟩
      rw [f7.block x (by simp; omega) (fun e => by have := (h.own.lt x e.symm).1; omega) (by omega) (by omega)]
      exact Below.heap_alloc _ _ _ (by omega)

theorem row_form {w : World} {base k : Nat} {q : Nat → Nat} {v : Value} (h : w.ownsRow base 70 1 v k (ptrs q k)) :
    ∃ ao c, v = .slice ao k c ∧ Hid (∀ i, i < k → ∃ u : Nat, ao = some ⟨u, 0, none⟩ ∧ w.cell? ⟨u, i, none⟩ = some (.pointer (some ⟨q i, 0, none⟩))) := by
  have h' := h
  rcases h.2 with ⟨rfl, rfl⟩ | ⟨g, cap, cur, rfl, _⟩
  · exact ⟨none, 0, rfl, fun i hi => absurd hi (Nat.not_lt_zero _)⟩
  · exact ⟨some ⟨g, 0, none⟩, cap, rfl, fun i hi => ⟨g, rfl, by rw [h'.cellAt i (by omega), ptrs_get q k i hi]⟩⟩

theorem seq_start (z : Nat → Int) (w : World) (arr : Array Value) (h26 : arr[26]? = some (.slice none 0 0)) (h28 : arr[28]? = some (.chan (some w.heap.size))) :
    SeqSt w.heap.size z w 0 (.slice none 0 0) (fun _ => 0) ((w.alloc (.chan 1 #[] false 0 0 false)).alloc (.cells arr 69)) where
  size := by simp
  uns := by rw [World.cell?_alloc_at _ _ _ _ (by simp)]; exact h26
  wake := by rw [World.cell?_alloc_at _ _ _ _ (by simp)]; exact h28
  froz := by rw [World.frozen?_alloc_at _ _ _ _ (by simp)]
  own := World.ownsRow_nil _ _ _ _
  each := fun i hi => absurd hi (Nat.not_lt_zero _)
  chan := .inr ⟨rfl, by simp, #[], 0, 0, rfl, by rw [Below.heap_alloc _ _ _ (by simp)]; exact heap_alloc_new w _⟩
  below := ((Below.refl _ _).alloc (Nat.le_refl _) _).alloc (by simp) _

set_option maxRecDepth 100000 in
set_option maxHeartbeats 2000000 in
theorem seq_core (a0 : Option Addr) (len cap : Nat) (z : Nat → Int) (w : World) (hlen : len ≤ 1024)
    (hz : ∀ i, i < len → ∃ bb off : Nat, a0 = some ⟨bb, off, none⟩ ∧ bb < w.heap.size ∧ w.cell? ⟨bb, off + i, none⟩ = some (.int .u32 (z i))) :
    Calls Yba.prog 4 #[.slice a0 len cap] w fun e w' => e = .returned (.bool true) ∧ Below w.heap.size w w' := by
  have hmk := mkChan
  have hd : decide (1024 < (len : Int)) = false := decide_eq_false (by omega)
  have Hz := hide hz
  clear hz
  go_enter Yba.func4, Yba.ntmps4
  go_wp2_with fail
  clear hmk hd
  go_loopw [17] (fun i wr => ∃ (k : Nat) (v : Value) (q : Nat → Nat), k ≤ len ∧ i = .int .i64 k ∧ SeqSt w.heap.size z w k v q wr) (fun i _ => len - (intOf i).toNat)
  case atStart => exact ⟨0, _, fun _ => 0, Nat.zero_le _, rfl, seq_start z w _ rfl rfl⟩
  case round =>
    obtain ⟨k, v, q, hk, rfl, hst⟩ := hrel
    by_cases hlt : k < len
    · obtain ⟨bb, off, rfl, hbb, hc0⟩ := unhide Hz k hlt
      have hc := (hst.below.cell (p := ⟨bb, off + k, none⟩) hbb).trans hc0
      clear hc0
      go_wp2_with fail
      refine (hst.next (by omega) _ rfl).mono ?_
      rintro e w1 ⟨rfl, v1, hst1⟩
      go_wp2_with fail
      go_roundw
      case rel => exact ⟨k + 1, v1, _, by omega, by go_num, hst1⟩
      case measure => simp [intOf]; omega
    · obtain rfl : k = len := by omega
      obtain ⟨ao, c, rfl, hcell⟩ := row_form hst.own
      have hu := hst.uns
      have hwk := hst.wake
      have hch := hide hst.chan
      have hea := hide hst.each
      have hbel := hst.below
      have Hbel := hide hbel
      have hnn : ((k : Int) != (k : Int)) = false := by simp
      clear hst hlt
      go_wp2_with fail
      go_loop [37] (fun i => ∃ j : Nat, j ≤ k ∧ i = .int .i64 j) (fun i => k - (intOf i).toNat)
      case atStart => exact ⟨0, Nat.zero_le _, rfl⟩
      case round =>
        obtain ⟨j, hj, rfl⟩ := hrel
        by_cases hjk : j < k
        · obtain ⟨u, rfl, hp⟩ := unhide hcell j hjk
          obtain ⟨g1, g2, g3, g4⟩ := unhide hea j hjk
          obtain ⟨bb, off, rfl, hbb, hc0⟩ := unhide Hz j hjk
          have hc := (hbel.cell (p := ⟨bb, off + j, none⟩) hbb).trans hc0
          have hzz : (z j != z j) = false := by simp
          clear hc0 g1 g2 g3 hbb
          go_wp2_with fail
          go_round
          case rel => exact ⟨j + 1, by omega, by go_num⟩
          case measure => simp [intOf]; omega
        · obtain rfl : j = k := by omega
          rcases unhide hch with ⟨h, _⟩ | ⟨_, _, buf, s, r, hbuf, hblk⟩
          · cases h
          · have hcl := fun ty => run_len_chan (P := Yba.prog) 66 ty Yba.underlying66 hblk
            by_cases hj0 : j = 0
            · subst hj0
              rw [if_pos rfl] at hbuf
              rw [hbuf] at hcl
              have Hb := hide hblk
              clear hblk hbuf
              go_wp2_with fail
              go_ret
              exact ⟨rfl, hbel⟩
            · rw [if_neg hj0] at hbuf
              rw [hbuf] at hcl
              have hpos : (0 : Int) < (j : Int) := by omega
              have Hb := hide hblk
              clear hblk hbuf
              go_wp2_with fail
              go_ret
              exact ⟨rfl, hbel⟩
end Go.Proofs.Ybulkazfa
