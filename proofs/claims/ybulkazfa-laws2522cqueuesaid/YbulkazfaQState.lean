/-
  'LawS2522CQueue': what its loops know of the world; each step outside the walk.
-/
import Derived.Test.YbulkazfaSeq
import Derived.Deep.OwnRows
import Derived.Deep.QuietTactic
import Derived.Lib.Builder
namespace Go.Proofs.Ybulkazfa
open Go.RowKit Go.Conc

theorem mkPrior (len : Nat) (h : len ≤ 1024) (w : World) : (Instr.makeSlice 64 (.int .i64 0) (.int .i64 (len : Int))).run Yba.prog w = .ok (.slice (some ⟨w.heap.size, 0, none⟩) 0 len) (w.alloc (.cells (madeCells #[.pointer none] len) 70)) := by
  obtain ⟨i0, hi, hz0, hz1, hz2⟩ := info_parts Yba.info70
  have hr := run_make (P := Yba.prog) w 64 70 i0 (.pointer none) Yba.underlying64 hi hz0 .i64 .i64 0 len (by omega) (by omega) (by rw [hz2]; omega) (by omega)
  simpa [hz1, Value.cells] using hr

theorem Yba.info79 : ((Yba.prog.info? 79).map (·.size)).isSome = true := by kernel_rfl
theorem neq70 (a : Addr) (w : World) : (binOp .neq 70 (.pointer (some a)) (.pointer (some a))).run Yba.prog w = .ok (.bool false) w := by
  cases h : Yba.prog.info? 79 with
  | none => have := Yba.info79; simp [h] at this
  | some j => exact Lib.run_neq_ptr_same w a Yba.underlying70 h
theorem lenNil (ty : TypeId) (w : World) : (Builtin.len_ #[66] ty #[.chan none]).run Yba.prog w = .ok (goInt 0) w := by kernel_rfl

/-- Ahead of the loops: the gateway lies in block B. -/
structure Pre (B : Nat) (cv : Option Nat) (cB n : Nat) (w w0 : World) : Prop where
  size : B + 1 ≤ w0.heap.size
  uns : w0.cell? ⟨B, 26, none⟩ = some (.slice none 0 0)
  wake : w0.cell? ⟨B, 28, none⟩ = some (.chan cv)
  froz : w0.frozen? ⟨B, 26, none⟩ = false
  chan : Wake w0 cv cB n
  cb : cB < w0.heap.size
  cbl : B ≤ cB
  gc : cv = some cB → B ≠ cB
  below : Below B w w0

theorem pre_chan (w : World) (arr : Array Value) (h26 : arr[26]? = some (.slice none 0 0)) (h28 : arr[28]? = some (.chan (some (w.heap.size + 1)))) :
    Pre w.heap.size (some (w.heap.size + 1)) (w.heap.size + 1) 0 w ((w.alloc (.cells arr 69)).alloc (.chan 1 #[] false 0 0 false)) where
  size := by simp
  uns := by rw [World.cell?_alloc_past _ _ _ (by simp), World.cell?_alloc_at _ _ _ _ rfl]; exact h26
  wake := by rw [World.cell?_alloc_past _ _ _ (by simp), World.cell?_alloc_at _ _ _ _ rfl]; exact h28
  froz := by rw [World.frozen?_alloc_past _ _ _ (by simp), World.frozen?_alloc_at _ _ _ _ rfl]
  chan := .inr ⟨rfl, by omega, #[], 0, 0, rfl, by have := heap_alloc_new (w.alloc (.cells arr 69)) (.chan 1 #[] false 0 0 false); simpa only [World.size_alloc] using this⟩
  cb := by simp
  cbl := by omega
  gc := fun _ => by omega
  below := ((Below.refl _ _).alloc (Nat.le_refl _) _).alloc (by simp) _

theorem pre_sent {B cB : Nat} {w W : World} (h : Pre B (some cB) cB 0 w W) (buf : Array Value) (s r : Nat) (hb : buf.size = 1) : Pre B (some cB) cB 1 w (W.setChan cB 1 buf false s r false) := by
  have hne := h.gc rfl
  have hbB : (W.setChan cB 1 buf false s r false).heap[B]? = W.heap[B]? := setChan_block _ _ _ _ _ _ _ _ _ (fun e => hne e.symm)
  refine ⟨by rw [size_setChan]; exact h.size, ?_, ?_, ?_, .inr ⟨rfl, by omega, buf, s, r, hb, heap_setChan _ _ _ _ _ _ _ _ h.cb⟩, by rw [size_setChan]; exact h.cb, h.cbl, h.gc, below_setChan h.below h.cbl _ _ _ _ _ _⟩
  · rw [World.cell?_of_block (a := ⟨B, 26, none⟩) hbB]; exact h.uns
  · rw [World.cell?_of_block (a := ⟨B, 28, none⟩) hbB]; exact h.wake
  · rw [World.frozen?_of_block (a := ⟨B, 26, none⟩) hbB]; exact h.froz

theorem pre_none (w : World) (arr : Array Value) (h26 : arr[26]? = some (.slice none 0 0)) (h28 : arr[28]? = some (.chan none)) :
    Pre w.heap.size none w.heap.size 0 w (w.alloc (.cells arr 69)) where
  size := by simp
  uns := by rw [World.cell?_alloc_at _ _ _ _ rfl]; exact h26
  wake := by rw [World.cell?_alloc_at _ _ _ _ rfl]; exact h28
  froz := by rw [World.frozen?_alloc_at _ _ _ _ rfl]
  chan := .inl ⟨rfl, rfl⟩
  cb := by simp
  cbl := Nat.le_refl _
  gc := fun e => by cases e
  below := (Below.refl _ _).alloc (Nat.le_refl _) _

/-- The first loop: the row 'prior' lies in block p, the k commands behind it. -/
structure P1 (B p len : Nat) (cv : Option Nat) (cB n : Nat) (z : Nat → Int) (w : World) (k : Nat) (q : Nat → Nat) (wr : World) : Prop where
  gsz : B + 1 ≤ p
  psz : p < wr.heap.size
  uns : wr.cell? ⟨B, 26, none⟩ = some (.slice none 0 0)
  wake : wr.cell? ⟨B, 28, none⟩ = some (.chan cv)
  froz : wr.frozen? ⟨B, 26, none⟩ = false
  own : wr.ownsRow p 70 1 (.slice (some ⟨p, 0, none⟩) k len) k (ptrs q k)
  each : ∀ i, i < k → p < q i ∧ q i < wr.heap.size ∧ wr.cell? ⟨q i, 0, none⟩ = some (.int .u32 (z i))
  chan : Wake wr cv cB n
  cb : cB < p
  cbl : B ≤ cB
  gc : cv = some cB → B ≠ cB
  below : Below B w wr

theorem P1.start {B p len : Nat} {cv : Option Nat} {cB n : Nat} {w w0 : World} (z : Nat → Int) (h : Pre B cv cB n w w0) (hp : w0.heap.size = p) (hl : len ≤ 1024) :
    P1 B p len cv cB n z w 0 (fun _ => 0) (w0.alloc (.cells (madeCells #[.pointer none] len) 70)) := by
  subst hp
  have hs := h.size
  refine ⟨hs, by simp, ?_, ?_, ?_, ?_, fun i hi => absurd hi (Nat.not_lt_zero _), h.chan.kept (Below.heap_alloc _ _ _ h.cb), h.cb, h.cbl, h.gc, h.below.alloc (by omega) _⟩
  · rw [World.cell?_alloc_past _ _ _ (by omega)]; exact h.uns
  · rw [World.cell?_alloc_past _ _ _ (by omega)]; exact h.wake
  · rw [World.frozen?_alloc_past _ _ _ (by omega)]; exact h.froz
  · exact World.ownsRow_made _ _ len (Nat.le_refl _) (by unfold maxLen; omega) (by rw [size_madeCells]; omega)

theorem P1.next {B p len : Nat} {cv : Option Nat} {cB n : Nat} {z : Nat → Int} {w : World} {k : Nat} {q : Nat → Nat} {wr w1 : World} (h : P1 B p len cv cB n z w k q wr) (arr : Array Value) (hz : arr[0]? = some (.int .u32 (z k))) (X : Obj)
    (hown : w1.ownsRow p 70 1 (.slice (some ⟨p, 0, none⟩) (k + 1) len) (k + 1) (ptrs q k ++ [.pointer (some ⟨wr.heap.size, 0, none⟩)])) (hg : ((wr.alloc (.cells arr 79)).alloc X).grownBy w1 (some p)) :
    P1 B p len cv cB n z w (k + 1) (updN q k wr.heap.size) w1 := by
  have hps := h.psz
  have hgs := h.gsz
  have hsz : wr.heap.size + 2 ≤ w1.heap.size := by have := hg.size; simp only [World.size_alloc] at this; omega
  have hblk : ∀ x, x < wr.heap.size → x ≠ p → w1.heap[x]? = wr.heap[x]? := fun x h1 h2 => by
    rw [hg.block x (by simp only [World.size_alloc]; omega) (by simpa using h2), Below.heap_alloc _ _ _ (by simp only [World.size_alloc]; omega), Below.heap_alloc _ _ _ h1]
  have hcell : ∀ x o, x < wr.heap.size → x ≠ p → w1.cell? ⟨x, o, none⟩ = wr.cell? ⟨x, o, none⟩ := fun x o h1 h2 => World.cell?_of_block (a := ⟨x, o, none⟩) (hblk x h1 h2)
  refine ⟨hgs, by omega, ?_, ?_, ?_, by rw [← ptrs_push]; exact hown, fun i hi => ?_, h.chan.kept (hblk _ (by have := h.cb; omega) (by have := h.cb; omega)), h.cb, h.cbl, h.gc, h.below.trans ⟨hg.os, hg.tape, hg.output, by omega, fun x hx => hblk x (by omega) (by omega)⟩⟩
  · rw [hcell B 26 (by omega) (by omega)]; exact h.uns
  · rw [hcell B 28 (by omega) (by omega)]; exact h.wake
  · rw [World.frozen?_of_block (a := ⟨B, 26, none⟩) (hblk B (by omega) (by omega))]; exact h.froz
  · by_cases e : i = k
    · subst e
      rw [updN_same]
      refine ⟨hps, by omega, ?_⟩
      have hb : w1.heap[wr.heap.size]? = (wr.alloc (.cells arr 79)).heap[wr.heap.size]? := by
        rw [hg.block _ (by simp only [World.size_alloc]; omega) (by simp only [ne_eq, Option.some.injEq]; omega), Below.heap_alloc _ _ _ (by simp only [World.size_alloc]; omega)]
      rw [World.cell?_of_block (a := ⟨wr.heap.size, 0, none⟩) hb, World.cell?_alloc_at _ _ _ _ rfl]
      exact hz
    · rw [updN_other q k _ i e]
      obtain ⟨g1, g2, g3⟩ := h.each i (by omega)
      exact ⟨g1, by omega, by rw [hcell _ 0 g2 (by omega)]; exact g3⟩

/-- The second loop: 'unsent' grows, behind block D. -/
structure P2 (B D : Nat) (cv : Option Nat) (q : Nat → Nat) (w1 : World) (k : Nat) (v : Value) (wr : World) : Prop where
  bd : B < D
  size : D ≤ wr.heap.size
  uns : wr.cell? ⟨B, 26, none⟩ = some v
  wake : wr.cell? ⟨B, 28, none⟩ = some (.chan cv)
  froz : wr.frozen? ⟨B, 26, none⟩ = false
  own : wr.ownsRow D 70 1 v k (ptrs q k)
  os : wr.os = w1.os
  tape : wr.tape = w1.tape
  output : wr.output = w1.output
  kept : ∀ x, x < D → x ≠ B → wr.heap[x]? = w1.heap[x]?

theorem P2.start {B p len : Nat} {cv : Option Nat} {cB n : Nat} {z : Nat → Int} {w : World} {k : Nat} {q : Nat → Nat} {w1 : World} (h : P1 B p len cv cB n z w k q w1) : P2 B w1.heap.size cv q w1 0 (.slice none 0 0) w1 :=
  ⟨by have := h.gsz; have := h.psz; omega, Nat.le_refl _, h.uns, h.wake, h.froz, World.ownsRow_nil _ _ _ _, rfl, rfl, rfl, fun _ _ _ => rfl⟩

theorem ptrs_succ (q : Nat → Nat) (k : Nat) : ptrs q k ++ [.pointer (some ⟨q k, 0, none⟩)] = ptrs q (k + 1) := by
  simp [ptrs, List.range_succ]

section
variable {B D : Nat} {cv : Option Nat} {q : Nat → Nat} {w1 : World} {k : Nat} {v : Value} {wr w2 : World}
theorem P2.blk (h : P2 B D cv q w1 k v wr) (X : Obj) (hg : (wr.alloc X).grownBy w2 v.ownBlock) (x : Nat) (hx : x < D) : w2.heap[x]? = wr.heap[x]? := by
  have hs := h.size
  rw [hg.block x (by simp only [World.size_alloc]; omega) (fun e => by have := (h.own.lt x e.symm).1; omega), Below.heap_alloc _ _ _ (by omega)]
theorem P2.next (h : P2 B D cv q w1 k v wr) (X : Obj) (hg : (wr.alloc X).grownBy w2 v.ownBlock) (u cap : Nat)
    (hown : w2.ownsRow D 70 1 (.slice (some ⟨u, 0, none⟩) (k + 1) cap) (k + 1) (ptrs q k ++ [.pointer (some ⟨q k, 0, none⟩)])) :
    P2 B D cv q w1 (k + 1) (.slice (some ⟨u, 0, none⟩) (k + 1) cap) (w2.setCell ⟨B, 26, none⟩ (.slice (some ⟨u, 0, none⟩) (k + 1) cap)) := by
  have hs := h.size
  have hbd := h.bd
  have hsz : wr.heap.size + 1 ≤ w2.heap.size := by have := hg.size; simpa only [World.size_alloc] using this
  have hb := h.blk X hg
  refine ⟨hbd, by rw [World.size_setCell]; omega, ?_, ?_, ?_, ?_, hg.os.trans h.os, hg.tape.trans h.tape, hg.output.trans h.output, fun x hx hne => ?_⟩
  · refine World.cell?_setCell_same (u := v) _ _ _ ?_
    rw [World.cell?_of_block (a := ⟨B, 26, none⟩) (hb B hbd)]; exact h.uns
  · rw [World.cell?_setCell_other]
    · rw [World.cell?_of_block (a := ⟨B, 28, none⟩) (hb B hbd)]; exact h.wake
    · simp
  · rw [World.frozen?_setCell, World.frozen?_of_block (a := ⟨B, 26, none⟩) (hb B hbd)]; exact h.froz
  · rw [← ptrs_succ]; exact ownsRow_setCell_below hown hbd _
  · rw [Below.heap_setCell _ _ _ _ hne, hb x hx]; exact h.kept x hx hne
end

/-- Behind the call of 'queue'. -/
structure P3 (B p len : Nat) (cv : Option Nat) (cB H u cap : Nat) (z : Nat → Int) (id : Int) (w : World) (q : Nat → Nat) (w' : World) : Prop where
  uns : w'.cell? ⟨B, 26, none⟩ = some (.slice (some ⟨u, 0, none⟩) (len + 1) cap)
  wake : w'.cell? ⟨B, 28, none⟩ = some (.chan cv)
  unsAt : ∀ i, i < len → w'.cell? ⟨u, i, none⟩ = some (.pointer (some ⟨q i, 0, none⟩))
  unsLast : w'.cell? ⟨u, len, none⟩ = some (.pointer (some ⟨H, 0, none⟩))
  prior : ∀ i, i < len → w'.cell? ⟨p, i, none⟩ = some (.pointer (some ⟨q i, 0, none⟩))
  each : ∀ i, i < len → w'.cell? ⟨q i, 0, none⟩ = some (.int .u32 (z i))
  last : w'.cell? ⟨H, 0, none⟩ = some (.int .u32 id)
  chan : Wake w' cv cB (if cv = none then 0 else 1)
  below : Below B w w'

theorem P3.make {B p len : Nat} {cv : Option Nat} {cB n : Nat} {z : Nat → Int} {id : Int} {w : World} {q : Nat → Nat} {w1 wr : World} {v : Value} (h : P1 B p len cv cB n z w len q w1) (h2 : P2 B w1.heap.size cv q w1 len v wr) (hl : len ≤ 1024)
    (arr : Array Value) (hz : arr[0]? = some (.int .u32 id)) :
    Calls Yba.prog 5 #[.pointer (some ⟨B, 0, none⟩), .pointer (some ⟨wr.heap.size, 0, none⟩)] (wr.alloc (.cells arr 79)) fun e w' => e = .returned (.tuple #[]) ∧
      ∃ u cap : Nat, P3 B p len cv cB wr.heap.size u cap z id w q w' := by
  have hgs := h.gsz
  have hps := h.psz
  have hcb := h.cb
  have hs := h2.size
  have hne : cv = some cB → cB ≠ B := fun e => (h.gc e).symm
  have hchan : Wake (wr.alloc (.cells arr 79)) cv cB n := by
    rcases h.chan with hx | ⟨hc, hn, buf, s, r, hb1, hb2⟩
    · exact .inl hx
    · refine .inr ⟨hc, hn, buf, s, r, hb1, ?_⟩
      rw [Below.heap_alloc _ _ _ (by omega), h2.kept cB (by omega) (hne hc)]
      exact hb2
  refine (queue_any B w1.heap.size len cB n ⟨wr.heap.size, 0, none⟩ v (ptrs q len) cv (wr.alloc (.cells arr 79)) ?_ ?_ ?_ (h2.own.alloc _) h2.bd (by omega) (by simp only [World.size_alloc]; omega) (by omega) h.gc hchan).mono ?_
  · rw [World.cell?_alloc_past _ _ _ (by omega)]; exact h2.uns
  · rw [World.cell?_alloc_past _ _ _ (by omega)]; exact h2.wake
  · rw [World.frozen?_alloc_past _ _ _ (by omega)]; exact h2.froz
  · rintro e w' ⟨rfl, u, cap, f1, f2, f3, f4, f5, f6, f7⟩
    have hsz := f7.size
    simp only [World.size_alloc] at hsz f5
    -- a block of the first loop's, neither the gateway's nor the channel's
    have hold : ∀ x, x < w1.heap.size → x ≠ B → x ≠ cB → w'.heap[x]? = w1.heap[x]? := fun x hx hxb hxc => by
      rw [f7.block x (by simp only [World.size_alloc]; omega) (fun e => by have := (h2.own.lt x e.symm).1; omega) hxb hxc, Below.heap_alloc _ _ _ (by omega), h2.kept x hx hxb]
    have hH : w'.heap[wr.heap.size]? = (wr.alloc (.cells arr 79)).heap[wr.heap.size]? :=
      f7.block _ (by simp) (fun e => by have := (h2.own.lt _ e.symm).2; omega) (by omega) (by omega)
    refine ⟨rfl, u, cap, ⟨f1, f2, fun i hi => ?_, ?_, fun i hi => ?_, fun i hi => ?_, ?_, f6, ?_⟩⟩
    · rw [f4.cellAt i (by omega), List.getElem?_append_left (by simp [ptrs]; omega), ptrs_get q len i hi]
    · rw [f4.cellAt len (by omega), List.getElem?_append_right (by simp [ptrs])]
      simp [ptrs]
    · rw [World.cell?_of_block (a := ⟨p, i, none⟩) (hold p hps (by omega) (by omega)), h.own.cellAt i (by omega), ptrs_get q len i hi]
    · obtain ⟨g1, g2, g3⟩ := h.each i hi
      rw [World.cell?_of_block (a := ⟨q i, 0, none⟩) (hold (q i) g2 (by omega) (by omega))]
      exact g3
    · rw [World.cell?_of_block (a := ⟨wr.heap.size, 0, none⟩) hH, World.cell?_alloc_at _ _ _ _ rfl]
      exact hz
    · refine h.below.trans ⟨f7.os.trans h2.os, f7.tape.trans h2.tape, f7.output.trans h2.output, by omega, fun x hx => ?_⟩
      exact hold x (by omega) (by omega) (by have := h.cbl; omega)

theorem P3.drewN {B p len : Nat} {cv : Option Nat} {cB H u cap : Nat} {z : Nat → Int} {id : Int} {w : World} {q : Nat → Nat} {w' : World} (h : P3 B p len cv cB H u cap z id w q w') (n : Nat) : P3 B p len cv cB H u cap z id w q (w'.drewN n) :=
  ⟨h.uns, h.wake, h.unsAt, h.unsLast, h.prior, h.each, h.last, h.chan, ⟨h.below.os, h.below.tape, h.below.output, h.below.size, h.below.block⟩⟩
end Go.Proofs.Ybulkazfa
