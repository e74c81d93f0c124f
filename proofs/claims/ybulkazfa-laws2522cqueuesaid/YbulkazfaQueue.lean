/-
  '(*Gateway).queue': the contract.
-/
import Derived.Test.YbulkazfaComm
import Derived.Maps.AppendAt
namespace Go.Proofs.Ybulkazfa
open Go.RowKit Go.Conc
theorem Yba.info70 : (Yba.prog.info? 70).map (fun i => (i.zero, i.size, i.bytes)) = some (some (.pointer none), 1, 8) := by kernel_rfl
theorem owns_form {w : World} {base e m : Nat} {v : Value} {xs : List Value} (hm : 0 < m) (h : w.ownsRow base e 1 v m xs) : ∃ u cap : Nat, v = .slice (some ⟨u, 0, none⟩) m cap := by
  rcases h.2 with ⟨_, h0⟩ | ⟨g, cap, cur, rfl, _⟩
  · omega
  · exact ⟨g, cap, rfl⟩

theorem setChan_block (w : World) (c c' cap : Nat) (buf : Array Value) (closed : Bool) (s r : Nat) (tm : Bool) (h : c ≠ c') : (w.setChan c cap buf closed s r tm).heap[c']? = w.heap[c']? := by
  simp [World.setChan, Array.getElem?_setIfInBounds_ne h]

/-- What 'queue' keeps: all blocks that were there but the gateway's, the channel's, and the row that it appends to. -/
structure QKept (gB cB : Nat) (row : Option Nat) (w w' : World) : Prop where
  os : w'.os = w.os
  tape : w'.tape = w.tape
  output : w'.output = w.output
  size : w.heap.size ≤ w'.heap.size
  block : ∀ k, k < w.heap.size → some k ≠ row → k ≠ gB → k ≠ cB → w'.heap[k]? = w.heap[k]?

/-- The channel: nil; or a block with room for one, holding n. -/
def Wake (w : World) (cv : Option Nat) (cB n : Nat) : Prop :=
  (cv = none ∧ n = 0) ∨ (cv = some cB ∧ n ≤ 1 ∧ ∃ (buf : Array Value) (s r : Nat), buf.size = n ∧ w.heap[cB]? = some (.chan 1 buf false s r false))

set_option maxRecDepth 100000 in
set_option maxHeartbeats 1000000 in
theorem queue_any (gB base m cB n : Nat) (oa : Addr) (v : Value) (xs : List Value) (cv : Option Nat) (w : World) (hu : w.cell? ⟨gB, 26, none⟩ = some v) (hw : w.cell? ⟨gB, 28, none⟩ = some (.chan cv))
    (fu : w.frozen? ⟨gB, 26, none⟩ = false) (hown : w.ownsRow base 70 1 v m xs) (hgb : gB < base) (hcb : cB < base) (hbs : base ≤ w.heap.size) (hm : m ≤ 2000) (hgc : cv = some cB → gB ≠ cB) (hwake : Wake w cv cB n) :
    Calls Yba.prog 5 #[.pointer (some ⟨gB, 0, none⟩), .pointer (some oa)] w fun e w' => e = .returned (.tuple #[]) ∧
      ∃ u cap : Nat, w'.cell? ⟨gB, 26, none⟩ = some (.slice (some ⟨u, 0, none⟩) (m + 1) cap) ∧ w'.cell? ⟨gB, 28, none⟩ = some (.chan cv) ∧ w'.frozen? ⟨gB, 26, none⟩ = false ∧
        w'.ownsRow base 70 1 (.slice (some ⟨u, 0, none⟩) (m + 1) cap) (m + 1) (xs ++ [.pointer (some oa)]) ∧ (some u = v.ownBlock ∨ w.heap.size ≤ u) ∧
        Wake w' cv cB (if cv = none then 0 else 1) ∧ QKept gB cB v.ownBlock w w' := by
  obtain ⟨i0, hi, hz0, hz1, hz2⟩ := info_parts Yba.info70
  have hgs : gB < w.heap.size := by omega
  have Hwake := hide hwake
  have Hgc := hide hgc
  clear hwake hgc
  go_enter Yba.func5, Yba.ntmps5
  go_wp2_with (at_builtin; refine wpList_append_own_at _ rfl _ _ 64 rfl base 70 i0 (.pointer none) 1 8 Yba.underlying64 hi hz0 hz1 hz2 rfl (by decide) _ _ _ rfl (hown.alloc _) ⟨w.heap.size, 0, none⟩ 1 1 [.pointer (some oa)] rfl rfl ?c1 ?c2 ?c3 ?c4 ?c5 ?_)
  case c1 =>
    intro j u hj
    match j, hj with
    | 0, hj => simp at hj; subst hj; simp [Addr.add]
  case c2 => intro u hu; simp at hu; subst hu; rfl
  case c3 => unfold maxLen; omega
  case c4 => omega
  case c5 => simp; omega
  intro v' w1 hown1 hgrow _ hat
  obtain ⟨u, cap, hv⟩ := owns_form (by omega) hown1
  rw [hv]
  rw [hv] at hown1 hat
  clear hv
  have hne : some gB ≠ v.ownBlock := fun e => by have := (hown.lt gB e.symm).1; omega
  have hnc : some cB ≠ v.ownBlock := fun e => by have := (hown.lt cB e.symm).1; omega
  have hcell : ∀ o, w1.cell? ⟨gB, o, none⟩ = w.cell? ⟨gB, o, none⟩ := by
    intro o
    rw [World.cell?_of_block (hgrow.block gB (by simp; omega) hne), World.cell?_alloc_past _ _ _ hgs]
  have hfr : ∀ o, w1.frozen? ⟨gB, o, none⟩ = w.frozen? ⟨gB, o, none⟩ := by
    intro o
    rw [World.frozen?_of_block (hgrow.block gB (by simp; omega) hne), World.frozen?_alloc_past _ _ _ hgs]
  have hcb1 : w1.heap[cB]? = w.heap[cB]? := by
    rw [hgrow.block cB (by simp; omega) hnc, Below.heap_alloc _ _ _ (by omega)]
  have hat' : some u = v.ownBlock ∨ w.heap.size ≤ u := by
    rcases hat with e | e
    · exact .inl e
    · right; simp [Value.ownBlock] at e; omega
  have hk1 : QKept gB cB v.ownBlock w w1 := ⟨hgrow.os, hgrow.tape, hgrow.output, by have := hgrow.size; simp at this; omega, fun k hk h1 _ _ => by
    rw [hgrow.block k (by simp; omega) h1, Below.heap_alloc _ _ _ hk]⟩
  have hgs1 : gB < w1.heap.size := by have := hk1.size; omega
  have hu1 := (hcell 26).trans hu
  have hw1 := (hcell 28).trans hw
  have fu1 := (hfr 26).trans fu
  -- the world behind the store
  obtain ⟨w2, hw2⟩ : ∃ w2, w2 = w1.setCell ⟨gB, 26, none⟩ (.slice (some ⟨u, 0, none⟩) (m + 1) cap) := ⟨_, rfl⟩
  have F : Hid (w2.cell? ⟨gB, 26, none⟩ = some (.slice (some ⟨u, 0, none⟩) (m + 1) cap) ∧ w2.cell? ⟨gB, 28, none⟩ = some (.chan cv) ∧ w2.frozen? ⟨gB, 26, none⟩ = false ∧
      w2.ownsRow base 70 1 (.slice (some ⟨u, 0, none⟩) (m + 1) cap) (m + 1) (xs ++ [.pointer (some oa)]) ∧ (some u = v.ownBlock ∨ w.heap.size ≤ u) ∧ QKept gB cB v.ownBlock w w2 ∧ w2.heap.size = w1.heap.size ∧ (gB ≠ cB → w2.heap[cB]? = w.heap[cB]?)) := by
    rw [hw2]
    refine ⟨World.cell?_setCell_same _ _ _ hu1, ?_, by rw [World.frozen?_setCell]; exact fu1, ownsRow_setCell_below hown1 hgb _, hat', ?_, World.size_setCell _ _ _, fun hne' => ?_⟩
    · rw [World.cell?_setCell_other]
      · exact hw1
      · simp
    · exact ⟨hk1.os, hk1.tape, hk1.output, by rw [World.size_setCell]; exact hk1.size, fun k hk h1 h2 h3 => by rw [Below.heap_setCell _ _ _ _ h2]; exact hk1.block k hk h1 h2 h3⟩
    · rw [Below.heap_setCell _ _ _ _ (fun e => hne' e.symm)]; exact hcb1
  have Hw2 := hide hw2
  clear hcell hfr hown1 hat hgrow hne hown hat' hk1 hcb1 hnc hw2
  iterate 38 (first | go_values | go_skip | go_guarded | go_step | go_upon)
  rw [← unhide Hw2]
  refine wp_region_in (id := 3) ?_
  show InOps Yba.prog _ _ [0, 1, 2] _ _
  obtain ⟨f1, f2, f3, f4, f5, f6, f7, f8⟩ := unhide F
  rcases unhide Hwake with ⟨rfl, hn0⟩ | ⟨rfl, hn1, buf, s, r, hbuf, hch⟩
  · refine inOps_select_default (cc := scaseNil (.agg #[]) (.agg #[])) ⟨_, rfl⟩ rfl (by rfl) (by simp [go_sem, execOp, scaseNil, Act.eval]) (noWay_nil _) ?_
    refine inOps_value (w' := w2) (v := .int .i64 (-1)) rfl (by rfl) (by simp [go_sem, execOp, Act.eval, Act.put, goInt]) ?_
    refine inOps_value (w' := w2) (v := .bool false) rfl (by rfl) (by simp [go_sem, execOp, Act.eval, Act.put]) ?_
    refine inOps_end ?_
    clear f1 f2 f3 f4 f5 f6 f7 f8 hn0 fu1 hw1 hu1 hgs1 hu hw fu
    simp only [Act.put]
    go_wp2_with fail
    go_end0
    obtain ⟨f1, f2, f3, f4, f5, f6, f7, f8⟩ := unhide F
    exact ⟨rfl, u, cap, f1, f2, f3, f4, f5, .inl ⟨rfl, rfl⟩, f6⟩
  · have hgcn := unhide Hgc rfl
    have hch2 : w2.heap[cB]? = some (.chan 1 buf false s r false) := (f8 hgcn).trans hch
    by_cases hfull : n = 1
    · refine inOps_select_default (cc := scase cB (.agg #[]) (.agg #[])) ⟨_, rfl⟩ rfl (by rfl) (by simp [go_sem, execOp, scase, Act.eval]) (noWay_send hch2 (by omega)) ?_
      refine inOps_value (w' := w2) (v := .int .i64 (-1)) rfl (by rfl) (by simp [go_sem, execOp, Act.eval, Act.put, goInt]) ?_
      refine inOps_value (w' := w2) (v := .bool false) rfl (by rfl) (by simp [go_sem, execOp, Act.eval, Act.put]) ?_
      refine inOps_end ?_
      have Hch := hide hch2
      clear f1 f2 f3 f4 f5 f6 f7 f8 fu1 hw1 hu1 hgs1 hu hw fu hch2 hch
      simp only [Act.put]
      go_wp2_with fail
      go_end0
      obtain ⟨f1, f2, f3, f4, f5, f6, f7, f8⟩ := unhide F
      exact ⟨rfl, u, cap, f1, f2, f3, f4, f5, .inr ⟨rfl, by omega, buf, s, r, by omega, unhide Hch⟩, f6⟩
    · have hb0 : buf.size < 1 := by omega
      refine inOps_select_room (v := .agg #[]) (z := .agg #[]) rfl (by rfl) (by simp [go_sem, execOp, scase, Act.eval]) hch2 hb0 ?_
      obtain ⟨w3, hw3⟩ : ∃ w3, w3 = w2.setChan cB 1 (buf.push (.agg #[])) false (s + 1) r false := ⟨_, rfl⟩
      rw [← hw3]
      have hother : ∀ k, k ≠ cB → w3.heap[k]? = w2.heap[k]? := fun k hk => by rw [hw3]; exact setChan_block _ _ _ _ _ _ _ _ _ (fun e => hk e.symm)
      have hsame : w3.heap[cB]? = some (.chan 1 (buf.push (.agg #[])) false (s + 1) r false) := by rw [hw3]; exact heap_setChan _ _ _ _ _ _ _ _ (by have := f6.size; omega)
      have hsz3 : w3.heap.size = w2.heap.size := by rw [hw3]; exact size_setChan _ _ _ _ _ _ _ _
      have F3 : Hid (w3.cell? ⟨gB, 26, none⟩ = some (.slice (some ⟨u, 0, none⟩) (m + 1) cap) ∧ w3.cell? ⟨gB, 28, none⟩ = some (.chan (some cB)) ∧ w3.frozen? ⟨gB, 26, none⟩ = false ∧
          w3.ownsRow base 70 1 (.slice (some ⟨u, 0, none⟩) (m + 1) cap) (m + 1) (xs ++ [.pointer (some oa)]) ∧ (some u = v.ownBlock ∨ w.heap.size ≤ u) ∧ Wake w3 (some cB) cB 1 ∧ QKept gB cB v.ownBlock w w3) := by
        refine ⟨?_, ?_, ?_, ?_, f5, .inr ⟨rfl, by omega, buf.push (.agg #[]), s + 1, r, by rw [Array.size_push]; omega, hsame⟩, ?_⟩
        · rw [World.cell?_of_block (hother gB hgcn)]; exact f1
        · rw [World.cell?_of_block (hother gB hgcn)]; exact f2
        · rw [World.frozen?_of_block (hother gB hgcn)]; exact f3
        · refine ⟨f4.1, ?_⟩
          rcases f4.2 with hx | ⟨g, cp, cur, e, hb, hgg, rest⟩
          · exact .inl hx
          · exact .inr ⟨g, cp, cur, e, hb, by rw [hother g (by omega)]; exact hgg, rest⟩
        · refine ⟨?_, ?_, ?_, by rw [hsz3]; exact f6.size, fun k hk h1 h2 h3 => by rw [hother k h3]; exact f6.block k hk h1 h2 h3⟩
          · rw [hw3]; exact f6.os
          · rw [hw3]; exact f6.tape
          · rw [hw3]; exact f6.output
      refine inOps_value (w' := w3) (v := .int .i64 0) rfl (by rfl) (by simp [go_sem, execOp, Act.eval, Act.put, goInt]) ?_
      refine inOps_value (w' := w3) (v := .bool true) rfl (by rfl) (by simp [go_sem, execOp, Act.eval, Act.put]) ?_
      refine inOps_end ?_
      clear f1 f2 f3 f4 f5 f6 f7 f8 fu1 hw1 hu1 hgs1 hu hw fu hch2 hch hother hsame hsz3 hw3
      simp only [Act.put]
      go_wp2_with fail
      go_end0
      obtain ⟨f1, f2, f3, f4, f5, f6, f7⟩ := unhide F3
      exact ⟨rfl, u, cap, f1, f2, f3, f4, f5, by simpa using f6, f7⟩
end Go.Proofs.Ybulkazfa
