/-
  A COMMUNICATION INSIDE A REGION, FOR THE ORDINARY WALK: 'Code.wp' speaks of the machine's own steps, so a send or a select of the lone goroutine is one step of it.
-/
import Derived.Test.YbulkazfaRows
import Derived.WalkKit
import Derived.ProofKit
import Derived.Conc.LoneCalls
import Derived.Conc.LoneSelectN
import Derived.Conc.LoneSelect
namespace Go.Proofs.Ybulkazfa
open Go.RowKit Go.Conc

theorem hide {p : Prop} (h : p) : Hid p := h
theorem unhide {p : Prop} (h : Hid p) : p := h

/-- The walk from inside a region on. (A structure: the walk's own tactics leave it alone.) -/
structure InOps (P : Program) (ops : Array Oper) (Q : Exit → Act → World → Prop) (l : List Nat) (a : Act) (w : World) : Prop where
  runs : ∀ (b : Frame) (k : List Item) (cs : List Frame), ∃ e a' w', Q e a' w' ∧ Arrives P (lone (b.at a (.inRegion ops l :: k)) cs w) b k cs e a' w'

section
variable {P : Program} {ops : Array Oper} {Q : Exit → Act → World → Prop} {a : Act} {w : World}
theorem inOps_of_wp {l : List Nat} (h : wpOps P ops Q l a w) : InOps P ops Q l a w := ⟨fun b k cs => wp_ops l a w h b k cs⟩
theorem wp_region_in {id : Nat} (h : InOps P ops Q (List.range ops.size) a w) : (Code.region id ops false).wp P Q a w :=
  fun b k cs => let ⟨e, a', w', q, r⟩ := h.runs b k cs; ⟨e, a', w', q, .of_steps (.one step_region) r⟩
theorem inOps_step {i : Nat} {rest : List Nat} {o : Oper} {v : Value} {w' : World} (ho : ops[i]? = some o)
    (hs : ∀ (b : Frame) (k : List Item) (cs : List Frame), step P (solo (G (b.at a (.inRegion ops (i :: rest) :: k)) cs) w) = .next (solo (G ((b.at a (.inRegion ops (i :: rest) :: k)).finish v) cs) w'))
    (h : InOps P ops Q rest (a.put o.dst v) w') : InOps P ops Q (i :: rest) a w := by
  refine ⟨fun b k cs => ?_⟩
  obtain ⟨e, a', w₂, q, r⟩ := h.runs b k cs
  refine ⟨e, a', w₂, q, .of_steps (.one ?_) r⟩
  have hh := hs b k cs
  rw [Frame.finish_at, ho] at hh
  exact hh

/-- An operation that yields a value. -/
theorem inOps_value {i : Nat} {rest : List Nat} {o : Oper} {v : Value} {w' : World} (ho : ops[i]? = some o) (hw : Region.wanted o (yielded ops a.tmps) = true)
    (hr : (execOp a.eval o).run P w = .ok (.value v) w') (h : InOps P ops Q rest (a.put o.dst v) w') : InOps P ops Q (i :: rest) a w := by
  refine ⟨fun b k cs => ?_⟩
  obtain ⟨e, a', w₂, q, r⟩ := h.runs b k cs
  have hg := stepG_op (P := P) (b := b) (k := k) (cs := cs) (w := w) (rest := rest) ho hw
  have hfin : (b.at a (.inRegion ops (i :: rest) :: k)).finish v = b.at (a.put o.dst v) (.inRegion ops rest :: k) := by rw [Frame.finish_at, ho]; rfl
  refine ⟨e, a', w₂, q, .of_steps (.one (step_lone_go ?_)) r⟩
  rw [hg, ← hfin]
  simp [stepG.apply, hr]
theorem inOps_end (h : Q .normal a w) : InOps P ops Q [] a w := inOps_of_wp h

theorem stepG_comm_any {main : Bool} {b : Frame} {k : List Item} {cs : List Frame} {i : Nat} {rest : List Nat} {o : Oper} {cases : Array CommCase} {blocking : Bool} {shape : CommShape} {w' : World} (ho : ops[i]? = some o) (hw : Region.wanted o (yielded ops a.tmps) = true)
    (hr : (execOp a.eval o).run P w = .ok (.comm cases blocking shape) w') :
    ∃ es, stepG P main (G (b.at a (.inRegion ops (i :: rest) :: k)) cs) w = .comm (G (b.at a (.inRegion ops (i :: rest) :: k)) cs) cases blocking shape w' es := by
  rw [stepG_oper ho hw]
  by_cases hk : b.kind = .early
  · exact ⟨_, by simp [stepG.apply, hr, G, Frame.at, hk, GStep.after]; rfl⟩
  · have hk' : (b.kind == CallKind.early) = false := by simpa using hk
    exact ⟨_, by simp [stepG.apply, hr, G, Frame.at, hk', GStep.after]; rfl⟩

/-- A send into a buffer with room. -/
theorem inOps_send {i : Nat} {rest : List Nat} {o : Oper} {c cap s r : Nat} {buf : Array Value} {v z : Value} {tm : Bool} (ho : ops[i]? = some o) (hw : Region.wanted o (yielded ops a.tmps) = true)
    (hr : (execOp a.eval o).run P w = .ok (.comm #[scase c v z] true .send) w) (hc : w.heap[c]? = some (.chan cap buf false s r tm)) (hroom : buf.size < cap)
    (h : InOps P ops Q rest (a.put o.dst undef) (w.setChan c cap (buf.push v) false (s + 1) r tm)) : InOps P ops Q (i :: rest) a w :=
  inOps_step ho (fun b k cs => by
    obtain ⟨es, hs⟩ := stepG_comm_any (main := true) (b := b) (k := k) (cs := cs) (rest := rest) ho hw hr
    exact step_lone_send_room hs hc hroom) h

/-- A select of one send with a default: there is room: it is taken. -/
theorem inOps_select_room {i : Nat} {rest : List Nat} {o : Oper} {c cap s r : Nat} {buf : Array Value} {v z : Value} {tm : Bool} (ho : ops[i]? = some o) (hw : Region.wanted o (yielded ops a.tmps) = true)
    (hr : (execOp a.eval o).run P w = .ok (.comm #[scase c v z] false .select) w) (hc : w.heap[c]? = some (.chan cap buf false s r tm)) (hroom : buf.size < cap)
    (h : InOps P ops Q rest (a.put o.dst (.tuple #[goInt 0, .bool false])) (w.setChan c cap (buf.push v) false (s + 1) r tm)) : InOps P ops Q (i :: rest) a w :=
  inOps_step ho (fun b k cs => by
    obtain ⟨es, hs⟩ := stepG_comm_any (main := true) (b := b) (k := k) (cs := cs) (rest := rest) ho hw hr
    have e : commResult #[scase c v z] .select ((0 : Nat) : Int) undef false = .tuple #[goInt 0, .bool false] := by simp [commResult, scase, List.zipIdx_cons]
    rw [← e]
    refine step_lone_sel_send_room hs (by rfl) (fun m c' hm hc' => ?_) hc hroom
    rcases m with _ | m
    · exact absurd rfl hm
    · simp at hc') h

/-- .. there is no room, or the channel is nil: the default. -/
theorem inOps_select_default {i : Nat} {rest : List Nat} {o : Oper} {cc : CommCase} (hcc : ∃ x, cc.send = some x) (ho : ops[i]? = some o) (hw : Region.wanted o (yielded ops a.tmps) = true)
    (hr : (execOp a.eval o).run P w = .ok (.comm #[cc] false .select) w) (hno : NoWay w cc)
    (h : InOps P ops Q rest (a.put o.dst (.tuple #[goInt (-1), .bool false])) w) : InOps P ops Q (i :: rest) a w :=
  inOps_step ho (fun b k cs => by
    obtain ⟨es, hs⟩ := stepG_comm_any (main := true) (b := b) (k := k) (cs := cs) (rest := rest) ho hw hr
    obtain ⟨x, hx⟩ := hcc
    have e : commResult #[cc] .select (-1) undef false = .tuple #[goInt (-1), .bool false] := by simp [commResult, List.zipIdx_cons, hx]
    rw [← e]
    exact step_lone_sel_default hs (fun c' hc' => by simp at hc'; subst hc'; exact hno)) h
end
end Go.Proofs.Ybulkazfa
