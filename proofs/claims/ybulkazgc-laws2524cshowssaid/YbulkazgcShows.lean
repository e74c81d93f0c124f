/-
  '(*keyHistory).shows': the contract.
-/
import Derived.Test.YbulkazgcFresh
import Derived.Deep.Cut
import Derived.Deep.QuietTactic
import Derived.BigQuiet
import Derived.BigRegion
namespace Go.Proofs.Ybulkazgc
open Go.RowKit
set_option linter.unusedVariables false

def upd (V : Nat → Int) (j : Nat) (x : Int) : Nat → Int := fun i => if i = j then x else V i
theorem upd_same (V : Nat → Int) (j : Nat) (x : Int) : upd V j x j = x := by simp [upd]
theorem upd_other (V : Nat → Int) (j i : Nat) (x : Int) (h : i ≠ j) : upd V j x i = V i := by simp [upd, h]

/-- An op's ten cells. -/
def orec (k st : Int) (cond : Bool) (iv : Int) (vn : Nat) : List Value :=
  [.int .i64 0, .int .u8 k, .string ⟨#[]⟩, .string ⟨#[]⟩, .bool cond, .int .u64 iv, .int .i64 0, .int .i64 0, .int .u8 st, .int .u64 vn]

/-- The history in memory. -/
structure HSt (w : World) (hB oB g n i : Nat) (del : Bool) (k st : Int) (cond : Bool) (iv : Int) (vn : Nat) : Prop where
  c0 : w.cell? ⟨hB, 0, none⟩ = some (.slice (some ⟨oB, 0, none⟩) (i + 1) (i + 1))
  c3 : w.cell? ⟨hB, 3, none⟩ = some (.bool del)
  c4 : w.cell? ⟨hB, 4, none⟩ = some (.slice (some ⟨g, 0, none⟩) n n)
  op : w.rangeAt oB (i * 10) (orec k st cond iv vn)
  hg : hB ≠ g
  og : oB ≠ g

/-! ### The row behind a store, a new block, a draw -/
theorem VRow.alloc {w : World} {g n : Nat} {V N : Nat → Int} (h : VRow w g n V N) (o : Obj) : VRow (w.alloc o) g n V N :=
  ⟨by simp; have := h.lt; omega, fun j hj => World.rangeAt_alloc (h.at_ j hj) o, fun x => by rw [World.frozen?_alloc_past _ _ _ h.lt]; exact h.froz x⟩

theorem vrec_get_val (j : Nat) (a b x : Int) (f : Nat) (hf : f ≠ 2) : (vrec j x b)[f]? = (vrec j a b)[f]? := by
  match f, hf with
  | 0, _ => rfl
  | 1, _ => rfl
  | f + 3, _ => rfl
theorem vrec_get_non (j : Nat) (a b x : Int) (f : Nat) (hf : f ≠ 3) : (vrec j a x)[f]? = (vrec j a b)[f]? := by
  match f, hf with
  | 0, _ => rfl
  | 1, _ => rfl
  | 2, _ => rfl
  | f + 4, _ => rfl
theorem vrec_lt (j : Nat) (a b : Int) (f : Nat) (v : Value) (h : (vrec j a b)[f]? = some v) : f < 9 := (List.getElem?_eq_some_iff.1 h).1

theorem VRow.setVal {w : World} {g n : Nat} {V N : Nat → Int} (h : VRow w g n V N) (j : Nat) (hj : j < n) (x : Int) : VRow (w.setCell ⟨g, j * 9 + 2, none⟩ (.int .i64 x)) g n (upd V j x) N := by
  refine ⟨by rw [World.size_setCell]; exact h.lt, fun j' hj' f v hv => ?_, fun o => by rw [World.frozen?_setCell]; exact h.froz o⟩
  have hf := vrec_lt _ _ _ _ _ hv
  by_cases e : j' = j ∧ f = 2
  · obtain ⟨rfl, rfl⟩ := e
    rw [upd_same] at hv
    have h2 : w.cell? ⟨g, j' * 9 + 2, none⟩ = some (.int .i64 (V j')) := h.at_ j' hj 2 _ rfl
    rw [World.cell?_setCell_same _ _ _ h2]
    exact hv
  · have hne : (⟨g, j * 9 + 2, none⟩ : Addr) ≠ ⟨g, j' * 9 + f, none⟩ := fun e' => by
      have : j * 9 + 2 = j' * 9 + f := congrArg Addr.off e'
      exact e ⟨by omega, by omega⟩
    have ho : (w.setCell ⟨g, j * 9 + 2, none⟩ (.int .i64 x)).cell? ⟨g, j' * 9 + f, none⟩ = w.cell? ⟨g, j' * 9 + f, none⟩ := by
      rw [World.cell?_setCell_other]; exact hne
    rw [ho]
    refine h.at_ j' hj' f v ?_
    by_cases e1 : j' = j
    · subst e1
      rw [upd_same] at hv
      rw [← hv]
      exact vrec_get_val _ _ _ _ _ (fun e2 => e ⟨rfl, e2⟩)
    · rw [upd_other V j j' x e1] at hv
      exact hv
theorem VRow.setNon {w : World} {g n : Nat} {V N : Nat → Int} (h : VRow w g n V N) (j : Nat) (hj : j < n) (x : Int) : VRow (w.setCell ⟨g, j * 9 + 3, none⟩ (.int .i64 x)) g n V (upd N j x) := by
  refine ⟨by rw [World.size_setCell]; exact h.lt, fun j' hj' f v hv => ?_, fun o => by rw [World.frozen?_setCell]; exact h.froz o⟩
  have hf := vrec_lt _ _ _ _ _ hv
  by_cases e : j' = j ∧ f = 3
  · obtain ⟨rfl, rfl⟩ := e
    rw [upd_same] at hv
    have h2 : w.cell? ⟨g, j' * 9 + 3, none⟩ = some (.int .i64 (N j')) := h.at_ j' hj 3 _ rfl
    rw [World.cell?_setCell_same _ _ _ h2]
    exact hv
  · have hne : (⟨g, j * 9 + 3, none⟩ : Addr) ≠ ⟨g, j' * 9 + f, none⟩ := fun e' => by
      have : j * 9 + 3 = j' * 9 + f := congrArg Addr.off e'
      exact e ⟨by omega, by omega⟩
    have ho : (w.setCell ⟨g, j * 9 + 3, none⟩ (.int .i64 x)).cell? ⟨g, j' * 9 + f, none⟩ = w.cell? ⟨g, j' * 9 + f, none⟩ := by
      rw [World.cell?_setCell_other]; exact hne
    rw [ho]
    refine h.at_ j' hj' f v ?_
    by_cases e1 : j' = j
    · subst e1
      rw [upd_same] at hv
      rw [← hv]
      exact vrec_get_non _ _ _ _ _ (fun e2 => e ⟨rfl, e2⟩)
    · rw [upd_other N j j' x e1] at hv
      exact hv

/-- What 'shows' leaves: the row turned, all else that was there as it was. -/
structure SEnd (g n : Nat) (w : World) (V N : Nat → Int) (w' : World) : Prop where
  os : w'.os = w.os
  tape : w'.tape = w.tape
  output : w'.output = w.output
  size : w.heap.size ≤ w'.heap.size
  kept : ∀ x, x < w.heap.size → x ≠ g → w'.heap[x]? = w.heap[x]?
  row : VRow w' g n V N
section
variable {g n : Nat} {w w' : World} {V N : Nat → Int}
theorem SEnd.refl (h : VRow w g n V N) : SEnd g n w V N w := ⟨rfl, rfl, rfl, Nat.le_refl _, fun _ _ _ => rfl, h⟩
theorem SEnd.alloc (h : SEnd g n w V N w') (o : Obj) : SEnd g n w V N (w'.alloc o) :=
  ⟨h.os, h.tape, h.output, by simp; have := h.size; omega, fun x h1 h2 => by rw [Below.heap_alloc _ _ _ (by have := h.size; omega)]; exact h.kept x h1 h2, h.row.alloc o⟩
theorem SEnd.drew (h : SEnd g n w V N w') : SEnd g n w V N w'.drew := ⟨h.os, h.tape, h.output, h.size, h.kept, ⟨h.row.lt, h.row.at_, h.row.froz⟩⟩
theorem SEnd.drewN (h : SEnd g n w V N w') (k : Nat) : SEnd g n w V N (w'.drewN k) := ⟨h.os, h.tape, h.output, h.size, h.kept, ⟨h.row.lt, h.row.at_, h.row.froz⟩⟩
theorem SEnd.setVal (h : SEnd g n w V N w') (j : Nat) (hj : j < n) (x : Int) : SEnd g n w (upd V j x) N (w'.setCell ⟨g, j * 9 + 2, none⟩ (.int .i64 x)) :=
  ⟨h.os, h.tape, h.output, by rw [World.size_setCell]; exact h.size, fun y h1 h2 => by rw [Below.heap_setCell _ _ _ _ h2]; exact h.kept y h1 h2, h.row.setVal j hj x⟩
theorem SEnd.setNon (h : SEnd g n w V N w') (j : Nat) (hj : j < n) (x : Int) : SEnd g n w V (upd N j x) (w'.setCell ⟨g, j * 9 + 3, none⟩ (.int .i64 x)) :=
  ⟨h.os, h.tape, h.output, by rw [World.size_setCell]; exact h.size, fun y h1 h2 => by rw [Below.heap_setCell _ _ _ _ h2]; exact h.kept y h1 h2, h.row.setNon j hj x⟩
end

set_option maxRecDepth 100000 in
set_option maxHeartbeats 1000000 in
theorem shows_off (hB oB g n i vn : Nat) (k st : Int) (cond : Bool) (iv : Int) (V N : Nat → Int) (w : World) (h : HSt w hB oB g n i false k st cond iv vn) (hr : VRow w g n V N) (hn : n ≤ 64) (hi : i ≤ 3) (hv : vn < n) :
    Calls Yba.prog 5 #[.pointer (some ⟨hB, 0, none⟩), .int .i64 (i : Int)] w fun e w' => e = .returned (.tuple #[]) ∧ SEnd g n w V N w' := by
  have c0 := h.c0
  have c3 := h.c3
  have c4 := h.c4
  have o0 := h.op 0 _ rfl
  have o1 := h.op 1 _ rfl
  have o2 := h.op 2 _ rfl
  have o3 := h.op 3 _ rfl
  have o4 := h.op 4 _ rfl
  have o5 := h.op 5 _ rfl
  have o6 := h.op 6 _ rfl
  have o7 := h.op 7 _ rfl
  have o8 := h.op 8 _ rfl
  have o9 := h.op 9 _ rfl
  simp only [Nat.add_zero] at o0
  have hh := World.block_lt_of_cell? w _ c0
  have hg := hr.lt
  have hne := h.hg
  have hgw : w.heap.size ≠ g := by omega
  have Hr := hide hr
  clear h hr
  simp only at hh
  go_enter Yba.func5, Yba.ntmps5
  go_wp2_with fail
  exact bodyPost_ret (v := .tuple #[]) (by simp [results, Yba.results5, go_sem]) rfl ⟨rfl, (SEnd.refl (unhide Hr)).alloc _⟩

set_option maxRecDepth 100000 in
set_option maxHeartbeats 1000000 in
theorem shows_del (hB oB g n i m : Nat) (cond : Bool) (iv : Int) (V N : Nat → Int) (w : World) (h : HSt w hB oB g n i true 2 1 cond iv (m + 1)) (hr : VRow w g n V N) (hn : n ≤ 64) (hi : i ≤ 3) (hv : (m + 1) < n) :
    Calls Yba.prog 5 #[.pointer (some ⟨hB, 0, none⟩), .int .i64 (i : Int)] w fun e w' => e = .returned (.tuple #[]) ∧ SEnd g n w (upd V m i) (upd N (m + 1) i) w' := by
  have c0 := h.c0
  have c3 := h.c3
  have c4 := h.c4
  have o0 := h.op 0 _ rfl
  have o1 := h.op 1 _ rfl
  have o2 := h.op 2 _ rfl
  have o3 := h.op 3 _ rfl
  have o4 := h.op 4 _ rfl
  have o5 := h.op 5 _ rfl
  have o6 := h.op 6 _ rfl
  have o7 := h.op 7 _ rfl
  have o8 := h.op 8 _ rfl
  have o9 := h.op 9 _ rfl
  simp only [Nat.add_zero] at o0
  have hh := World.block_lt_of_cell? w _ c0
  have hg := hr.lt
  have r3 : w.cell? ⟨g, (m + 1) * 9 + 3, none⟩ = some (.int .i64 (N (m + 1))) := hr.at_ (m + 1) (by omega) 3 _ rfl
  have f3 := hr.froz ((m + 1) * 9 + 3)
  have r2 : w.cell? ⟨g, m * 9 + 2, none⟩ = some (.int .i64 (V m)) := hr.at_ m (by omega) 2 _ rfl
  have f2 := hr.froz (m * 9 + 2)
  have hne := h.hg
  have hgw : w.heap.size ≠ g := by omega
  have Hr := hide hr
  clear h hr
  simp only at hh
  go_enter Yba.func5, Yba.ntmps5
  go_wp2_with fail
  go_quiet (fail)
  go_wp2_with fail
  go_region
  go_wp2_with fail
  go_end0
  exact ⟨rfl, (((((SEnd.refl (unhide Hr)).alloc _).drewN _).setNon (m + 1) hv _).setVal m (by omega) _).drew⟩

set_option maxRecDepth 100000 in
set_option maxHeartbeats 1000000 in
theorem shows_put (hB oB g n i m : Nat) (V N : Nat → Int) (w : World) (h : HSt w hB oB g n i true 1 1 true 0 (m + 1)) (hr : VRow w g n V N) (hn : n ≤ 64) (hi : i ≤ 3) (hv : (m + 1) < n) (hm : 1 ≤ m) :
    Calls Yba.prog 5 #[.pointer (some ⟨hB, 0, none⟩), .int .i64 (i : Int)] w fun e w' => e = .returned (.tuple #[]) ∧ SEnd g n w (upd V (m + 1) i) (upd N m i) w' := by
  have c0 := h.c0
  have c3 := h.c3
  have c4 := h.c4
  have o0 := h.op 0 _ rfl
  have o1 := h.op 1 _ rfl
  have o2 := h.op 2 _ rfl
  have o3 := h.op 3 _ rfl
  have o4 := h.op 4 _ rfl
  have o5 := h.op 5 _ rfl
  have o6 := h.op 6 _ rfl
  have o7 := h.op 7 _ rfl
  have o8 := h.op 8 _ rfl
  have o9 := h.op 9 _ rfl
  simp only [Nat.add_zero] at o0
  have hh := World.block_lt_of_cell? w _ c0
  have hg := hr.lt
  have r2 : w.cell? ⟨g, (m + 1) * 9 + 2, none⟩ = some (.int .i64 (V (m + 1))) := hr.at_ (m + 1) (by omega) 2 _ rfl
  have f2 := hr.froz ((m + 1) * 9 + 2)
  have r3 : w.cell? ⟨g, m * 9 + 3, none⟩ = some (.int .i64 (N m)) := hr.at_ m (by omega) 3 _ rfl
  have f3 := hr.froz (m * 9 + 3)
  have hne := h.hg
  have hgw : w.heap.size ≠ g := by omega
  have Hr := hide hr
  clear h hr
  simp only at hh
  have hgt : (1 : Int) < (m : Int) + 1 := by omega
  go_enter Yba.func5, Yba.ntmps5
  go_wp2_with fail
  go_quiet (fail)
  go_wp2_with fail
  go_region
  go_wp2_with fail
  go_end0
  exact ⟨rfl, (((((SEnd.refl (unhide Hr)).alloc _).drewN _).setVal (m + 1) hv _).setNon m (by omega) _).drew⟩

set_option maxRecDepth 100000 in
set_option maxHeartbeats 1000000 in
theorem shows_getok (hB oB g n i vn : Nat) (cond : Bool) (iv : Int) (V N : Nat → Int) (w : World) (h : HSt w hB oB g n i true 0 1 cond iv vn) (hr : VRow w g n V N) (hn : n ≤ 64) (hi : i ≤ 3) (hv : vn < n) :
    Calls Yba.prog 5 #[.pointer (some ⟨hB, 0, none⟩), .int .i64 (i : Int)] w fun e w' => e = .returned (.tuple #[]) ∧ SEnd g n w (upd V vn i) N w' := by
  have c0 := h.c0
  have c3 := h.c3
  have c4 := h.c4
  have o0 := h.op 0 _ rfl
  have o1 := h.op 1 _ rfl
  have o2 := h.op 2 _ rfl
  have o3 := h.op 3 _ rfl
  have o4 := h.op 4 _ rfl
  have o5 := h.op 5 _ rfl
  have o6 := h.op 6 _ rfl
  have o7 := h.op 7 _ rfl
  have o8 := h.op 8 _ rfl
  have o9 := h.op 9 _ rfl
  simp only [Nat.add_zero] at o0
  have hh := World.block_lt_of_cell? w _ c0
  have hg := hr.lt
  have r2 : w.cell? ⟨g, vn * 9 + 2, none⟩ = some (.int .i64 (V vn)) := hr.at_ vn (by omega) 2 _ rfl
  have f2 := hr.froz (vn * 9 + 2)
  have hne := h.hg
  have hgw : w.heap.size ≠ g := by omega
  have Hr := hide hr
  clear h hr
  simp only at hh
  go_enter Yba.func5, Yba.ntmps5
  go_wp2_with fail
  go_quiet (fail)
  go_wp2_with fail
  go_end0
  exact ⟨rfl, (((SEnd.refl (unhide Hr)).alloc _).drewN _).setVal vn hv _⟩

set_option maxRecDepth 100000 in
set_option maxHeartbeats 1000000 in
theorem shows_put1 (hB oB g n i vn : Nat) (iv : Int) (V N : Nat → Int) (w : World) (h : HSt w hB oB g n i true 1 1 false iv vn) (hr : VRow w g n V N) (hn : n ≤ 64) (hi : i ≤ 3) (hv : vn < n) :
    Calls Yba.prog 5 #[.pointer (some ⟨hB, 0, none⟩), .int .i64 (i : Int)] w fun e w' => e = .returned (.tuple #[]) ∧ SEnd g n w (upd V vn i) N w' := by
  have c0 := h.c0
  have c3 := h.c3
  have c4 := h.c4
  have o0 := h.op 0 _ rfl
  have o1 := h.op 1 _ rfl
  have o2 := h.op 2 _ rfl
  have o3 := h.op 3 _ rfl
  have o4 := h.op 4 _ rfl
  have o5 := h.op 5 _ rfl
  have o6 := h.op 6 _ rfl
  have o7 := h.op 7 _ rfl
  have o8 := h.op 8 _ rfl
  have o9 := h.op 9 _ rfl
  simp only [Nat.add_zero] at o0
  have hh := World.block_lt_of_cell? w _ c0
  have hg := hr.lt
  have r2 : w.cell? ⟨g, vn * 9 + 2, none⟩ = some (.int .i64 (V vn)) := hr.at_ vn (by omega) 2 _ rfl
  have f2 := hr.froz (vn * 9 + 2)
  have hne := h.hg
  have hgw : w.heap.size ≠ g := by omega
  have Hr := hide hr
  clear h hr
  simp only at hh
  go_enter Yba.func5, Yba.ntmps5
  go_wp2_with fail
  go_quiet (fail)
  go_wp2_with fail
  go_end0
  exact ⟨rfl, (((SEnd.refl (unhide Hr)).alloc _).drewN _).setVal vn hv _⟩

set_option maxRecDepth 100000 in
set_option maxHeartbeats 1000000 in
theorem shows_put2 (hB oB g n i vn : Nat) (iv : Int) (V N : Nat → Int) (w : World) (h : HSt w hB oB g n i true 1 1 true iv vn) (hr : VRow w g n V N) (hn : n ≤ 64) (hi : i ≤ 3) (hv : vn < n) (hiv : (iv == 0) = false) :
    Calls Yba.prog 5 #[.pointer (some ⟨hB, 0, none⟩), .int .i64 (i : Int)] w fun e w' => e = .returned (.tuple #[]) ∧ SEnd g n w (upd V vn i) N w' := by
  have c0 := h.c0
  have c3 := h.c3
  have c4 := h.c4
  have o0 := h.op 0 _ rfl
  have o1 := h.op 1 _ rfl
  have o2 := h.op 2 _ rfl
  have o3 := h.op 3 _ rfl
  have o4 := h.op 4 _ rfl
  have o5 := h.op 5 _ rfl
  have o6 := h.op 6 _ rfl
  have o7 := h.op 7 _ rfl
  have o8 := h.op 8 _ rfl
  have o9 := h.op 9 _ rfl
  simp only [Nat.add_zero] at o0
  have hh := World.block_lt_of_cell? w _ c0
  have hg := hr.lt
  have r2 : w.cell? ⟨g, vn * 9 + 2, none⟩ = some (.int .i64 (V vn)) := hr.at_ vn (by omega) 2 _ rfl
  have f2 := hr.froz (vn * 9 + 2)
  have hne := h.hg
  have hgw : w.heap.size ≠ g := by omega
  have Hr := hide hr
  clear h hr
  simp only at hh
  go_enter Yba.func5, Yba.ntmps5
  go_wp2_with fail
  go_quiet (fail)
  go_wp2_with fail
  go_end0
  exact ⟨rfl, (((SEnd.refl (unhide Hr)).alloc _).drewN _).setVal vn hv _⟩

set_option maxRecDepth 100000 in
set_option maxHeartbeats 1000000 in
theorem shows_put3 (hB oB g n i vn : Nat) (V N : Nat → Int) (w : World) (h : HSt w hB oB g n i true 1 1 true 0 vn) (hr : VRow w g n V N) (hn : n ≤ 64) (hi : i ≤ 3) (hv : vn < n) (hle : vn ≤ 1) :
    Calls Yba.prog 5 #[.pointer (some ⟨hB, 0, none⟩), .int .i64 (i : Int)] w fun e w' => e = .returned (.tuple #[]) ∧ SEnd g n w (upd V vn i) N w' := by
  have c0 := h.c0
  have c3 := h.c3
  have c4 := h.c4
  have o0 := h.op 0 _ rfl
  have o1 := h.op 1 _ rfl
  have o2 := h.op 2 _ rfl
  have o3 := h.op 3 _ rfl
  have o4 := h.op 4 _ rfl
  have o5 := h.op 5 _ rfl
  have o6 := h.op 6 _ rfl
  have o7 := h.op 7 _ rfl
  have o8 := h.op 8 _ rfl
  have o9 := h.op 9 _ rfl
  simp only [Nat.add_zero] at o0
  have hh := World.block_lt_of_cell? w _ c0
  have hg := hr.lt
  have r2 : w.cell? ⟨g, vn * 9 + 2, none⟩ = some (.int .i64 (V vn)) := hr.at_ vn (by omega) 2 _ rfl
  have f2 := hr.froz (vn * 9 + 2)
  have hne := h.hg
  have hgw : w.heap.size ≠ g := by omega
  have Hr := hide hr
  clear h hr
  simp only at hh
  have hgt : decide ((1 : Int) < (vn : Int)) = false := decide_eq_false (by omega)
  go_enter Yba.func5, Yba.ntmps5
  go_wp2_with fail
  go_quiet (fail)
  go_wp2_with fail
  go_end0
  exact ⟨rfl, (((SEnd.refl (unhide Hr)).alloc _).drewN _).setVal vn hv _⟩

set_option maxRecDepth 100000 in
set_option maxHeartbeats 1000000 in
theorem shows_fail0 (hB oB g n i vn : Nat) (cond : Bool) (V N : Nat → Int) (w : World) (h : HSt w hB oB g n i true 0 3 cond 0 vn) (hr : VRow w g n V N) (hn : n ≤ 64) (hi : i ≤ 3) (hv : vn < n) :
    Calls Yba.prog 5 #[.pointer (some ⟨hB, 0, none⟩), .int .i64 (i : Int)] w fun e w' => e = .returned (.tuple #[]) ∧ SEnd g n w (upd V vn i) N w' := by
  have c0 := h.c0
  have c3 := h.c3
  have c4 := h.c4
  have o0 := h.op 0 _ rfl
  have o1 := h.op 1 _ rfl
  have o2 := h.op 2 _ rfl
  have o3 := h.op 3 _ rfl
  have o4 := h.op 4 _ rfl
  have o5 := h.op 5 _ rfl
  have o6 := h.op 6 _ rfl
  have o7 := h.op 7 _ rfl
  have o8 := h.op 8 _ rfl
  have o9 := h.op 9 _ rfl
  simp only [Nat.add_zero] at o0
  have hh := World.block_lt_of_cell? w _ c0
  have hg := hr.lt
  have r2 : w.cell? ⟨g, vn * 9 + 2, none⟩ = some (.int .i64 (V vn)) := hr.at_ vn (by omega) 2 _ rfl
  have f2 := hr.froz (vn * 9 + 2)
  have hne := h.hg
  have hgw : w.heap.size ≠ g := by omega
  have Hr := hide hr
  clear h hr
  simp only at hh
  go_enter Yba.func5, Yba.ntmps5
  go_wp2_with fail
  go_quiet (fail)
  go_wp2_with fail
  go_end0
  exact ⟨rfl, (((SEnd.refl (unhide Hr)).alloc _).drewN _).setVal vn hv _⟩

set_option maxRecDepth 100000 in
set_option maxHeartbeats 1000000 in
theorem shows_none0 (hB oB g n i vn : Nat) (cond : Bool) (iv : Int) (V N : Nat → Int) (w : World) (h : HSt w hB oB g n i true 0 2 cond iv vn) (hr : VRow w g n V N) (hn : n ≤ 64) (hi : i ≤ 3) (hv : vn < n) :
    Calls Yba.prog 5 #[.pointer (some ⟨hB, 0, none⟩), .int .i64 (i : Int)] w fun e w' => e = .returned (.tuple #[]) ∧ SEnd g n w V (upd N vn i) w' := by
  have c0 := h.c0
  have c3 := h.c3
  have c4 := h.c4
  have o0 := h.op 0 _ rfl
  have o1 := h.op 1 _ rfl
  have o2 := h.op 2 _ rfl
  have o3 := h.op 3 _ rfl
  have o4 := h.op 4 _ rfl
  have o5 := h.op 5 _ rfl
  have o6 := h.op 6 _ rfl
  have o7 := h.op 7 _ rfl
  have o8 := h.op 8 _ rfl
  have o9 := h.op 9 _ rfl
  simp only [Nat.add_zero] at o0
  have hh := World.block_lt_of_cell? w _ c0
  have hg := hr.lt
  have r3 : w.cell? ⟨g, vn * 9 + 3, none⟩ = some (.int .i64 (N vn)) := hr.at_ vn (by omega) 3 _ rfl
  have f3 := hr.froz (vn * 9 + 3)
  have hne := h.hg
  have hgw : w.heap.size ≠ g := by omega
  have Hr := hide hr
  clear h hr
  simp only at hh
  go_enter Yba.func5, Yba.ntmps5
  go_wp2_with fail
  go_quiet (fail)
  go_wp2_with fail
  go_end0
  exact ⟨rfl, (((SEnd.refl (unhide Hr)).alloc _).drewN _).setNon vn hv _⟩

set_option maxRecDepth 100000 in
set_option maxHeartbeats 1000000 in
theorem shows_unk0 (hB oB g n i vn : Nat) (cond : Bool) (iv : Int) (V N : Nat → Int) (w : World) (h : HSt w hB oB g n i true 0 0 cond iv vn) (hr : VRow w g n V N) (hn : n ≤ 64) (hi : i ≤ 3) (hv : vn < n) :
    Calls Yba.prog 5 #[.pointer (some ⟨hB, 0, none⟩), .int .i64 (i : Int)] w fun e w' => e = .returned (.tuple #[]) ∧ SEnd g n w V N w' := by
  have c0 := h.c0
  have c3 := h.c3
  have c4 := h.c4
  have o0 := h.op 0 _ rfl
  have o1 := h.op 1 _ rfl
  have o2 := h.op 2 _ rfl
  have o3 := h.op 3 _ rfl
  have o4 := h.op 4 _ rfl
  have o5 := h.op 5 _ rfl
  have o6 := h.op 6 _ rfl
  have o7 := h.op 7 _ rfl
  have o8 := h.op 8 _ rfl
  have o9 := h.op 9 _ rfl
  simp only [Nat.add_zero] at o0
  have hh := World.block_lt_of_cell? w _ c0
  have hg := hr.lt
  have hne := h.hg
  have hgw : w.heap.size ≠ g := by omega
  have Hr := hide hr
  clear h hr
  simp only at hh
  go_enter Yba.func5, Yba.ntmps5
  go_wp2_with fail
  go_quiet (fail)
  go_wp2_with fail
  go_end0
  exact ⟨rfl, ((SEnd.refl (unhide Hr)).alloc _).drewN _⟩

set_option maxRecDepth 100000 in
set_option maxHeartbeats 1000000 in
theorem shows_fail0b (hB oB g n i vn : Nat) (cond : Bool) (iv : Int) (V N : Nat → Int) (w : World) (h : HSt w hB oB g n i true 0 3 cond iv vn) (hr : VRow w g n V N) (hn : n ≤ 64) (hi : i ≤ 3) (hv : vn < n) (hiv : (iv == 0) = false) :
    Calls Yba.prog 5 #[.pointer (some ⟨hB, 0, none⟩), .int .i64 (i : Int)] w fun e w' => e = .returned (.tuple #[]) ∧ SEnd g n w V N w' := by
  have c0 := h.c0
  have c3 := h.c3
  have c4 := h.c4
  have o0 := h.op 0 _ rfl
  have o1 := h.op 1 _ rfl
  have o2 := h.op 2 _ rfl
  have o3 := h.op 3 _ rfl
  have o4 := h.op 4 _ rfl
  have o5 := h.op 5 _ rfl
  have o6 := h.op 6 _ rfl
  have o7 := h.op 7 _ rfl
  have o8 := h.op 8 _ rfl
  have o9 := h.op 9 _ rfl
  simp only [Nat.add_zero] at o0
  have hh := World.block_lt_of_cell? w _ c0
  have hg := hr.lt
  have hne := h.hg
  have hgw : w.heap.size ≠ g := by omega
  have Hr := hide hr
  clear h hr
  simp only at hh
  go_enter Yba.func5, Yba.ntmps5
  go_wp2_with fail
  go_quiet (fail)
  go_wp2_with fail
  go_end0
  exact ⟨rfl, ((SEnd.refl (unhide Hr)).alloc _).drewN _⟩

set_option maxRecDepth 100000 in
set_option maxHeartbeats 1000000 in
theorem shows_fail1 (hB oB g n i vn : Nat) (cond : Bool) (V N : Nat → Int) (w : World) (h : HSt w hB oB g n i true 1 3 cond 0 vn) (hr : VRow w g n V N) (hn : n ≤ 64) (hi : i ≤ 3) (hv : vn < n) :
    Calls Yba.prog 5 #[.pointer (some ⟨hB, 0, none⟩), .int .i64 (i : Int)] w fun e w' => e = .returned (.tuple #[]) ∧ SEnd g n w (upd V vn i) N w' := by
  have c0 := h.c0
  have c3 := h.c3
  have c4 := h.c4
  have o0 := h.op 0 _ rfl
  have o1 := h.op 1 _ rfl
  have o2 := h.op 2 _ rfl
  have o3 := h.op 3 _ rfl
  have o4 := h.op 4 _ rfl
  have o5 := h.op 5 _ rfl
  have o6 := h.op 6 _ rfl
  have o7 := h.op 7 _ rfl
  have o8 := h.op 8 _ rfl
  have o9 := h.op 9 _ rfl
  simp only [Nat.add_zero] at o0
  have hh := World.block_lt_of_cell? w _ c0
  have hg := hr.lt
  have r2 : w.cell? ⟨g, vn * 9 + 2, none⟩ = some (.int .i64 (V vn)) := hr.at_ vn (by omega) 2 _ rfl
  have f2 := hr.froz (vn * 9 + 2)
  have hne := h.hg
  have hgw : w.heap.size ≠ g := by omega
  have Hr := hide hr
  clear h hr
  simp only at hh
  go_enter Yba.func5, Yba.ntmps5
  go_wp2_with fail
  go_quiet (fail)
  go_wp2_with fail
  go_end0
  exact ⟨rfl, (((SEnd.refl (unhide Hr)).alloc _).drewN _).setVal vn hv _⟩

set_option maxRecDepth 100000 in
set_option maxHeartbeats 1000000 in
theorem shows_none1 (hB oB g n i vn : Nat) (cond : Bool) (iv : Int) (V N : Nat → Int) (w : World) (h : HSt w hB oB g n i true 1 2 cond iv vn) (hr : VRow w g n V N) (hn : n ≤ 64) (hi : i ≤ 3) (hv : vn < n) :
    Calls Yba.prog 5 #[.pointer (some ⟨hB, 0, none⟩), .int .i64 (i : Int)] w fun e w' => e = .returned (.tuple #[]) ∧ SEnd g n w V (upd N vn i) w' := by
  have c0 := h.c0
  have c3 := h.c3
  have c4 := h.c4
  have o0 := h.op 0 _ rfl
  have o1 := h.op 1 _ rfl
  have o2 := h.op 2 _ rfl
  have o3 := h.op 3 _ rfl
  have o4 := h.op 4 _ rfl
  have o5 := h.op 5 _ rfl
  have o6 := h.op 6 _ rfl
  have o7 := h.op 7 _ rfl
  have o8 := h.op 8 _ rfl
  have o9 := h.op 9 _ rfl
  simp only [Nat.add_zero] at o0
  have hh := World.block_lt_of_cell? w _ c0
  have hg := hr.lt
  have r3 : w.cell? ⟨g, vn * 9 + 3, none⟩ = some (.int .i64 (N vn)) := hr.at_ vn (by omega) 3 _ rfl
  have f3 := hr.froz (vn * 9 + 3)
  have hne := h.hg
  have hgw : w.heap.size ≠ g := by omega
  have Hr := hide hr
  clear h hr
  simp only at hh
  go_enter Yba.func5, Yba.ntmps5
  go_wp2_with fail
  go_quiet (fail)
  go_wp2_with fail
  go_end0
  exact ⟨rfl, (((SEnd.refl (unhide Hr)).alloc _).drewN _).setNon vn hv _⟩

set_option maxRecDepth 100000 in
set_option maxHeartbeats 1000000 in
theorem shows_unk1 (hB oB g n i vn : Nat) (cond : Bool) (iv : Int) (V N : Nat → Int) (w : World) (h : HSt w hB oB g n i true 1 0 cond iv vn) (hr : VRow w g n V N) (hn : n ≤ 64) (hi : i ≤ 3) (hv : vn < n) :
    Calls Yba.prog 5 #[.pointer (some ⟨hB, 0, none⟩), .int .i64 (i : Int)] w fun e w' => e = .returned (.tuple #[]) ∧ SEnd g n w V N w' := by
  have c0 := h.c0
  have c3 := h.c3
  have c4 := h.c4
  have o0 := h.op 0 _ rfl
  have o1 := h.op 1 _ rfl
  have o2 := h.op 2 _ rfl
  have o3 := h.op 3 _ rfl
  have o4 := h.op 4 _ rfl
  have o5 := h.op 5 _ rfl
  have o6 := h.op 6 _ rfl
  have o7 := h.op 7 _ rfl
  have o8 := h.op 8 _ rfl
  have o9 := h.op 9 _ rfl
  simp only [Nat.add_zero] at o0
  have hh := World.block_lt_of_cell? w _ c0
  have hg := hr.lt
  have hne := h.hg
  have hgw : w.heap.size ≠ g := by omega
  have Hr := hide hr
  clear h hr
  simp only at hh
  go_enter Yba.func5, Yba.ntmps5
  go_wp2_with fail
  go_quiet (fail)
  go_wp2_with fail
  go_end0
  exact ⟨rfl, ((SEnd.refl (unhide Hr)).alloc _).drewN _⟩

set_option maxRecDepth 100000 in
set_option maxHeartbeats 1000000 in
theorem shows_fail1b (hB oB g n i vn : Nat) (cond : Bool) (iv : Int) (V N : Nat → Int) (w : World) (h : HSt w hB oB g n i true 1 3 cond iv vn) (hr : VRow w g n V N) (hn : n ≤ 64) (hi : i ≤ 3) (hv : vn < n) (hiv : (iv == 0) = false) :
    Calls Yba.prog 5 #[.pointer (some ⟨hB, 0, none⟩), .int .i64 (i : Int)] w fun e w' => e = .returned (.tuple #[]) ∧ SEnd g n w V N w' := by
  have c0 := h.c0
  have c3 := h.c3
  have c4 := h.c4
  have o0 := h.op 0 _ rfl
  have o1 := h.op 1 _ rfl
  have o2 := h.op 2 _ rfl
  have o3 := h.op 3 _ rfl
  have o4 := h.op 4 _ rfl
  have o5 := h.op 5 _ rfl
  have o6 := h.op 6 _ rfl
  have o7 := h.op 7 _ rfl
  have o8 := h.op 8 _ rfl
  have o9 := h.op 9 _ rfl
  simp only [Nat.add_zero] at o0
  have hh := World.block_lt_of_cell? w _ c0
  have hg := hr.lt
  have hne := h.hg
  have hgw : w.heap.size ≠ g := by omega
  have Hr := hide hr
  clear h hr
  simp only at hh
  go_enter Yba.func5, Yba.ntmps5
  go_wp2_with fail
  go_quiet (fail)
  go_wp2_with fail
  go_end0
  exact ⟨rfl, ((SEnd.refl (unhide Hr)).alloc _).drewN _⟩

set_option maxRecDepth 100000 in
set_option maxHeartbeats 1000000 in
theorem shows_fail2 (hB oB g n i vn : Nat) (cond : Bool) (V N : Nat → Int) (w : World) (h : HSt w hB oB g n i true 2 3 cond 0 vn) (hr : VRow w g n V N) (hn : n ≤ 64) (hi : i ≤ 3) (hv : vn < n) :
    Calls Yba.prog 5 #[.pointer (some ⟨hB, 0, none⟩), .int .i64 (i : Int)] w fun e w' => e = .returned (.tuple #[]) ∧ SEnd g n w (upd V vn i) N w' := by
  have c0 := h.c0
  have c3 := h.c3
  have c4 := h.c4
  have o0 := h.op 0 _ rfl
  have o1 := h.op 1 _ rfl
  have o2 := h.op 2 _ rfl
  have o3 := h.op 3 _ rfl
  have o4 := h.op 4 _ rfl
  have o5 := h.op 5 _ rfl
  have o6 := h.op 6 _ rfl
  have o7 := h.op 7 _ rfl
  have o8 := h.op 8 _ rfl
  have o9 := h.op 9 _ rfl
  simp only [Nat.add_zero] at o0
  have hh := World.block_lt_of_cell? w _ c0
  have hg := hr.lt
  have r2 : w.cell? ⟨g, vn * 9 + 2, none⟩ = some (.int .i64 (V vn)) := hr.at_ vn (by omega) 2 _ rfl
  have f2 := hr.froz (vn * 9 + 2)
  have hne := h.hg
  have hgw : w.heap.size ≠ g := by omega
  have Hr := hide hr
  clear h hr
  simp only at hh
  go_enter Yba.func5, Yba.ntmps5
  go_wp2_with fail
  go_quiet (fail)
  go_wp2_with fail
  go_end0
  exact ⟨rfl, (((SEnd.refl (unhide Hr)).alloc _).drewN _).setVal vn hv _⟩

set_option maxRecDepth 100000 in
set_option maxHeartbeats 1000000 in
theorem shows_none2 (hB oB g n i vn : Nat) (cond : Bool) (iv : Int) (V N : Nat → Int) (w : World) (h : HSt w hB oB g n i true 2 2 cond iv vn) (hr : VRow w g n V N) (hn : n ≤ 64) (hi : i ≤ 3) (hv : vn < n) :
    Calls Yba.prog 5 #[.pointer (some ⟨hB, 0, none⟩), .int .i64 (i : Int)] w fun e w' => e = .returned (.tuple #[]) ∧ SEnd g n w V (upd N vn i) w' := by
  have c0 := h.c0
  have c3 := h.c3
  have c4 := h.c4
  have o0 := h.op 0 _ rfl
  have o1 := h.op 1 _ rfl
  have o2 := h.op 2 _ rfl
  have o3 := h.op 3 _ rfl
  have o4 := h.op 4 _ rfl
  have o5 := h.op 5 _ rfl
  have o6 := h.op 6 _ rfl
  have o7 := h.op 7 _ rfl
  have o8 := h.op 8 _ rfl
  have o9 := h.op 9 _ rfl
  simp only [Nat.add_zero] at o0
  have hh := World.block_lt_of_cell? w _ c0
  have hg := hr.lt
  have r3 : w.cell? ⟨g, vn * 9 + 3, none⟩ = some (.int .i64 (N vn)) := hr.at_ vn (by omega) 3 _ rfl
  have f3 := hr.froz (vn * 9 + 3)
  have hne := h.hg
  have hgw : w.heap.size ≠ g := by omega
  have Hr := hide hr
  clear h hr
  simp only at hh
  go_enter Yba.func5, Yba.ntmps5
  go_wp2_with fail
  go_quiet (fail)
  go_wp2_with fail
  go_end0
  exact ⟨rfl, (((SEnd.refl (unhide Hr)).alloc _).drewN _).setNon vn hv _⟩

set_option maxRecDepth 100000 in
set_option maxHeartbeats 1000000 in
theorem shows_unk2 (hB oB g n i vn : Nat) (cond : Bool) (iv : Int) (V N : Nat → Int) (w : World) (h : HSt w hB oB g n i true 2 0 cond iv vn) (hr : VRow w g n V N) (hn : n ≤ 64) (hi : i ≤ 3) (hv : vn < n) :
    Calls Yba.prog 5 #[.pointer (some ⟨hB, 0, none⟩), .int .i64 (i : Int)] w fun e w' => e = .returned (.tuple #[]) ∧ SEnd g n w V N w' := by
  have c0 := h.c0
  have c3 := h.c3
  have c4 := h.c4
  have o0 := h.op 0 _ rfl
  have o1 := h.op 1 _ rfl
  have o2 := h.op 2 _ rfl
  have o3 := h.op 3 _ rfl
  have o4 := h.op 4 _ rfl
  have o5 := h.op 5 _ rfl
  have o6 := h.op 6 _ rfl
  have o7 := h.op 7 _ rfl
  have o8 := h.op 8 _ rfl
  have o9 := h.op 9 _ rfl
  simp only [Nat.add_zero] at o0
  have hh := World.block_lt_of_cell? w _ c0
  have hg := hr.lt
  have hne := h.hg
  have hgw : w.heap.size ≠ g := by omega
  have Hr := hide hr
  clear h hr
  simp only at hh
  go_enter Yba.func5, Yba.ntmps5
  go_wp2_with fail
  go_quiet (fail)
  go_wp2_with fail
  go_end0
  exact ⟨rfl, ((SEnd.refl (unhide Hr)).alloc _).drewN _⟩

set_option maxRecDepth 100000 in
set_option maxHeartbeats 1000000 in
theorem shows_fail2b (hB oB g n i vn : Nat) (cond : Bool) (iv : Int) (V N : Nat → Int) (w : World) (h : HSt w hB oB g n i true 2 3 cond iv vn) (hr : VRow w g n V N) (hn : n ≤ 64) (hi : i ≤ 3) (hv : vn < n) (hiv : (iv == 0) = false) :
    Calls Yba.prog 5 #[.pointer (some ⟨hB, 0, none⟩), .int .i64 (i : Int)] w fun e w' => e = .returned (.tuple #[]) ∧ SEnd g n w V N w' := by
  have c0 := h.c0
  have c3 := h.c3
  have c4 := h.c4
  have o0 := h.op 0 _ rfl
  have o1 := h.op 1 _ rfl
  have o2 := h.op 2 _ rfl
  have o3 := h.op 3 _ rfl
  have o4 := h.op 4 _ rfl
  have o5 := h.op 5 _ rfl
  have o6 := h.op 6 _ rfl
  have o7 := h.op 7 _ rfl
  have o8 := h.op 8 _ rfl
  have o9 := h.op 9 _ rfl
  simp only [Nat.add_zero] at o0
  have hh := World.block_lt_of_cell? w _ c0
  have hg := hr.lt
  have hne := h.hg
  have hgw : w.heap.size ≠ g := by omega
  have Hr := hide hr
  clear h hr
  simp only at hh
  go_enter Yba.func5, Yba.ntmps5
  go_wp2_with fail
  go_quiet (fail)
  go_wp2_with fail
  go_end0
  exact ⟨rfl, ((SEnd.refl (unhide Hr)).alloc _).drewN _⟩

end Go.Proofs.Ybulkazgc
