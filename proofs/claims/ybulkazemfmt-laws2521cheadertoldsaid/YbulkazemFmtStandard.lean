/-
  '(Identity).standard' walked, FOR EVERY F (whatever fmt.Sprintf answers): a new row of 36 bytes; its first eight.
-/
import Derived.Test.YbulkazemFmtFacts
import Derived.WalkKit
import Derived.WalkSpells
import Derived.Laws.CopyOwn
import Derived.Deep.RegionLaw
import Derived.BigRegion
namespace Go.Proofs.YbulkazemFmt
open Go.RowKit Go.Extern.Stop Go.Stop Go.Extern

attribute [local go_sem] call6 guardf fmt0 fmt0r op9_115

theorem mk36 (w : World) : (Instr.makeSlice 24 (.int .i64 36) (.int .i64 36)).run Ybaf.prog w = .ok (.slice (some ⟨w.heap.size, 0, none⟩) 36 36) (w.alloc (.cells (Array.replicate 36 (.int .u8 0)) 5)) := by kernel_rfl

/-- What 'copy(dst, t)' lays: the first n bytes of t. -/
def bytesOf (t : ByteArray) (n : Nat) : List Value := (t.data.toList.take n).map fun x => Value.int .u8 (x.toNat : Int)
theorem bytesOf_length (t : ByteArray) (n : Nat) : (bytesOf t n).length ≤ n := by
  simp [bytesOf]; omega

theorem run_copy_str {P : Program} (w : World) (dT sT ty elem : TypeId) (b o dLen dCap : Nat) (t : ByteArray)
    (hu : P.underlying dT = some (.slice elem)) (hz : ∀ w, (Go.sizeOf elem).run P w = .ok 1 w)
    (hc : ∀ j, j < dLen → (w.cell? ⟨b, o + j, none⟩).isSome = true) (hf : ∀ j, j < dLen → w.frozen? ⟨b, o + j, none⟩ = false) :
    (Builtin.copy_ #[dT, sT] ty #[.slice (some ⟨b, o, none⟩) dLen dCap, .string t]).run P w = .ok (goInt (Nat.min t.size dLen)) (w.setCells b o (bytesOf t (Nat.min t.size dLen))) := by
  have hl := bytesOf_length t (Nat.min t.size dLen)
  have hmin : Nat.min t.size dLen ≤ dLen := Nat.min_le_right _ _
  have hst := run_storeCells_cells (P := P) b o (bytesOf t (Nat.min t.size dLen)) 0 w (fun j hj => by simpa using hc j (by omega)) (fun j hj => by simpa using hf j (by omega)) (by
    intro v hv
    obtain ⟨x, _, rfl⟩ := List.mem_map.1 hv
    rfl)
  have e : ((t.extract 0 (Nat.min t.size dLen)).data.map fun x => Value.int .u8 (x.toNat : Int)).toList = bytesOf t (Nat.min t.size dLen) := by
    simp [bytesOf]
  simp only [Builtin.copy_, List.getElem?_toArray, List.getElem?_cons_zero, List.getElem?_cons_succ, Sem.run_bind, run_underlying hu, Result.andThen_ok, Builtin.lenOf, Sem.run_pure, hz, Builtin.firstCells, e, hst]
  rfl

theorem step_copy_str {P : Program} {ops : Array Oper} {o : Oper} {a : Act} {w : World} {K : Act → World → Prop} {Q : Exit → Act → World → Prop} {E : Prop}
    (hg : o.guard = none) (d x : Operand) (dT sT : TypeId) (hop : o.op = Op.call { callee := Callee.builtin Builtin.copy, args := #[d, x], argTypes := #[dT, sT] })
    (elem : TypeId) (hu : P.underlying dT = some (.slice elem)) (hz : ∀ w, (Go.sizeOf elem).run P w = .ok 1 w)
    (b off dLen dCap : Nat) (hd : a.eval d = .slice (some ⟨b, off, none⟩) dLen dCap) (t : ByteArray) (hx : a.eval x = .string t)
    (hc : ∀ j, j < dLen → (w.cell? ⟨b, off + j, none⟩).isSome = true) (hf : ∀ j, j < dLen → w.frozen? ⟨b, off + j, none⟩ = false)
    (hK : K (a.put o.dst (goInt (Nat.min t.size dLen))) (w.setCells b off (bytesOf t (Nat.min t.size dLen)))) :
    if Region.wanted o (yielded ops a.tmps) = true then Oper.wp P o a w K Q else E := by
  have hw : Region.wanted o (yielded ops a.tmps) = true := by simp [Region.wanted, hg]
  rw [if_pos hw]
  have hrun := run_copy_str (P := P) w dT sT o.type elem b off dLen dCap t hu hz hc hf
  unfold Oper.wp
  simp [execOp, hop, resolve, invoke, builtin, hd, hx, hrun, Result.andThen]
  exact hK

theorem kept3 (w : World) (X Y : Obj) (C : Array Value) (i : Nat) : (((w.alloc X).alloc (.cells C 5)).alloc Y).cell? ⟨w.heap.size + 1, i, none⟩ = C[i]? := by
  rw [World.cell?_alloc_past _ _ _ (by simp), World.cell?_alloc_at _ _ _ _ (by simp)]
theorem froz3 (w : World) (X Y : Obj) (C : Array Value) (i : Nat) : (((w.alloc X).alloc (.cells C 5)).alloc Y).frozen? ⟨w.heap.size + 1, i, none⟩ = false := by
  rw [World.frozen?_alloc_past _ _ _ (by simp), World.frozen?_alloc_at _ _ _ _ (by simp)]

theorem size5 (w : World) : (Go.sizeOf 5).run Ybaf.prog w = .ok 1 w := by kernel_rfl

theorem size_cells (b : Nat) : ∀ (vs : List Value) (o : Nat) (w : World), (w.setCells b o vs).heap.size = w.heap.size
  | [], _, _ => rfl
  | v :: r, o, w => by rw [World.setCells, size_cells b r]; simp
theorem below_cells {B b : Nat} {a : World} (hb : B ≤ b) : ∀ (vs : List Value) (o : Nat) (w : World), Below B a w → Below B a (w.setCells b o vs)
  | [], _, _, h => h
  | v :: r, o, w, h => below_cells hb r (o + 1) _ (h.setCell (by exact hb) v)

/-- WHAT 'standard' LEAVES: a new row of 36 bytes in block g; its head. -/
structure Laid (w w' : World) (g : Nat) (b0 : Int) (rem : Bool) : Prop where
  below : Below w.heap.size w w'
  lo : w.heap.size ≤ g
  hi : g < w'.heap.size
  froz : ∀ o, w'.frozen? ⟨g, o, none⟩ = false
  c0 : w'.cell? ⟨g, 0, none⟩ = some (.int .u8 b0)
  c1 : w'.cell? ⟨g, 1, none⟩ = some (.int .u8 (if rem then 128 else 0))
  c2 : w'.cell? ⟨g, 2, none⟩ = some (.int .u8 5)
  c3 : w'.cell? ⟨g, 3, none⟩ = some (.int .u8 2)
  c4 : w'.cell? ⟨g, 4, none⟩ = some (.int .u8 31)
  c5 : w'.cell? ⟨g, 5, none⟩ = some (.int .u8 0)
  c6 : w'.cell? ⟨g, 6, none⟩ = some (.int .u8 0)
  c7 : w'.cell? ⟨g, 7, none⟩ = some (.int .u8 0)

theorem laid_of (w : World) (X Y : Obj) (C : Array Value) (vs : List Value) (b0 : Int) (rem : Bool) (h0 : C[0]? = some (.int .u8 b0)) (h1 : C[1]? = some (.int .u8 (if rem then 128 else 0)))
    (h2 : C[2]? = some (.int .u8 5)) (h3 : C[3]? = some (.int .u8 2)) (h4 : C[4]? = some (.int .u8 31)) (h5 : C[5]? = some (.int .u8 0)) (h6 : C[6]? = some (.int .u8 0)) (h7 : C[7]? = some (.int .u8 0)) :
    Laid w ((((w.alloc X).alloc (.cells C 5)).alloc Y).drew.drew.setCells (w.heap.size + 1) 8 vs) (w.heap.size + 1) b0 rem := by
  have hc : ∀ i, i < 8 → ((((w.alloc X).alloc (.cells C 5)).alloc Y).drew.drew.setCells (w.heap.size + 1) 8 vs).cell? ⟨w.heap.size + 1, i, none⟩ = C[i]? := fun i hi => by
    rw [World.cell?_setCells_out _ _ _ _ _ (fun _ _ => .inl hi)]; exact kept3 w X Y C i
  refine ⟨?_, by omega, ?_, fun o => ?_, ?_, ?_, ?_, ?_, ?_, ?_, ?_, ?_⟩
  · exact below_cells (by omega) _ _ _ ((((Below.refl _ _).alloc (Nat.le_refl _) _).alloc (by simp) _).alloc (by simp; omega) _).drew.drew
  · rw [size_cells]; show w.heap.size + 1 < (((w.alloc X).alloc (.cells C 5)).alloc Y).heap.size; simp
  · rw [World.frozen?_setCells]; exact froz3 w X Y C o
  · rw [hc 0 (by omega), h0]
  · rw [hc 1 (by omega), h1]
  · rw [hc 2 (by omega), h2]
  · rw [hc 3 (by omega), h3]
  · rw [hc 4 (by omega), h4]
  · rw [hc 5 (by omega), h5]
  · rw [hc 6 (by omega), h6]
  · rw [hc 7 (by omega), h7]
theorem Laid.drew {w w' : World} {g : Nat} {b0 : Int} {rem : Bool} (h : Laid w w' g b0 rem) : Laid w w'.drew g b0 rem :=
  ⟨h.below.drew, h.lo, h.hi, h.froz, h.c0, h.c1, h.c2, h.c3, h.c4, h.c5, h.c6, h.c7⟩

set_option maxRecDepth 100000 in
set_option maxHeartbeats 1000000 in
theorem standard_any (F : Interp) (dt q : Int) (rem : Bool) (vn pr rv sr : ByteArray) (w : World) (hF : F.answers w.tape) :
    Calls Ybaf.prog 5 #[.agg #[.int .u8 dt, .bool rem, .string vn, .string pr, .string rv, .string sr], .int .u8 q] w fun e w' =>
      e = .returned (.slice (some ⟨w.heap.size + 1, 0, none⟩) 36 36) ∧ Laid w w' (w.heap.size + 1) (bits BinOp.or IntKind.u8 (q * 32 % 256) dt) rem := by
  have hF' := answers_open hF
  have hmk := mk36
  have parts : ∀ (c1 : Int) (C : Array Value), (((((Array.replicate 36 (Value.int IntKind.u8 0)).setIfInBounds 0 (Value.int IntKind.u8 (bits BinOp.or IntKind.u8 (q * 32 % 256) dt))).setIfInBounds 1 (Value.int IntKind.u8 c1)).setIfInBounds 2 (Value.int IntKind.u8 5)).setIfInBounds 3 (Value.int IntKind.u8 2)).setIfInBounds 4 (Value.int IntKind.u8 31) = C →
      C.size = 36 ∧ Hid (C[0]? = some (.int .u8 (bits BinOp.or IntKind.u8 (q * 32 % 256) dt)) ∧ C[1]? = some (.int .u8 c1) ∧ C[2]? = some (.int .u8 5) ∧ C[3]? = some (.int .u8 2) ∧ C[4]? = some (.int .u8 31) ∧ C[5]? = some (.int .u8 0) ∧ C[6]? = some (.int .u8 0) ∧ C[7]? = some (.int .u8 0)) := by
    intro c1 C h
    subst h
    refine ⟨by simp, ?_⟩
    show _ ∧ _
    refine ⟨?_, ?_, ?_, ?_, ?_, ?_, ?_, ?_⟩ <;> simp
  have parts0 : ∀ (C : Array Value), ((((Array.replicate 36 (Value.int IntKind.u8 0)).setIfInBounds 0 (Value.int IntKind.u8 (bits BinOp.or IntKind.u8 (q * 32 % 256) dt))).setIfInBounds 2 (Value.int IntKind.u8 5)).setIfInBounds 3 (Value.int IntKind.u8 2)).setIfInBounds 4 (Value.int IntKind.u8 31) = C →
      C.size = 36 ∧ Hid (C[0]? = some (.int .u8 (bits BinOp.or IntKind.u8 (q * 32 % 256) dt)) ∧ C[1]? = some (.int .u8 0) ∧ C[2]? = some (.int .u8 5) ∧ C[3]? = some (.int .u8 2) ∧ C[4]? = some (.int .u8 31) ∧ C[5]? = some (.int .u8 0) ∧ C[6]? = some (.int .u8 0) ∧ C[7]? = some (.int .u8 0)) := by
    intro C h
    subst h
    refine ⟨by simp, ?_⟩
    show _ ∧ _
    refine ⟨?_, ?_, ?_, ?_, ?_, ?_, ?_, ?_⟩ <;> simp
  have Hp : Hid _ := parts
  have Hp0 : Hid _ := parts0
  clear parts parts0
  cases rem with
  | true =>
    go_enter Ybaf.func5, Ybaf.ntmps5
    go_wp2
    generalize hC : (((((Array.replicate 36 (Value.int IntKind.u8 0)).setIfInBounds 0 (Value.int IntKind.u8 (bits BinOp.or IntKind.u8 (q * 32 % 256) dt))).setIfInBounds 1 (Value.int IntKind.u8 128)).setIfInBounds 2 (Value.int IntKind.u8 5)).setIfInBounds 3 (Value.int IntKind.u8 2)).setIfInBounds 4 (Value.int IntKind.u8 31) = C
    obtain ⟨hsz, HC⟩ := Hp.out 128 C hC
    clear hC Hp Hp0
    go_region_law ((refine step_copy_str rfl (.tmp 29) (.tmp 40) 24 9 rfl 5 Ybaf.underlying24 size5 (w.heap.size + 1) 8 28 28 (by rfl) _ (by rfl) (fun j hj => by simp [kept3, hsz]; omega) (fun j hj => by simp [froz3]) ?_))
    all_goals go_wp2
    all_goals go_ret
    all_goals
      obtain ⟨g0, g1, g2, g3, g4, g5, g6, g7⟩ := HC.out
      exact ⟨rfl, laid_of w _ _ C _ _ true g0 g1 g2 g3 g4 g5 g6 g7⟩
  | false =>
    go_enter Ybaf.func5, Ybaf.ntmps5
    go_wp2
    generalize hC : ((((Array.replicate 36 (Value.int IntKind.u8 0)).setIfInBounds 0 (Value.int IntKind.u8 (bits BinOp.or IntKind.u8 (q * 32 % 256) dt))).setIfInBounds 2 (Value.int IntKind.u8 5)).setIfInBounds 3 (Value.int IntKind.u8 2)).setIfInBounds 4 (Value.int IntKind.u8 31) = C
    obtain ⟨hsz, HC⟩ := Hp0.out C hC
    clear hC Hp Hp0
    go_region_law ((refine step_copy_str rfl (.tmp 29) (.tmp 40) 24 9 rfl 5 Ybaf.underlying24 size5 (w.heap.size + 1) 8 28 28 (by rfl) _ (by rfl) (fun j hj => by simp [kept3, hsz]; omega) (fun j hj => by simp [froz3]) ?_))
    all_goals go_wp2
    all_goals go_ret
    all_goals
      obtain ⟨g0, g1, g2, g3, g4, g5, g6, g7⟩ := HC.out
      exact ⟨rfl, laid_of w _ _ C _ _ false g0 g1 g2 g3 g4 g5 g6 g7⟩
end Go.Proofs.YbulkazemFmt
