/-
  'LawS2524CShows': what its walk knows of the world, step by step.
-/
import Derived.Test.YbulkazgcAct
namespace Go.Proofs.Ybulkazgc
open Go.RowKit
set_option linter.unusedVariables false

def Z10 : Array Value := #[.int .i64 0, .int .u8 0, .string ⟨#[]⟩, .string ⟨#[]⟩, .bool false, .int .u64 0, .int .i64 0, .int .i64 0, .int .u8 0, .int .u64 0]
theorem Yba.info26 : (Yba.prog.info? 26).map (fun i => (i.zero, i.size)) = some (some (.agg Z10), 10) := by kernel_rfl
theorem Yba.bytes26 : (Yba.prog.info? 26).map (·.bytes) = some 96 := by kernel_rfl

theorem mkO (n : Nat) (hn : n ≤ 64) (w : World) : (Instr.makeSlice 27 (.int .i64 (n : Int)) (.int .i64 (n : Int))).run Yba.prog w = .ok (.slice (some ⟨w.heap.size, 0, none⟩) n n) (w.alloc (.cells (madeCells Z10 (n * 10)) 26)) := by
  cases hq : Yba.prog.info? 26 with
  | none => have := Yba.info26; simp [hq] at this
  | some i0 =>
    have h1 := Yba.info26
    have h2 := Yba.bytes26
    simp only [hq, Option.map_some, Option.some.injEq, Prod.mk.injEq] at h1 h2
    have hr := run_make (P := Yba.prog) w 27 26 i0 (.agg Z10) Yba.underlying27 hq h1.1 .i64 .i64 n n (by omega) (by omega) (by rw [h2]; omega) (by omega)
    simpa [h1.2, Value.cells] using hr

theorem Yba.size26 : (Yba.prog.info? 26).map (·.size) = some 10 := by kernel_rfl
theorem orec_one (k st : Int) (cond : Bool) (iv : Int) (vn : Nat) : (orec k st cond iv vn).toArray.all (·.oneCell') = true := all_oneCell_toArray (by
  intro v hv
  simp only [orec, List.mem_cons, List.not_mem_nil, or_false] at hv
  rcases hv with rfl | rfl | rfl | rfl | rfl | rfl | rfl | rfl | rfl | rfl <;> rfl)
theorem made_there (w : World) (A : Obj) (i : Nat) : ((w.alloc A).alloc (.cells (madeCells Z10 ((i + 1) * 10)) 26)).there (w.heap.size + 1) (i * 10) 10 := fun j hj => by
  rw [World.cell?_alloc_at _ _ _ _ (by simp), World.frozen?_alloc_at _ _ _ _ (by simp)]
  refine ⟨?_, rfl⟩
  simp only [Array.getElem?_eq_some_iff, Option.isSome_iff_exists]
  exact ⟨_, by rw [size_madeCells]; omega, rfl⟩

/-- The op's own variable lies in block B, the ops in block B + 1. -/
structure W1 (B : Nat) (w : World) (i : Nat) (k st : Int) (cond : Bool) (iv : Int) (vn : Nat) (X : World) : Prop where
  size : X.heap.size = B + 2
  loc : X.rangeAt B 0 (orec k st cond iv vn)
  ops : X.rangeAt (B + 1) (i * 10) (orec k st cond iv vn)
  below : Below B w X

theorem W1.made (w : World) (i : Nat) (k st : Int) (cond : Bool) (iv : Int) (vn : Nat) :
    W1 w.heap.size w i k st cond iv vn (((w.alloc (.cells (orec k st cond iv vn).toArray 26)).alloc (.cells (madeCells Z10 ((i + 1) * 10)) 26)).setCells (w.heap.size + 1) (i * 10) (orec k st cond iv vn)) := by
  refine ⟨by rw [size_cells]; simp, ?_, World.rangeAt_setCells_same _ _ _ _ (made_there _ _ i), below_cells (by omega) _ _ _ (((Below.refl _ _).alloc (Nat.le_refl _) _).alloc (by simp) _)⟩
  refine World.rangeAt_setCells_apart (fun j v hv => ?_) _ _ _ (.inl (by omega))
  rw [World.cell?_alloc_past _ _ _ (by simp), World.cell?_alloc_at _ _ _ _ rfl]
  simpa using hv

theorem rangeAt_kept {X Y : World} {b o : Nat} {cs : List Value} (h : X.rangeAt b o cs) (hb : Y.heap[b]? = X.heap[b]?) : Y.rangeAt b o cs :=
  fun j v hv => (World.cell?_of_block (a := ⟨b, o + j, none⟩) hb).trans (h j v hv)
theorem VRow.kept {X Y : World} {g n : Nat} {V N : Nat → Int} (h : VRow X g n V N) (hs : X.heap.size ≤ Y.heap.size) (hb : Y.heap[g]? = X.heap[g]?) : VRow Y g n V N :=
  ⟨by have := h.lt; omega, fun j hj => rangeAt_kept (h.at_ j hj) hb, fun o => (World.frozen?_of_block (a := ⟨g, o, none⟩) hb).trans (h.froz o)⟩

/-- Behind the first 'fresh': the versions in block B + 2. -/
structure W2 (B : Nat) (w : World) (n i : Nat) (k st : Int) (cond : Bool) (iv : Int) (vn : Nat) (X : World) : Prop where
  size : X.heap.size = B + 3
  loc : X.rangeAt B 0 (orec k st cond iv vn)
  ops : X.rangeAt (B + 1) (i * 10) (orec k st cond iv vn)
  row : VRow X (B + 2) n (fun _ => -1) (fun _ => -1)
  below : Below B w X

theorem W1.fresh {B : Nat} {w : World} {i : Nat} {k st : Int} {cond : Bool} {iv : Int} {vn : Nat} {X : World} (h : W1 B w i k st cond iv vn X) (n : Nat) (hn : n ≤ 64) :
    Calls Yba.prog 4 #[.int .i64 (n : Int)] X fun e w' => e = .returned (.slice (some ⟨B + 2, 0, none⟩) n n) ∧ W2 B w n i k st cond iv vn w' := by
  have hs := h.size
  refine (fresh_any n hn X).mono ?_
  rintro e w' ⟨rfl, h1, h2, h3⟩
  rw [hs] at h1 h2 h3 ⊢
  exact ⟨rfl, h1, rangeAt_kept h.loc (h2.block _ (by omega)), rangeAt_kept h.ops (h2.block _ (by omega)), h3, h.below.trans (h2.mono (by omega))⟩

/-- Behind 'shows': the history in block hB. -/
structure W3 (B hB : Nat) (w : World) (n i : Nat) (del : Bool) (k st : Int) (cond : Bool) (iv : Int) (vn : Nat) (V N : Nat → Int) (X : World) : Prop where
  lo : B + 2 < hB
  hi : hB < X.heap.size
  loc : X.rangeAt B 0 (orec k st cond iv vn)
  ops : X.rangeAt (B + 1) (i * 10) (orec k st cond iv vn)
  c0 : X.cell? ⟨hB, 0, none⟩ = some (.slice (some ⟨B + 1, 0, none⟩) (i + 1) (i + 1))
  c3 : X.cell? ⟨hB, 3, none⟩ = some (.bool del)
  c4 : X.cell? ⟨hB, 4, none⟩ = some (.slice (some ⟨B + 2, 0, none⟩) n n)
  row : VRow X (B + 2) n V N
  below : Below B w X

theorem W2.shows {B : Nat} {w : World} {n i : Nat} {k st : Int} {cond : Bool} {iv : Int} {vn : Nat} {X : World} (h : W2 B w n i k st cond iv vn X) (del : Bool) (arr : Array Value)
    (h0 : arr[0]? = some (.slice (some ⟨B + 1, 0, none⟩) (i + 1) (i + 1))) (h3 : arr[3]? = some (.bool del)) (h4 : arr[4]? = some (.slice (some ⟨B + 2, 0, none⟩) n n))
    (hn : n ≤ 64) (hi : i ≤ 3) (hv : vn < n) (hk : k = 0 ∨ k = 1 ∨ k = 2) (hst : st = 0 ∨ st = 1 ∨ st = 2 ∨ st = 3) (hd : k = 2 → st = 1 → 1 ≤ vn) :
    Calls Yba.prog 5 #[.pointer (some ⟨X.heap.size, 0, none⟩), .int .i64 (i : Int)] (X.alloc (.cells arr 38)) fun e w' => e = .returned (.tuple #[]) ∧
      W3 B X.heap.size w n i del k st cond iv vn (outV (act del k st cond iv vn) (fun _ => -1) vn i) (outN (act del k st cond iv vn) (fun _ => -1) vn i) w' := by
  have hs := h.size
  have hx : ∀ o, (X.alloc (.cells arr 38)).cell? ⟨X.heap.size, o, none⟩ = arr[o]? := fun o => World.cell?_alloc_at _ _ _ _ rfl
  have hH : HSt (X.alloc (.cells arr 38)) X.heap.size (B + 1) (B + 2) n i del k st cond iv vn := ⟨(hx 0).trans h0, (hx 3).trans h3, (hx 4).trans h4, World.rangeAt_alloc h.ops _, by omega, by omega⟩
  refine (shows_any X.heap.size (B + 1) (B + 2) n i vn del k st cond iv _ _ _ hH (h.row.alloc _) hn hi hv hk hst hd).mono ?_
  rintro e w' ⟨rfl, hE⟩
  have hsz := hE.size
  simp only [World.size_alloc] at hsz
  have hkp : ∀ x, x < X.heap.size + 1 → x ≠ B + 2 → w'.heap[x]? = (X.alloc (.cells arr 38)).heap[x]? := fun x h1 h2 => hE.kept x (by simpa using h1) h2
  have hkx : ∀ o, w'.cell? ⟨X.heap.size, o, none⟩ = arr[o]? := fun o => (World.cell?_of_block (a := ⟨X.heap.size, o, none⟩) (hkp X.heap.size (by omega) (by omega))).trans (hx o)
  refine ⟨rfl, ⟨by omega, by omega, rangeAt_kept (World.rangeAt_alloc h.loc _) (hkp _ (by omega) (by omega)), rangeAt_kept (World.rangeAt_alloc h.ops _) (hkp _ (by omega) (by omega)), (hkx 0).trans h0, (hkx 3).trans h3, (hkx 4).trans h4, hE.row, ?_⟩⟩
  refine h.below.trans ⟨hE.os, hE.tape, hE.output, by omega, fun x hx' => ?_⟩
  rw [hkp x (by omega) (by omega), Below.heap_alloc _ _ _ (by omega)]

/-- With the second 'fresh': what is expected lies in block G. -/
structure W4 (B hB G : Nat) (w : World) (n i : Nat) (del : Bool) (k st : Int) (cond : Bool) (iv : Int) (vn : Nat) (V N V2 N2 : Nat → Int) (X : World) : Prop where
  base : W3 B hB w n i del k st cond iv vn V N X
  lo : hB < G
  exp : VRow X G n V2 N2

theorem W3.fresh {B hB : Nat} {w : World} {n i : Nat} {del : Bool} {k st : Int} {cond : Bool} {iv : Int} {vn : Nat} {V N : Nat → Int} {X : World} (h : W3 B hB w n i del k st cond iv vn V N X) (hn : n ≤ 64) :
    Calls Yba.prog 4 #[.int .i64 (n : Int)] X fun e w' => e = .returned (.slice (some ⟨X.heap.size, 0, none⟩) n n) ∧ W4 B hB X.heap.size w n i del k st cond iv vn V N (fun _ => -1) (fun _ => -1) w' := by
  have hlo := h.lo
  have hhi := h.hi
  refine (fresh_any n hn X).mono ?_
  rintro e w' ⟨rfl, h1, h2, h3⟩
  have hb : ∀ x, x < X.heap.size → w'.heap[x]? = X.heap[x]? := fun x hx => h2.block x hx
  have hc : ∀ o, w'.cell? ⟨hB, o, none⟩ = X.cell? ⟨hB, o, none⟩ := fun o => World.cell?_of_block (a := ⟨hB, o, none⟩) (hb hB hhi)
  exact ⟨rfl, ⟨hlo, by omega, rangeAt_kept h.loc (hb _ (by omega)), rangeAt_kept h.ops (hb _ (by omega)), (hc 0).trans h.c0, (hc 3).trans h.c3, (hc 4).trans h.c4, h.row.kept (by omega) (hb _ h.row.lt), h.below.trans (h2.mono (by omega))⟩, hhi, h3⟩

theorem W4.after {B hB G : Nat} {w : World} {n i : Nat} {del : Bool} {k st : Int} {cond : Bool} {iv : Int} {vn : Nat} {V N V2 N2 V3 N3 : Nat → Int} {X Y : World} (h : W4 B hB G w n i del k st cond iv vn V N V2 N2 X) (hE : SEnd G n X V3 N3 Y) :
    W4 B hB G w n i del k st cond iv vn V N V3 N3 Y := by
  have hlo := h.base.lo
  have hhi := h.base.hi
  have hG := h.lo
  have hs := hE.size
  have hb : ∀ x, x < X.heap.size → x ≠ G → Y.heap[x]? = X.heap[x]? := hE.kept
  have hc : ∀ o, Y.cell? ⟨hB, o, none⟩ = X.cell? ⟨hB, o, none⟩ := fun o => World.cell?_of_block (a := ⟨hB, o, none⟩) (hb hB hhi (by omega))
  exact ⟨⟨hlo, by omega, rangeAt_kept h.base.loc (hb _ (by omega) (by omega)), rangeAt_kept h.base.ops (hb _ (by omega) (by omega)), (hc 0).trans h.base.c0, (hc 3).trans h.base.c3, (hc 4).trans h.base.c4,
    h.base.row.kept hs (hb _ h.base.row.lt (by omega)), h.base.below.trans ⟨hE.os, hE.tape, hE.output, hs, fun x hx => hb x (by omega) (by omega)⟩⟩, hG, hE.row⟩

theorem W4.drewN {B hB G : Nat} {w : World} {n i : Nat} {del : Bool} {k st : Int} {cond : Bool} {iv : Int} {vn : Nat} {V N V2 N2 : Nat → Int} {X : World} (h : W4 B hB G w n i del k st cond iv vn V N V2 N2 X) (m : Nat) :
    W4 B hB G w n i del k st cond iv vn V N V2 N2 (X.drewN m) := h.after ((SEnd.refl h.exp).drewN m)
end Go.Proofs.Ybulkazgc
