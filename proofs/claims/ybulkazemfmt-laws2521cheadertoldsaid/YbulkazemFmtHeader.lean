/-
  'LawS2521CHeader' and 'LawS2521CFresh' walked, FOR EVERY F: what fmt answers does not matter to either.
-/
import Derived.Test.YbulkazemFmtStandard
namespace Go.Proofs.YbulkazemFmt
open Go.RowKit Go.Extern.Stop Go.Stop Go.Extern

theorem standard_ex (F : Interp) (dt q : Int) (rem : Bool) (vn pr rv sr : ByteArray) (w : World) (hF : F.answers w.tape) :
    Calls Ybaf.prog 5 #[.agg #[.int .u8 dt, .bool rem, .string vn, .string pr, .string rv, .string sr], .int .u8 q] w fun e w' =>
      ∃ g : Nat, e = .returned (.slice (some ⟨g, 0, none⟩) 36 36) ∧ Laid w w' g (bits BinOp.or IntKind.u8 (q * 32 % 256) dt) rem :=
  (standard_any F dt q rem vn pr rv sr w hF).mono fun _ _ ⟨h1, h2⟩ => ⟨_, h1, h2⟩

set_option maxRecDepth 100000 in
set_option maxHeartbeats 1000000 in
theorem header_any (F : Interp) (q dt : Int) (rem : Bool) (vn pr rv : ByteArray) (w : World) (hF : F.answers w.tape) :
    Calls Ybaf.prog 3 #[.int .u8 q, .int .u8 dt, .bool rem, .string vn, .string pr, .string rv] w fun e w' => e = .returned (.bool true) ∧ Below w.heap.size w w' := by
  by_cases h1 : (4096 : Int) < (vn.size : Int)
  · go_enter Ybaf.func3, Ybaf.ntmps3
    go_wp2_with fail
    go_ret
    exact ⟨rfl, Below.refl _ _⟩
  · by_cases h2 : (4096 : Int) < (pr.size : Int)
    · go_enter Ybaf.func3, Ybaf.ntmps3
      go_wp2_with fail
      go_ret
      exact ⟨rfl, Below.refl _ _⟩
    · by_cases h3 : (4096 : Int) < (rv.size : Int)
      · go_enter Ybaf.func3, Ybaf.ntmps3
        go_wp2_with fail
        go_ret
        exact ⟨rfl, Below.refl _ _⟩
      · go_enter Ybaf.func3, Ybaf.ntmps3
        go_wp2_with fail
        refine (standard_ex F dt q rem vn pr rv ⟨#[]⟩ _ (by exact hF)).mono ?_
        rintro e w1 ⟨g, rfl, L⟩
        have e0 := L.c0
        have e1 := L.c1
        have e2 := L.c2
        have e3 := L.c3
        have e4 := L.c4
        have e5 := L.c5
        have e6 := L.c6
        have e7 := L.c7
        have hb : Below w.heap.size w w1 := ((Below.refl _ _).alloc (Nat.le_refl _) _).trans (L.below.mono (by simp))
        clear L
        have hne : (bits BinOp.or IntKind.u8 (q * 32 % 256) dt != bits BinOp.or IntKind.u8 (q * 32 % 256) dt) = false := by simp
        cases rem
        all_goals
          go_wp2_with fail
          go_ret
          exact ⟨rfl, hb⟩

set_option maxRecDepth 100000 in
set_option maxHeartbeats 1000000 in
theorem fresh_any (F : Interp) (q dt : Int) (rem : Bool) (vn : ByteArray) (w : World) (hF : F.answers w.tape) :
    Calls Ybaf.prog 4 #[.int .u8 q, .int .u8 dt, .bool rem, .string vn] w fun e w' => e = .returned (.bool true) ∧ Below w.heap.size w w' := by
  by_cases h1 : (4096 : Int) < (vn.size : Int)
  · go_enter Ybaf.func4, Ybaf.ntmps4
    go_wp2_with fail
    go_ret
    exact ⟨rfl, Below.refl _ _⟩
  · go_enter Ybaf.func4, Ybaf.ntmps4
    go_wp2_with fail
    refine (standard_ex F dt q rem vn ⟨#[]⟩ ⟨#[]⟩ ⟨#[]⟩ _ (by exact hF)).mono ?_
    rintro e w1 ⟨g, rfl, L⟩
    have hid : ∀ o, w1.cell? ⟨w.heap.size, o, none⟩ = (w.alloc (.cells #[.int .u8 dt, .bool rem, .string vn, .string ⟨#[]⟩, .string ⟨#[]⟩, .string ⟨#[]⟩] 23)).cell? ⟨w.heap.size, o, none⟩ := fun o => L.below.cell (by simp)
    have i0 : w1.cell? ⟨w.heap.size, 0, none⟩ = some (.int .u8 dt) := by rw [hid]; simp
    have i1 : w1.cell? ⟨w.heap.size, 1, none⟩ = some (.bool rem) := by rw [hid]; simp
    have i2 : w1.cell? ⟨w.heap.size, 2, none⟩ = some (.string vn) := by rw [hid]; simp
    have i3 : w1.cell? ⟨w.heap.size, 3, none⟩ = some (.string ⟨#[]⟩) := by rw [hid]; simp
    have i4 : w1.cell? ⟨w.heap.size, 4, none⟩ = some (.string ⟨#[]⟩) := by rw [hid]; simp
    have i5 : w1.cell? ⟨w.heap.size, 5, none⟩ = some (.string ⟨#[]⟩) := by rw [hid]; simp
    have hF1 : F.answers w1.tape := by rw [L.below.tape]; exact hF
    have HF1 : Hid _ := hF1
    have HL : Hid _ := L
    have hb : Below w.heap.size w w1 := ((Below.refl _ _).alloc (Nat.le_refl _) _).trans (L.below.mono (by simp))
    clear hF1 L hid
    go_wp2_with fail
    refine (standard_ex F dt q rem vn ⟨#[]⟩ ⟨#[]⟩ ⟨#[]⟩ _ (by exact HF1.out)).mono ?_
    rintro e w2 ⟨g2, rfl, L2⟩
    have hlt := HL.out.hi
    have hlo := HL.out.lo
    have a0 : w2.cell? ⟨g, 0, none⟩ = some (.int .u8 (bits BinOp.or IntKind.u8 (q * 32 % 256) dt)) := by rw [L2.below.cell hlt]; exact HL.out.c0
    have af : w2.frozen? ⟨g, 0, none⟩ = false := by rw [L2.below.frozen hlt]; exact HL.out.froz 0
    have b0 := L2.c0
    have hne : g ≠ g2 := by have := L2.lo; omega
    have hne' : g2 ≠ g := fun e => hne e.symm
    have heq : (bits BinOp.or IntKind.u8 (q * 32 % 256) dt == bits BinOp.or IntKind.u8 (q * 32 % 256) dt) = true := by simp
    have hb2 : Below w.heap.size w w2 := hb.trans (L2.below.mono hb.size)
    have hg : w.heap.size ≤ g := by simp at hlo; omega
    clear L2 HL hlo hlt i0 i1 i2 i3 i4 i5
    go_wp2_with fail
    go_ret
    exact ⟨rfl, hb2.setCell hg _⟩
end Go.Proofs.YbulkazemFmt
