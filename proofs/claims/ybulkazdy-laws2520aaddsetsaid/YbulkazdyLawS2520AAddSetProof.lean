/-
  'Rows.LawS2520AAddSetSaid' PROVED. The frame: the shell that was given with the seat; the walk: YbulkazdyWalk.lean.
-/
import Derived.Test.YbulkazdyRows
import Derived.Test.YbulkazdyWalk
import Derived.WalkKit
import Derived.ProofKit
import Derived.OpenShut
import Derived.ShutString
import Derived.ChangeOld
import Derived.Below
namespace Go.Proofs.Ybulkazdy.lawS2520AAddSet
open Go.ChangeShapes Go.WideShapes Go.ChangeAt Go.RowKit
open Go.ChangeMaps (open_string shut_string)
set_option linter.unusedVariables false

theorem own : ownKnob Yba.prog.godebug = none := by kernel_rfl
theorem laidOut : laidOutB Yba.prog = true := by kernel_rfl

/-- WHAT THE WALK IS TOLD OF A SLICE OF INTEGERS THAT CAME IN: it is nil; or it leads to a row of 'cap' cells, the numbers 'zs' (the first 'len' are its elements, the rest its spare room), each fitting its kind. -/
def IsRow (k : IntKind) (w : World) (a : Option Addr) (len cap : Nat) (zs : List Int) : Prop :=
  (a = none ∧ len = 0 ∧ cap = 0 ∧ zs = []) ∨
  ∃ x, a = some x ∧ len ≤ cap ∧ cap ≤ maxLen ∧ zs.length = cap ∧ (∀ i, i < zs.length → w.cell? (x.add i) = some (.int k (zs.getD i 0))) ∧ ∀ n ∈ zs, (Lit.int k n).wf = true

/-! ### STEP 1: THE WALK: the Go text returns true, AND WRITES NOTHING THAT WAS THERE: 'Below w.heap.size w w'' (Derived/Below.lean: '.refl', '.alloc', '.drew', '.setCell' at a new block, '.trans'). Open each 'IsRow' by 'rcases' AHEAD of 'go_enter'; part every test ahead of the walk. -/
set_option maxRecDepth 100000 in
theorem walk (a0 : Int) (a1 : Option Addr) (len1 cap1 : Nat) (z1 : List Int) (w : World) (w0 : (Lit.int .u8 a0).wf = true) (w1 : IsRow .u64 w a1 len1 cap1 z1) :
    Calls Yba.prog 3 #[.int .u8 a0, .slice a1 len1 cap1] w fun e w' => e = .returned (.bool true) ∧ Below w.heap.size w w' := by
  obtain ⟨p0, p1⟩ := bounds_u8 w0
  have hz : ∀ i, i < len1 → ∃ bb off : Nat, a1 = some ⟨bb, off, none⟩ ∧ bb < w.heap.size ∧ w.cell? ⟨bb, off + i, none⟩ = some (.int .u64 (z1.getD i 0)) := by
    intro i hi
    rcases w1 with ⟨_, h, _⟩ | ⟨x, rfl, hl, _, hz, hcell, _⟩
    · omega
    · obtain ⟨bb, off, spot⟩ := x
      have hc := hcell i (by omega)
      have hspot : spot = none := by simpa [Addr.add] using World.cell?_spot (hcell 0 (by omega))
      subst hspot
      rw [add_plain] at hc
      exact ⟨bb, off, rfl, World.block_lt_of_cell? w _ hc, hc⟩
  by_cases hlen : 1024 < len1
  · have hlt : (1024 : Int) < (len1 : Int) := by omega
    go_enter Yba.func3, Yba.ntmps3
    go_wp2
    go_ret
    exact ⟨rfl, Below.refl _ _⟩
  · have hl : len1 ≤ 1024 := by omega
    have hcase : a0 % 7 = 0 ∨ a0 % 7 = 1 ∨ a0 % 7 = 2 ∨ a0 % 7 = 3 ∨ a0 % 7 = 4 ∨ a0 % 7 = 5 ∨ a0 % 7 = 6 := by omega
    have pw : ∀ b n : Nat, b ≤ 6 → n = 2 ^ b → wrap64 (2 ^ b) = (n : Int) := by
      intro b n hb e
      subst e
      have : b = 0 ∨ b = 1 ∨ b = 2 ∨ b = 3 ∨ b = 4 ∨ b = 5 ∨ b = 6 := by omega
      rcases this with rfl | rfl | rfl | rfl | rfl | rfl | rfl <;> exact IntWalk.wrap64_in _ ⟨by decide, by decide⟩
    rcases hcase with h | h | h | h | h | h | h
    · exact core a0 p0 (by omega) a1 len1 cap1 _ w hl hz 0 1 h (by omega) (pw 0 1 (by omega) rfl) (by omega) 64 rfl (fun x h0 h1 => by have e : (64 : Int).toNat = 64 := rfl; unfold home; rw [e]; omega)
    · exact core a0 p0 (by omega) a1 len1 cap1 _ w hl hz 1 2 h (by omega) (pw 1 2 (by omega) rfl) (by omega) 63 rfl (fun x h0 h1 => by have e : (63 : Int).toNat = 63 := rfl; unfold home; rw [e]; omega)
    · exact core a0 p0 (by omega) a1 len1 cap1 _ w hl hz 2 4 h (by omega) (pw 2 4 (by omega) rfl) (by omega) 62 rfl (fun x h0 h1 => by have e : (62 : Int).toNat = 62 := rfl; unfold home; rw [e]; omega)
    · exact core a0 p0 (by omega) a1 len1 cap1 _ w hl hz 3 8 h (by omega) (pw 3 8 (by omega) rfl) (by omega) 61 rfl (fun x h0 h1 => by have e : (61 : Int).toNat = 61 := rfl; unfold home; rw [e]; omega)
    · exact core a0 p0 (by omega) a1 len1 cap1 _ w hl hz 4 16 h (by omega) (pw 4 16 (by omega) rfl) (by omega) 60 rfl (fun x h0 h1 => by have e : (60 : Int).toNat = 60 := rfl; unfold home; rw [e]; omega)
    · exact core a0 p0 (by omega) a1 len1 cap1 _ w hl hz 5 32 h (by omega) (pw 5 32 (by omega) rfl) (by omega) 59 rfl (fun x h0 h1 => by have e : (59 : Int).toNat = 59 := rfl; unfold home; rw [e]; omega)
    · exact core a0 p0 (by omega) a1 len1 cap1 _ w hl hz 6 64 h (by omega) (pw 6 64 (by omega) rfl) (by omega) 58 rfl (fun x h0 h1 => by have e : (58 : Int).toNat = 58 := rfl; unfold home; rw [e]; omega)

/-! ### THE ROW's STEP: WRITTEN OUT: LEAVE IT -/
set_option maxRecDepth 100000 in
theorem lifted (os : Os) (started : os.Started) (H : Type) (enc : TypeId × Value → H) :
    ReturnsInHanded {} Yba.checked os 3 .any (Rows.lawS2520AAddSetSpec.pre6 enc Yba.prog Yba.f3 Rows.lawS2520AAddSetRow.domain false) (Rows.lawS2520AAddSetSpec.post enc Yba.prog Yba.f3 false true false false) := by
  refine returnsInHanded_of_change (C := Yba.checked) own started (by kernel_rfl) Yba.func3
    (ChangeSpec.witness6 (enc := enc) (C := Yba.checked) false ⟨#[], #[.int .u8 0, .slice none 0 0], []⟩ 8 (by kernel_rfl) (by kernel_rfl) (by kernel_rfl) (by kernel_rfl)) ?_
  intro W base args ds gs before hval0 hW hcnd _
  have hval : ∀ (j : Nat) t v, Yba.f3.params[j]? = some t → args[j]? = some v → Value.okWide Yba.prog W .any base t v := hval0
  have hW' := hW
  obtain ⟨p, q, hA0, hV, rfl, hfz, hnd⟩ := hW
  have hA : DataW.TrodAll enc Yba.prog W 0 (fun _ => true) true Yba.f3.params.toList args.toList ds p := hA0
  rw [Yba.params3] at hA hval
  obtain ⟨v0, vs0, d0, ds0, p0, q0, hargs, rfl, rfl, h0, r0⟩ := trodAll_cons hA
  obtain ⟨v1, vs1, d1, ds1, p1, q1, rfl, rfl, rfl, h1, r1⟩ := trodAll_cons r0
  obtain ⟨rfl, rfl, rfl⟩ := trodAll_nil r1
  obtain rfl : args = #[v0, v1] := by cases args; simp_all
  obtain ⟨rfl, rfl⟩ := trodVars_none hV
  obtain ⟨a0, rfl, rfl, rfl, w0⟩ := open_int Yba.underlying5 (hval 0 5 v0 rfl rfl) h0
  obtain ⟨a1, len1, cap1, rfl⟩ := okWide_slice Yba.underlying22 (hval 1 22 v1 rfl rfl)
  have k1 := h1
  have lt1 : ∀ x ∈ p1, x.block < W.heap.size := by obtain ⟨m, hm⟩ := k1; exact DataW.trod_lt m _ _ _ hm
  obtain ⟨z1, w1⟩ : ∃ zs, IsRow .u64 W a1 len1 cap1 zs := by
    obtain ⟨fuel, hf⟩ := h1
    rcases open_ints Yba.underlying22 Yba.underlying27 (by kernel_rfl) hf with ⟨hcs, _⟩ | ⟨x, l, c, zs, hcs, _, hl, hm, hz, _, hcell, hwz⟩
    · simp [Value.cells] at hcs
      obtain ⟨rfl, rfl, rfl⟩ := hcs
      exact ⟨[], .inl ⟨rfl, rfl, rfl, rfl⟩⟩
    · simp [Value.cells] at hcs
      obtain ⟨rfl, rfl, rfl⟩ := hcs
      exact ⟨zs, .inr ⟨_, rfl, hl, hm, by simpa using hz, hcell, hwz⟩⟩
  clear hA0 hval0
  refine (walk a0 a1 len1 cap1 z1 W w0 w1).mono fun e W' ⟨he, bel⟩ => ?_
  subst he
  exact ⟨_, rfl, _, _, _, [], _, [], hW', trodAll_mk1 (shut_bool Yba.underlying4 _), (trodAll_cons_mk (shut_int Yba.underlying5 w0) (trodAll_cons_mk (Below.trod laidOut (by kernel_rfl) (of_decide_eq_true (by kernel_rfl)) k1 bel lt1) trodAll_mk0)), rfl, bel.frame _, fun h => by cases h⟩

theorem over : Rows.lawS2520AAddSetRow.holds Yba.pinned (OpenSpec.ofChange Rows.lawS2520AAddSetSpec) :=
  OpenClaim.holds_of_wide 3 Yba.f3 rfl rfl rfl rfl rfl rfl rfl ⟨rfl, rfl, rfl, rfl, rfl⟩ rfl rfl rfl rfl rfl (by kernel_rfl) Yba.func3 (by kernel_rfl)
    (of_decide_eq_true (by kernel_rfl)) (by unfold Func.isWrapper; first | (rw [if_pos (by decide +kernel)]; kernel_rfl) | (rw [if_neg (by decide +kernel)]; exact ⟨rfl, rfl⟩))
    (fun os started H enc _ => lifted os started H enc)

/-- ████ THE STATEMENT ████ -/
theorem proved : Rows.LawS2520AAddSetSaid := over
#print axioms proved
end Go.Proofs.Ybulkazdy.lawS2520AAddSet
