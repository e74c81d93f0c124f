/-
  'zzs2520ahas': the contract: whether the number stands among the slice's elements.
-/
import Derived.Test.YbulkazdyRows
import Derived.WalkKit
import Derived.ProofKit
namespace Go.Proofs.Ybulkazdy
open Go.RowKit

theorem hide {p : Prop} (h : p) : Hid p := h
theorem unhide {p : Prop} (h : Hid p) : p := h

/-- Whether h stands among z 0 .. z (n - 1). -/
def hasB (z : Nat → Int) (n : Nat) (h : Int) : Bool := (List.range n).any fun i => z i == h
theorem hasB_iff (z : Nat → Int) (n : Nat) (h : Int) : hasB z n h = true ↔ ∃ i, i < n ∧ z i = h := by
  simp [hasB, List.any_eq_true]
theorem hasB_not (z : Nat → Int) (n : Nat) (h : Int) : hasB z n h = false ↔ ∀ i, i < n → z i ≠ h := by
  rw [← Bool.not_eq_true, hasB_iff]
  simp only [not_exists, not_and, ne_eq]

theorem has_any (a : Option Addr) (n c : Nat) (z : Nat → Int) (h : Int) (w : World) (hn : n ≤ 1048576)
    (hcell : ∀ i, i < n → ∃ g : Nat, a = some ⟨g, 0, none⟩ ∧ w.cell? ⟨g, i, none⟩ = some (.int .u64 (z i))) :
    Calls Yba.prog 5 #[.slice a n c, .int .u64 h] w fun e w' => e = .returned (.bool (hasB z n h)) ∧ w' = w := by
  have hcell := hide hcell
  go_enter Yba.func5, Yba.ntmps5
  go_wp2
  go_loop [9] (fun i => ∃ k : Nat, k ≤ n ∧ i = .int .i64 k ∧ Hid (∀ i, i < k → z i ≠ h)) (fun i => n - (intOf i).toNat)
  case atStart => exact ⟨0, Nat.zero_le _, rfl, hide fun i hi => absurd hi (Nat.not_lt_zero _)⟩
  case round =>
    obtain ⟨k, hk, rfl, hno⟩ := hrel
    by_cases hlt : k < n
    · obtain ⟨g, rfl, hc⟩ := unhide hcell k hlt
      by_cases heq : z k = h
      · have Hfin : Hid (hasB z n h = true) := (hasB_iff z n h).2 ⟨k, hlt, heq⟩
        have hb : (z k == h) = true := by simpa using heq
        clear heq
        go_wp2
        go_ret
        exact ⟨by rw [unhide Hfin]; rfl, rfl⟩
      · have hb : (z k == h) = false := by simpa using heq
        have Hno : Hid (∀ i, i < k + 1 → z i ≠ h) := hide fun i hi => by
          by_cases hik : i = k
          · subst hik; exact heq
          · exact unhide hno i (by omega)
        clear heq
        go_wp2
        go_round
        case rel => exact ⟨k + 1, by omega, by go_num, Hno⟩
        case measure => simp [intOf]; omega
    · obtain rfl : k = n := by omega
      have Hfin : Hid (hasB z k h = false) := (hasB_not z k h).2 (unhide hno)
      go_wp2
      go_ret
      exact ⟨by rw [unhide Hfin]; rfl, rfl⟩
end Go.Proofs.Ybulkazdy
