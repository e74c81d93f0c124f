/-
  '(*finder).add': the contracts: the hash 0; a hash that is there; a hash that is not.
-/
import Derived.Test.YbulkazdyHas
namespace Go.Proofs.Ybulkazdy
open Go.RowKit

theorem add_zero (f : Nat) (z d : Bool) (w : World) (hz : w.cell? ⟨f, 4, none⟩ = some (.bool z)) (hd : w.cell? ⟨f, 5, none⟩ = some (.bool d))
    (fz : w.frozen? ⟨f, 4, none⟩ = false) (fd : w.frozen? ⟨f, 5, none⟩ = false) :
    Calls Yba.prog 4 #[.pointer (some ⟨f, 0, none⟩), .int .u64 0] w fun e w' => e = .returned (.bool (!z)) ∧ w' = (w.setCell ⟨f, 5, none⟩ (.bool true)).setCell ⟨f, 4, none⟩ (.bool true) := by
  go_enter Yba.func4, Yba.ntmps4
  go_wp2
  go_ret
  exact ⟨rfl, rfl⟩

theorem back_mod (m k n : Nat) (hm : m < n) (hk : k < n) : ((m + k) % n + n - m) % n = k := by
  rcases Nat.lt_or_ge (m + k) n with h | h
  · rw [Nat.mod_eq_of_lt h]
    have : m + k + n - m = k + n := by omega
    rw [this, Nat.add_mod_right, Nat.mod_eq_of_lt hk]
  · have e : (m + k) % n = m + k - n := by rw [Nat.mod_eq_sub_mod h, Nat.mod_eq_of_lt (by omega)]
    rw [e]
    have : m + k - n + n - m = k := by omega
    rw [this, Nat.mod_eq_of_lt hk]

theorem and_all : ∀ n : Fin 65, (n.val = 1 ∨ n.val = 2 ∨ n.val = 4 ∨ n.val = 8 ∨ n.val = 16 ∨ n.val = 32 ∨ n.val = 64) → ∀ j : Fin 64, j.val < n.val →
    bits BinOp.and IntKind.i64 ((j.val : Int) + 1) ((n.val : Int) - 1) = (((j.val + 1) % n.val : Nat) : Int) := by decide +kernel
theorem and_law (n : Nat) (hn : n = 1 ∨ n = 2 ∨ n = 4 ∨ n = 8 ∨ n = 16 ∨ n = 32 ∨ n = 64) (j : Nat) (hj : j < n) :
    bits BinOp.and IntKind.i64 ((j : Int) + 1) ((n : Int) - 1) = (((j + 1) % n : Nat) : Int) :=
  and_all ⟨n, by omega⟩ hn ⟨j, by omega⟩ hj

theorem next_mod (m k n j : Nat) (hj : j = (m + k) % n) : (j + 1) % n = (m + (k + 1)) % n := by
  rw [hj, Nat.mod_add_mod]; rfl

/-- The walk along the path: at its end the hash itself ('hit'), or a free slot. -/
theorem add_walk (hit : Bool) (f t n m q : Nat) (T : Nat → Int) (s h : Int) (d : Bool) (w : World) (hft : t ≠ f)
    (h0 : 0 < h) (h1 : h < 18446744073709551616) (s0 : 58 ≤ s) (s1 : s ≤ 64) (hn : n = 1 ∨ n = 2 ∨ n = 4 ∨ n = 8 ∨ n = 16 ∨ n = 32 ∨ n = 64) (hm : m < n) (hhome : h / 2 ^ s.toNat = (m : Int)) (hq : q < n)
    (hpath : ∀ k, k < q → T ((m + k) % n) ≠ 0 ∧ T ((m + k) % n) ≠ h)
    (hd : w.cell? ⟨f, 5, none⟩ = some (.bool d)) (ht : w.cell? ⟨f, 2, none⟩ = some (.slice (some ⟨t, 0, none⟩) n n)) (hs : w.cell? ⟨f, 3, none⟩ = some (.int .i64 s))
    (fd : w.frozen? ⟨f, 5, none⟩ = false) (hT : ∀ i, i < n → w.cell? ⟨t, i, none⟩ = some (.int .u64 (T i))) (fT : ∀ i, i < n → w.frozen? ⟨t, i, none⟩ = false) (hfin : T ((m + q) % n) = if hit then h else 0) :
    Calls Yba.prog 4 #[.pointer (some ⟨f, 0, none⟩), .int .u64 h] w fun e w' => e = .returned (.bool !hit) ∧
      w' = if hit then w.setCell ⟨f, 5, none⟩ (.bool true) else (w.setCell ⟨f, 5, none⟩ (.bool true)).setCell ⟨t, (m + q) % n, none⟩ (.int .u64 h) := by
  have hz : (h == 0) = false := beq_eq_false_iff_ne.2 (by omega)
  have n0 : 1 ≤ n := by omega
  have n1 : n ≤ 64 := by omega
  have HT := hide hT
  have HF := hide fT
  have Hpath := hide hpath
  have Hfin := hide hfin
  have Hn := hide hn
  clear hT hpath hfin fT hn
  go_enter Yba.func4, Yba.ntmps4
  go_wp2
  go_loop [7] (fun i => ∃ k : Nat, k ≤ q ∧ i = .int .i64 ((m + k) % n : Nat)) (fun i => q - ((intOf i).toNat + n - m) % n)
  case atStart => exact ⟨0, Nat.zero_le _, by simp [Nat.mod_eq_of_lt hm]⟩
  case round =>
    obtain ⟨k, hk, rfl⟩ := hrel
    have hb : (m + k) % n < n := Nat.mod_lt _ (by omega)
    have hc := unhide HT _ hb
    have hf := unhide HF _ hb
    have Hm := hide (back_mod m k n hm (by omega))
    obtain ⟨j, hj⟩ : ∃ j, j = (m + k) % n := ⟨_, rfl⟩
    rw [← hj] at hb hc hf ⊢
    have hand := and_law n (unhide Hn) j hb
    rw [next_mod m k n j hj] at hand
    obtain ⟨j2, hj2⟩ : ∃ j2, j2 = (m + (k + 1)) % n := ⟨_, rfl⟩
    rw [← hj2] at hand
    have Hj := hide hj
    have Hj2 := hide hj2
    clear hj2
    clear hj
    by_cases hlt : k < q
    · obtain ⟨p1, p2⟩ := unhide Hpath k hlt
      rw [← unhide Hj] at p1 p2
      have b1 : (T j == 0) = false := by simpa using p1
      have b2 : (T j == h) = false := by simpa using p2
      have Hm2 := hide (back_mod m (k + 1) n hm (by omega))
      clear p1 p2
      go_wp2
      go_round
      case rel => exact ⟨k + 1, by omega, by rw [unhide Hj2]⟩
      case measure =>
        rw [unhide Hj2, unhide Hj]
        simp only [intOf, Int.toNat_natCast]
        rw [unhide Hm, unhide Hm2]
        omega
    · obtain rfl : k = q := by omega
      have p := unhide Hfin
      rw [← unhide Hj] at p
      cases hit with
      | true =>
        rw [if_pos rfl] at p
        have b1 : (T j == 0) = false := beq_eq_false_iff_ne.2 (by omega)
        have b2 : (T j == h) = true := beq_iff_eq.2 p
        clear p
        go_wp2
        go_ret
        exact ⟨rfl, rfl⟩
      | false =>
        rw [if_neg (by decide)] at p
        have b1 : (T j == 0) = true := beq_iff_eq.2 p
        clear p
        go_wp2
        go_ret
        exact ⟨rfl, by rw [← unhide Hj]⟩
end Go.Proofs.Ybulkazdy
