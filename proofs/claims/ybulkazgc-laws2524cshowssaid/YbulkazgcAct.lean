/-
  What an op shows, as one function of its fields; 'shows' by it.
-/
import Derived.Test.YbulkazgcShows
namespace Go.Proofs.Ybulkazgc
open Go.RowKit

/-- 1: a delete that took effect · 2: a conditional first put behind a deletion · 3: a value · 4: none · 0: nothing. -/
def act (del : Bool) (k st : Int) (cond : Bool) (iv : Int) (vn : Nat) : Nat :=
  if del = false then 0
  else if k = 2 ∧ st = 1 then 1
  else if k = 1 ∧ st = 1 ∧ cond = true ∧ iv = 0 ∧ 1 < vn then 2
  else if st = 1 ∨ (st = 3 ∧ iv = 0) then 3
  else if st = 2 then 4
  else 0
def outV (a : Nat) (V : Nat → Int) (vn : Nat) (i : Int) : Nat → Int := if a = 1 then upd V (vn - 1) i else if a = 2 ∨ a = 3 then upd V vn i else V
def outN (a : Nat) (N : Nat → Int) (vn : Nat) (i : Int) : Nat → Int := if a = 1 ∨ a = 4 then upd N vn i else if a = 2 then upd N (vn - 1) i else N

theorem shows_any (hB oB g n i vn : Nat) (del : Bool) (k st : Int) (cond : Bool) (iv : Int) (V N : Nat → Int) (w : World) (h : HSt w hB oB g n i del k st cond iv vn) (hr : VRow w g n V N) (hn : n ≤ 64) (hi : i ≤ 3) (hv : vn < n)
    (hk : k = 0 ∨ k = 1 ∨ k = 2) (hst : st = 0 ∨ st = 1 ∨ st = 2 ∨ st = 3) (hd : k = 2 → st = 1 → 1 ≤ vn) :
    Calls Yba.prog 5 #[.pointer (some ⟨hB, 0, none⟩), .int .i64 (i : Int)] w fun e w' => e = .returned (.tuple #[]) ∧ SEnd g n w (outV (act del k st cond iv vn) V vn i) (outN (act del k st cond iv vn) N vn i) w' := by
  cases del with
  | false => exact shows_off hB oB g n i vn k st cond iv V N w h hr hn hi hv
  | true =>
    by_cases hiv : iv = 0
    · subst hiv
      rcases hk with rfl | rfl | rfl <;> rcases hst with rfl | rfl | rfl | rfl
      · exact shows_unk0 hB oB g n i vn cond 0 V N w h hr hn hi hv
      · exact shows_getok hB oB g n i vn cond 0 V N w h hr hn hi hv
      · exact shows_none0 hB oB g n i vn cond 0 V N w h hr hn hi hv
      · exact shows_fail0 hB oB g n i vn cond V N w h hr hn hi hv
      · exact shows_unk1 hB oB g n i vn cond 0 V N w h hr hn hi hv
      · cases cond with
        | false => exact shows_put1 hB oB g n i vn 0 V N w h hr hn hi hv
        | true =>
          by_cases hgt : 1 < vn
          · obtain ⟨m, rfl⟩ : ∃ m, vn = m + 1 := ⟨vn - 1, by omega⟩
            have ha : act true 1 1 true 0 (m + 1) = 2 := by simp [act]; omega
            rw [ha]
            exact shows_put hB oB g n i m V N w h hr hn hi hv (by omega)
          · have ha : act true 1 1 true 0 vn = 3 := by simp [act, hgt]
            rw [ha]
            exact shows_put3 hB oB g n i vn V N w h hr hn hi hv (by omega)
      · exact shows_none1 hB oB g n i vn cond 0 V N w h hr hn hi hv
      · exact shows_fail1 hB oB g n i vn cond V N w h hr hn hi hv
      · exact shows_unk2 hB oB g n i vn cond 0 V N w h hr hn hi hv
      · obtain ⟨m, rfl⟩ : ∃ m, vn = m + 1 := ⟨vn - 1, by have := hd rfl rfl; omega⟩
        exact shows_del hB oB g n i m cond 0 V N w h hr hn hi hv
      · exact shows_none2 hB oB g n i vn cond 0 V N w h hr hn hi hv
      · exact shows_fail2 hB oB g n i vn cond V N w h hr hn hi hv
    · have hb : (iv == 0) = false := by simpa using hiv
      rcases hk with rfl | rfl | rfl <;> rcases hst with rfl | rfl | rfl | rfl
      · exact shows_unk0 hB oB g n i vn cond iv V N w h hr hn hi hv
      · exact shows_getok hB oB g n i vn cond iv V N w h hr hn hi hv
      · exact shows_none0 hB oB g n i vn cond iv V N w h hr hn hi hv
      · have ha : act true 0 3 cond iv vn = 0 := by simp [act, hiv]
        rw [ha]
        exact shows_fail0b hB oB g n i vn cond iv V N w h hr hn hi hv hb
      · exact shows_unk1 hB oB g n i vn cond iv V N w h hr hn hi hv
      · have ha : act true 1 1 cond iv vn = 3 := by simp [act, hiv]
        rw [ha]
        cases cond with
        | false => exact shows_put1 hB oB g n i vn iv V N w h hr hn hi hv
        | true => exact shows_put2 hB oB g n i vn iv V N w h hr hn hi hv hb
      · exact shows_none1 hB oB g n i vn cond iv V N w h hr hn hi hv
      · have ha : act true 1 3 cond iv vn = 0 := by simp [act, hiv]
        rw [ha]
        exact shows_fail1b hB oB g n i vn cond iv V N w h hr hn hi hv hb
      · exact shows_unk2 hB oB g n i vn cond iv V N w h hr hn hi hv
      · obtain ⟨m, rfl⟩ : ∃ m, vn = m + 1 := ⟨vn - 1, by have := hd rfl rfl; omega⟩
        exact shows_del hB oB g n i m cond iv V N w h hr hn hi hv
      · exact shows_none2 hB oB g n i vn cond iv V N w h hr hn hi hv
      · have ha : act true 2 3 cond iv vn = 0 := by simp [act, hiv]
        rw [ha]
        exact shows_fail2b hB oB g n i vn cond iv V N w h hr hn hi hv hb
end Go.Proofs.Ybulkazgc
