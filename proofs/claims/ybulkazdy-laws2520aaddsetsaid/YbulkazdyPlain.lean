/-
  THE PLAIN LAW: open addressing over a table of n slots. No Go in sight.
-/
import Derived.Test.YbulkazdyAdd
namespace Go.Proofs.Ybulkazdy

def upd (T : Nat → Int) (j : Nat) (h : Int) : Nat → Int := fun i => if i = j then h else T i
theorem upd_same (T : Nat → Int) (j : Nat) (h : Int) : upd T j h j = h := by simp [upd]
theorem upd_other (T : Nat → Int) (j i : Nat) (h : Int) (hij : i ≠ j) : upd T j h i = T i := by simp [upd, hij]

/-- How many of the first n slots are taken. -/
def cnt (T : Nat → Int) : Nat → Nat
  | 0 => 0
  | n + 1 => cnt T n + (if T n = 0 then 0 else 1)
theorem cnt_le (T : Nat → Int) (n : Nat) : cnt T n ≤ n := by
  induction n with
  | zero => exact Nat.le_refl _
  | succ n ih => simp only [cnt]; split <;> omega
theorem cnt_free (T : Nat → Int) (n : Nat) (h : cnt T n < n) : ∃ j, j < n ∧ T j = 0 := by
  induction n with
  | zero => omega
  | succ n ih =>
    by_cases h0 : T n = 0
    · exact ⟨n, by omega, h0⟩
    · simp only [cnt, h0, if_false] at h
      obtain ⟨j, hj, e⟩ := ih (by omega)
      exact ⟨j, by omega, e⟩
theorem cnt_upd_out (T : Nat → Int) (j : Nat) (h : Int) (n : Nat) (hj : n ≤ j) : cnt (upd T j h) n = cnt T n := by
  induction n with
  | zero => rfl
  | succ n ih => simp only [cnt]; rw [ih (by omega), upd_other T j n h (by omega)]
theorem cnt_upd (T : Nat → Int) (j : Nat) (h : Int) (h0 : h ≠ 0) (hT : T j = 0) (n : Nat) (hj : j < n) : cnt (upd T j h) n = cnt T n + 1 := by
  induction n with
  | zero => omega
  | succ n ih =>
    simp only [cnt]
    by_cases e : j = n
    · subst e
      rw [cnt_upd_out T j h j (Nat.le_refl _), upd_same, if_neg h0, if_pos hT]
    · rw [ih (by omega), upd_other T j n h (fun e' => e e'.symm)]
      omega
theorem cnt_zero (n : Nat) : cnt (fun _ => 0) n = 0 := by
  induction n with
  | zero => rfl
  | succ n ih => simp [cnt, ih]

theorem least (p : Nat → Prop) : ∀ n, p n → ∃ q, q ≤ n ∧ p q ∧ ∀ k, k < q → ¬ p k := by
  intro n
  induction n using Nat.strongRecOn with
  | _ n ih =>
    intro hn
    rcases Classical.em (∃ k, k < n ∧ p k) with ⟨k, hk, hp⟩ | hno
    · obtain ⟨q, hq, hpq, hl⟩ := ih k hk hp
      exact ⟨q, by omega, hpq, hl⟩
    · exact ⟨n, Nat.le_refl _, hn, fun k hk hp => hno ⟨k, hk, hp⟩⟩

/-- THE INVARIANT: the table T of n slots holds just the m numbers S 0 .. S (m - 1), each reachable from its home without crossing a free slot. -/
structure Inv (n : Nat) (home : Int → Nat) (T S : Nat → Int) (m : Nat) : Prop where
  held : ∀ j, j < n → T j ≠ 0 → hasB S m (T j) = true
  seen : ∀ i, i < m → ∃ j, j < n ∧ T j = S i
  pos : ∀ i, i < m → 0 < S i ∧ S i < 18446744073709551616
  count : cnt T n = m
  reach : ∀ j, j < n → T j ≠ 0 → ∃ q, q < n ∧ (home (T j) + q) % n = j ∧ ∀ k, k < q → T ((home (T j) + k) % n) ≠ 0

theorem Inv.start (n : Nat) (home : Int → Nat) (S : Nat → Int) : Inv n home (fun _ => 0) S 0 :=
  ⟨fun _ _ h => absurd rfl h, fun _ h => absurd h (Nat.not_lt_zero _), fun _ h => absurd h (Nat.not_lt_zero _), cnt_zero n, fun _ _ h => absurd rfl h⟩

theorem Inv.le {n : Nat} {home : Int → Nat} {T S : Nat → Int} {m : Nat} (I : Inv n home T S m) : m ≤ n := by
  have := cnt_le T n; have := I.count; omega

theorem Inv.range {n : Nat} {home : Int → Nat} {T S : Nat → Int} {m : Nat} (I : Inv n home T S m) (j : Nat) (hj : j < n) (h : T j ≠ 0) : 0 < T j ∧ T j < 18446744073709551616 := by
  obtain ⟨i, hi, e⟩ := (hasB_iff S m _).1 (I.held j hj h)
  rw [← e]
  exact I.pos i hi

/-- A number that is there is met on its path. -/
theorem Inv.find {n : Nat} {home : Int → Nat} {T S : Nat → Int} {m : Nat} (I : Inv n home T S m) (h : Int) (hin : hasB S m h = true) :
    ∃ q, q < n ∧ T ((home h + q) % n) = h ∧ ∀ k, k < q → T ((home h + k) % n) ≠ 0 ∧ T ((home h + k) % n) ≠ h := by
  obtain ⟨i, hi, rfl⟩ := (hasB_iff S m h).1 hin
  obtain ⟨j, hj, ej⟩ := I.seen i hi
  obtain ⟨q0, hq0, e0, p0⟩ := I.reach j hj (by rw [ej]; have := (I.pos i hi).1; omega)
  rw [ej] at e0 p0
  obtain ⟨q, hq, pq, hl⟩ := least (fun k => T ((home (S i) + k) % n) = S i) q0 (by show T ((home (S i) + q0) % n) = S i; rw [e0, ej])
  exact ⟨q, by omega, pq, fun k hk => ⟨p0 k (by omega), hl k hk⟩⟩

/-- A number that is not there: its path comes to a free slot. -/
theorem Inv.free {n : Nat} {home : Int → Nat} {T S : Nat → Int} {m : Nat} (I : Inv n home T S m) (h : Int) (hh : home h < n) (hin : hasB S m h = false) (hm : m < n) :
    ∃ q, q < n ∧ T ((home h + q) % n) = 0 ∧ ∀ k, k < q → T ((home h + k) % n) ≠ 0 ∧ T ((home h + k) % n) ≠ h := by
  obtain ⟨j, hj, ej⟩ := cnt_free T n (by rw [I.count]; exact hm)
  have hr : (home h + (j + n - home h) % n) % n = j := by
    rw [Nat.add_mod_mod, show home h + (j + n - home h) = j + n by omega, Nat.add_mod_right, Nat.mod_eq_of_lt hj]
  have hq0 : (j + n - home h) % n < n := Nat.mod_lt _ (by omega)
  obtain ⟨q, hq, pq, hl⟩ := least (fun k => T ((home h + k) % n) = 0) _ (by show T ((home h + (j + n - home h) % n) % n) = 0; rw [hr, ej])
  refine ⟨q, by omega, pq, fun k hk => ⟨hl k hk, fun e => ?_⟩⟩
  have := I.held ((home h + k) % n) (Nat.mod_lt _ (by omega)) (hl k hk)
  rw [e, hin] at this
  cases this

theorem hasB_upd_old (S : Nat → Int) (m : Nat) (h x : Int) (hx : hasB S m x = true) : hasB (upd S m h) (m + 1) x = true := by
  obtain ⟨i, hi, e⟩ := (hasB_iff S m x).1 hx
  exact (hasB_iff _ _ _).2 ⟨i, by omega, by rw [upd_other S m i h (by omega)]; exact e⟩
theorem hasB_upd_new (S : Nat → Int) (m : Nat) (h : Int) : hasB (upd S m h) (m + 1) h = true :=
  (hasB_iff _ _ _).2 ⟨m, by omega, upd_same S m h⟩

/-- It is laid into that free slot. -/
theorem Inv.put {n : Nat} {home : Int → Nat} {T S : Nat → Int} {m : Nat} (I : Inv n home T S m) (h : Int) (hp0 : 0 < h) (hp1 : h < 18446744073709551616) (q : Nat) (hq : q < n)
    (hT : T ((home h + q) % n) = 0) (hp : ∀ k, k < q → T ((home h + k) % n) ≠ 0 ∧ T ((home h + k) % n) ≠ h) :
    Inv n home (upd T ((home h + q) % n) h) (upd S m h) (m + 1) := by
  have h0 : h ≠ 0 := by omega
  have hj : (home h + q) % n < n := Nat.mod_lt _ (by omega)
  have stays : ∀ i, T i ≠ 0 → upd T ((home h + q) % n) h i ≠ 0 := by
    intro i hi
    by_cases e : i = (home h + q) % n
    · rw [e, upd_same]; exact h0
    · rw [upd_other _ _ _ _ e]; exact hi
  refine ⟨fun j hjn hne => ?_, fun i hi => ?_, fun i hi => ?_, ?_, fun j hjn hne => ?_⟩
  · by_cases e : j = (home h + q) % n
    · rw [e, upd_same]; exact hasB_upd_new S m h
    · rw [upd_other _ _ _ _ e] at hne ⊢
      exact hasB_upd_old S m h _ (I.held j hjn hne)
  · by_cases e : i = m
    · subst e; exact ⟨_, hj, by rw [upd_same, upd_same]⟩
    · rw [upd_other S m i h e]
      obtain ⟨j, hjn, ej⟩ := I.seen i (by omega)
      refine ⟨j, hjn, ?_⟩
      rw [upd_other _ _ _ _ (fun e' => ?_), ej]
      rw [e', hT] at ej
      have := (I.pos i (by omega)).1
      omega
  · by_cases e : i = m
    · subst e; rw [upd_same]; exact ⟨hp0, hp1⟩
    · rw [upd_other S m i h e]; exact I.pos i (by omega)
  · rw [cnt_upd T _ h h0 hT n hj, I.count]
  · by_cases e : j = (home h + q) % n
    · rw [e, upd_same]
      exact ⟨q, hq, rfl, fun k hk => stays _ (hp k hk).1⟩
    · rw [upd_other _ _ _ _ e] at hne ⊢
      obtain ⟨q', hq', eq', pq'⟩ := I.reach j hjn hne
      exact ⟨q', hq', eq', fun k hk => stays _ (pq' k hk)⟩
end Go.Proofs.Ybulkazdy
