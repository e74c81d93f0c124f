/-
  THE LAW WALKED: 'LawS2520AAddSet' over the contracts of add and zzs2520ahas.
-/
import Derived.Test.YbulkazdyState
import Derived.Deep.OwnRows
namespace Go.Proofs.Ybulkazdy
open Go.RowKit

theorem Yba.info27 : (Yba.prog.info? 27).map (fun i => (i.zero, i.size, i.bytes)) = some (some (.int .u64 0), 1, 8) := by kernel_rfl

def vals (S : Nat → Int) (m : Nat) : List Value := (List.range m).map fun i => .int .u64 (S i)
theorem vals_length (S : Nat → Int) (m : Nat) : (vals S m).length = m := by simp [vals]
theorem vals_get (S : Nat → Int) (m i : Nat) (hi : i < m) : (vals S m)[i]? = some (.int .u64 (S i)) := by simp [vals, hi]
theorem vals_push (S : Nat → Int) (m : Nat) (x : Int) : vals S m ++ [.int .u64 x] = vals (upd S m x) (m + 1) := by
  simp only [vals, List.range_succ, List.map_append, List.map_cons, List.map_nil, upd_same]
  congr 1
  apply List.map_congr_left
  intro i hi
  rw [upd_other S m i x (by have := List.mem_range.1 hi; omega)]

theorem owns_form {w : World} {base m : Nat} {S : Nat → Int} {v : Value} (h : w.ownsRow base 27 1 v m (vals S m)) :
    ∃ ao c, v = .slice ao m c ∧ Hid (∀ i, i < m → ∃ g : Nat, ao = some ⟨g, 0, none⟩ ∧ w.cell? ⟨g, i, none⟩ = some (.int .u64 (S i))) := by
  have h' := h
  rcases h.2 with ⟨rfl, rfl⟩ | ⟨g, cap, cur, rfl, _⟩
  · exact ⟨none, 0, rfl, fun i hi => absurd hi (Nat.not_lt_zero _)⟩
  · exact ⟨some ⟨g, 0, none⟩, cap, rfl, fun i hi => ⟨g, rfl, by rw [h'.cellAt i (by omega), vals_get S m i hi]⟩⟩

theorem made_get (n i : Nat) (hi : i < n) : (madeCells #[Value.int .u64 0] n)[i]? = some (.int .u64 0) := by
  simp [madeCells, hi, Nat.mod_one]

theorem st_start (w : World) (n : Nat) (sh : Int) : St w.heap.size n sh (fun _ => 0) false false ((w.alloc (Obj.cells (madeCells #[Value.int IntKind.u64 0] n) 27)).alloc
    (Obj.cells #[Value.nilFunc, Value.nilFunc, Value.slice (some { block := w.heap.size, off := 0 }) n n, Value.int IntKind.i64 sh, Value.bool false, Value.bool false, Value.int IntKind.i64 0,
      Value.int IntKind.u64 0, Value.bool false, Value.slice none 0 0, Value.map none, Value.int IntKind.i64 (-1)] 31)) where
  size := by simp
  tab := by simp
  sh := by simp
  zero := by simp
  dirty := by simp
  fz := fun o => by simp
  cells := fun i hi => by simp [made_get n i hi]
  ft := fun o => by simp

theorem wrap_rng (y : Int) : 0 ≤ IntKind.u64.wrap y ∧ IntKind.u64.wrap y < 18446744073709551616 := by
  rw [IntKind.wrap_u64]
  omega

set_option maxRecDepth 100000 in
set_option maxHeartbeats 2000000 in
theorem core (a0 : Int) (p0 : 0 ≤ a0) (p1 : a0 < 256) (a1 : Option Addr) (len cap : Nat) (z : Nat → Int) (w : World) (hlen : len ≤ 1024)
    (hz : ∀ i, i < len → ∃ bb off : Nat, a1 = some ⟨bb, off, none⟩ ∧ bb < w.heap.size ∧ w.cell? ⟨bb, off + i, none⟩ = some (.int .u64 (z i))) (b n : Nat) (hb : a0 % 7 = (b : Int)) (_hb6 : b ≤ 6)
   (hn : wrap64 (2 ^ b) = (n : Int)) (hn7 : n = 1 ∨ n = 2 ∨ n = 4 ∨ n = 8 ∨ n = 16 ∨ n = 32 ∨ n = 64) (sh : Int) (hsh : 64 - (b : Int) = sh) (hhome : ∀ x, 0 ≤ x → x < 18446744073709551616 → home sh x < n) :
    Calls Yba.prog 3 #[.int .u8 a0, .slice a1 len cap] w fun e w' => e = .returned (.bool true) ∧ Below w.heap.size w w' := by
  have hmk := run_make_row' (P := Yba.prog) 22 27 (.int .u64 0) 8 Yba.underlying22 Yba.info27 rfl .i64 .i64 n (by omega) (by omega)
  have hd : decide (1024 < (len : Int)) = false := decide_eq_false (by omega)
  have hn1 : 1 ≤ n := by omega
  have hn64 : n ≤ 64 := by omega
  have HN7 := hide hn7
  have Hhome := hide hhome
  have Hs0 : Hid (58 ≤ sh) := by show 58 ≤ sh; omega
  have Hs1 : Hid (sh ≤ 64) := by show sh ≤ 64; omega
  obtain ⟨i0, hi, hz0, hz1, hz2⟩ := info_parts Yba.info27
  have Hz := hide hz
  clear hn7 hhome
  clear hz
  go_enter Yba.func3, Yba.ntmps3
  go_wp2_with fail
  rw [hn, hb]
  clear hn hmk hb hsh hd
  go_loopw [8, 9, 38] (fun v zv i wr => ∃ (k m : Nat) (T S : Nat → Int) (zr d : Bool), k ≤ len ∧ i = .int .i64 k ∧ zv = .bool zr ∧ wr.ownsRow (w.heap.size + 2) 27 1 v m (vals S m) ∧
      St w.heap.size n sh T zr d wr ∧ Inv n (home sh) T S m ∧ Below w.heap.size w wr) (fun _ _ i _ => len - (intOf i).toNat)
  case atStart =>
    refine ⟨0, 0, fun _ => 0, fun _ => 0, false, false, Nat.zero_le _, rfl, rfl, World.ownsRow_nil _ _ _ _, ?_, Inv.start _ _ _, ?_⟩
    · exact st_start w n sh
    · exact ((Below.refl _ _).alloc (Nat.le_refl _) _).alloc (by simp) _
  case round =>
    obtain ⟨k, m, T, S, zr, d, hk, rfl, rfl, hown, hst, hinv, hbel⟩ := hrel
    by_cases hlt : k < len
    · obtain ⟨bb, off, rfl, hbb, hc0⟩ := unhide Hz k hlt
      have hc := (hbel.cell (p := ⟨bb, off + k, none⟩) hbb).trans hc0
      clear hc0
      obtain ⟨ao, c, rfl, hcell⟩ := owns_form hown
      obtain ⟨x, hx, hx0, hx1⟩ : ∃ x, IntKind.u64.wrap (z k * 11400714819323198485) = x ∧ 0 ≤ x ∧ x < 18446744073709551616 := ⟨_, rfl, wrap_rng _⟩
      by_cases hxz : x = 0
      · subst hxz
        go_wp2_with fail
        refine (addz w.heap.size n sh T zr d wr hst).mono ?_
        rintro e w1 ⟨rfl, hst1, hk1⟩
        have hz1 := hst1.zero
        have hd1 := hst1.dirty
        have hne : ((!zr) != (!zr)) = false := by simp
        go_wp2_with fail
        go_roundw
        case rel => exact ⟨k + 1, m, T, S, true, true, by omega, by go_num, rfl, hk1.owns hown, hst1, hinv, hk1.below hbel⟩
        case measure => simp [intOf]; omega
      · have hxb : (x == 0) = false := by simpa using hxz
        have hml := hinv.le
        cases hin : hasB S m x with
        | true =>
          go_wp2_with fail
          refine (has_any ao m c S x wr (by omega) (unhide hcell)).mono ?_
          rintro e w1 ⟨rfl, rfl⟩
          rw [hin]
          go_wp2_with fail
          refine (addn w.heap.size n sh T S m zr d _ hst hinv x (by omega) hx1 (unhide Hs0) (unhide Hs1) (unhide HN7) (unhide Hhome x hx0 hx1) (fun e => by rw [hin] at e; cases e)).mono ?_
          rintro e w1 ⟨rfl, hk1, T1, hst1, hinv1⟩
          rw [hin] at hinv1 ⊢
          rw [if_pos rfl, if_pos rfl] at hinv1
          have hd1 := hst1.dirty
          go_wp2_with fail
          go_roundw
          case rel => exact ⟨k + 1, m, T1, S, zr, true, by omega, by go_num, rfl, hk1.owns hown, hst1, hinv1, hk1.below hbel⟩
          case measure => simp [intOf]; omega
        | false =>
          by_cases hfull : n ≤ m
          · go_wp2_with fail
            refine (has_any ao m c S x wr (by omega) (unhide hcell)).mono ?_
            rintro e w1 ⟨rfl, rfl⟩
            rw [hin]
            go_wp2_with fail
            go_roundw
            case rel => exact ⟨k + 1, m, T, S, zr, d, by omega, by go_num, rfl, hown, hst, hinv, hbel⟩
            case measure => simp [intOf]; omega
          · go_wp2_with fail
            refine (has_any ao m c S x wr (by omega) (unhide hcell)).mono ?_
            rintro e w1 ⟨rfl, rfl⟩
            rw [hin]
            go_wp2_with fail
            refine (addn w.heap.size n sh T S m zr d _ hst hinv x (by omega) hx1 (unhide Hs0) (unhide Hs1) (unhide HN7) (unhide Hhome x hx0 hx1) (fun _ => by omega)).mono ?_
            rintro e w1 ⟨rfl, hk1, T1, hst1, hinv1⟩
            rw [hin] at hinv1 ⊢
            rw [if_neg (by decide), if_neg (by decide)] at hinv1
            have hown1 := hk1.owns hown
            go_wp2_with (at_builtin; refine wpList_append_own _ rfl _ _ 22 rfl (w.heap.size + 2) 27 i0 (.int .u64 0) 1 8 Yba.underlying22 hi hz0 hz1 hz2 rfl (by decide) _ _ _ rfl (hown1.alloc _) ⟨w1.heap.size, 0, none⟩ 1 1 [.int .u64 x] rfl rfl ?c1 ?c2 ?c3 ?c4 ?c5 ?_)
            case c1 =>
              intro j u hj
              match j, hj with
              | 0, hj => simp at hj; subst hj; simp [Addr.add]
            case c2 => intro u hu; simp at hu; subst hu; rfl
            case c3 => unfold maxLen; omega
            case c4 => omega
            case c5 => have := hst1.size; simp; omega
            intro v' w2 hown2 hgrow _
            have hb2 : Below (w.heap.size + 2) w1 w2 := ((Below.refl _ _).alloc (hst1.size) _).grown hgrow (by have := hst1.size; simp; omega) (fun k e => (hown1.lt k e).1)
            have hst2 := hst1.grown hb2
            have hbel2 : Below w.heap.size w w2 := (hk1.below hbel).trans (hb2.mono (by omega))
            rw [vals_push] at hown2
            have hd2 := hst2.dirty
            clear hb2 hgrow
            go_wp2_with fail
            go_roundw
            case rel => exact ⟨k + 1, m + 1, T1, upd S m x, zr, true, by omega, by go_num, rfl, hown2, hst2, hinv1, hbel2⟩
            case measure => simp [intOf]; omega
    · obtain ⟨ao, c, rfl, hcell⟩ := owns_form hown
      have hz1 := hst.zero
      have ht1 := hst.tab
      have hne : (zr != zr) = false := by simp
      have s0 := unhide Hs0
      have s1 := unhide Hs1
      have hml := hinv.le
      go_wp2_with fail
      go_loop [16, 18] (fun cv jv => ∃ j : Nat, j ≤ n ∧ cv = .int .i64 (cnt T j : Nat) ∧ jv = .int .i64 j) (fun _ jv => n - (intOf jv).toNat)
      case atStart => exact ⟨0, Nat.zero_le _, rfl, rfl⟩
      case round =>
        obtain ⟨j, hj, rfl, rfl⟩ := hrel
        have hcl := cnt_le T j
        by_cases hjn : j < n
        · have hcj := hst.cells j hjn
          by_cases hz : T j = 0
          · have hb1 : (T j == 0) = true := by simpa using hz
            have Hc : Hid (cnt T j = cnt T (j + 1)) := by show cnt T j = cnt T (j + 1); simp [cnt, hz]
            clear hz
            go_wp2_with fail
            go_round
            case rel => exact ⟨j + 1, by omega, by rw [unhide Hc], by go_num⟩
            case measure => simp [intOf]; omega
          · have hb1 : (T j == 0) = false := by simpa using hz
            have Hc : Hid (cnt T j + 1 = cnt T (j + 1)) := by show cnt T j + 1 = cnt T (j + 1); simp [cnt, hz]
            have hheld := hinv.held j hjn hz
            obtain ⟨r0, r1⟩ := hinv.range j hjn hz
            have Hreach := hide (hinv.reach j hjn hz)
            clear hz
            go_wp2_with fail
            refine (has_any ao m c S (T j) wr (by omega) (unhide hcell)).mono ?_
            rintro e w1 ⟨rfl, rfl⟩
            rw [hheld]
            have hsh := hst.sh
            obtain ⟨m0, hm0⟩ : ∃ m0, m0 = home sh (T j) := ⟨_, rfl⟩
            have hdiv : T j / 2 ^ sh.toNat = (m0 : Int) := by
              rw [hm0]; unfold home
              rw [Int.toNat_of_nonneg (Int.ediv_nonneg (by omega) (Int.pow_nonneg (by decide)))]
            have hm0n : m0 < n := by rw [hm0]; exact unhide Hhome (T j) (by omega) r1
            rw [← hm0] at Hreach
            have Hm0 := hide hm0
            clear hm0
            obtain ⟨q, hq, eq, pq⟩ := unhide Hreach
            have Heq := hide eq
            have Hpq := hide pq
            clear eq pq
            go_wp2_with fail
            go_loop [20, 21] (fun iv nv => ∃ r : Nat, r ≤ q ∧ iv = .int .i64 ((m0 + r) % n : Nat) ∧ nv = .int .i64 r) (fun _ nv => q - (intOf nv).toNat)
            case atStart => exact ⟨0, Nat.zero_le _, by simp [Nat.mod_eq_of_lt hm0n], rfl⟩
            case round =>
              obtain ⟨r, hr, rfl, rfl⟩ := hrel
              have hin : (m0 + r) % n < n := Nat.mod_lt _ (by omega)
              have hci := hst.cells _ hin
              obtain ⟨i, hi'⟩ : ∃ i, i = (m0 + r) % n := ⟨_, rfl⟩
              rw [← hi'] at hin hci ⊢
              by_cases hrq : r < q
              · have hij : i ≠ j := by
                  intro e
                  have e1 := back_mod m0 r n hm0n (by omega)
                  have e2 := back_mod m0 q n hm0n hq
                  rw [unhide Heq] at e2
                  rw [← hi', e, e2] at e1
                  omega
                have hb3 : ((i : Int) != (j : Int)) = true := by rw [bne_iff_ne]; omega
                have hTi : T i ≠ 0 := by rw [hi']; exact unhide Hpq r hrq
                have hb4 : (T i == 0) = false := by simpa using hTi
                have hand := and_law n (unhide HN7) i hin
                rw [next_mod m0 r n i hi'] at hand
                obtain ⟨i2, hi2⟩ : ∃ i2, i2 = (m0 + (r + 1)) % n := ⟨_, rfl⟩
                rw [← hi2] at hand
                have Hi2 := hide hi2
                have Hi := hide hi'
                clear hi2 hi' hTi hij
                go_wp2_with fail
                go_round
                case rel => exact ⟨r + 1, by omega, by rw [unhide Hi2], by go_num⟩
                case measure => simp [intOf]; omega
              · obtain rfl : r = q := by omega
                have hij : i = j := by rw [hi']; exact unhide Heq
                subst hij
                have hb3 : ((i : Int) != (i : Int)) = false := by simp
                clear hi'
                go_wp2_with fail
                go_round
                case rel => exact ⟨i + 1, by omega, by rw [← unhide Hc]; go_num, by go_num⟩
                case measure => simp [intOf]; omega
        · obtain rfl : j = n := by omega
          have hcm := hinv.count
          have hb2 : ((cnt T j : Nat) : Int) == (m : Int) := by rw [hcm]; simp
          clear hcm
          go_wp2_with fail
          go_ret
          exact ⟨rfl, hbel⟩
end Go.Proofs.Ybulkazdy
