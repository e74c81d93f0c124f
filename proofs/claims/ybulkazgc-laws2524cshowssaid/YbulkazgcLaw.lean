/-
  'LawS2524CShows' walked.
-/
import Derived.Test.YbulkazgcWorlds
import Derived.Deep.CutRange
namespace Go.Proofs.Ybulkazgc
open Go.RowKit
set_option linter.unusedVariables false

set_option maxRecDepth 100000 in
set_option maxHeartbeats 4000000 in
theorem law_core (a0 a1 a3 a4 a5 a6 : Int) (cond del : Bool) (w : World) (n i v0 : Nat) (k st : Int)
    (b0 : 0 ≤ a0 ∧ a0 < 256) (b1 : 0 ≤ a1 ∧ a1 < 256) (b3 : 0 ≤ a3 ∧ a3 < 18446744073709551616) (b4 : 0 ≤ a4 ∧ a4 < 18446744073709551616) (b5 : 0 ≤ a5 ∧ a5 < 256) (b6 : 0 ≤ a6 ∧ a6 < 256)
    (hk : a0 % 3 = k) (hst : a1 % 4 = st) (hn : 2 + a5 % 8 = (n : Int)) (hi : a6 % 4 = (i : Int)) (hv : a4 % (n : Int) = (v0 : Int)) (hn2 : 2 ≤ n) (hn9 : n ≤ 9) (hi3 : i ≤ 3) (hv0 : v0 < n) (hk3 : k = 0 ∨ k = 1 ∨ k = 2) (hs4 : st = 0 ∨ st = 1 ∨ st = 2 ∨ st = 3) :
    Calls Yba.prog 3 #[.int .u8 a0, .int .u8 a1, .bool cond, .int .u64 a3, .int .u64 a4, .int .u8 a5, .int .u8 a6, .bool del] w fun e w' => e = .returned (.bool true) ∧ Below w.heap.size w w' := by
  obtain ⟨b00, b01⟩ := b0; obtain ⟨b10, b11⟩ := b1; obtain ⟨b40, b41⟩ := b4; obtain ⟨b50, b51⟩ := b5; obtain ⟨b60, b61⟩ := b6; obtain ⟨b30, b31⟩ := b3
  have HK := hide hk3
  have HS := hide hs4
  clear hk3 hs4
  go_enter Yba.func3, Yba.ntmps3
  go_upto_region 6 with fail
  rw [hk, hst, hv, hi]
  clear hk hst hv hi hn b00 b01 b10 b11 b40 b41 b50 b51 b60 b61
  go_cut [54] from 45 to 54 (fun s w' => s = .bool (decide (k = 2 ∧ st = 1 ∧ v0 = 0)) ∧ w = w')
  case first =>
    by_cases c1 : k = 2
    · subst c1
      by_cases c2 : st = 1
      · subst c2
        by_cases c3 : v0 = 0
        · subst c3
          go_wp2_with fail
          go_meet
          case rel => exact ⟨rfl, rfl⟩
        · have hb : ((v0 : Int) == 0) = false := beq_eq_false_iff_ne.2 (by omega)
          go_wp2_with fail
          go_meet
          case rel => exact ⟨by simp [c3], rfl⟩
      · have hb : (st == 1) = false := by simpa using c2
        go_wp2_with fail
        go_meet
        case rel => exact ⟨by simp [c2], rfl⟩
    · have hb : (k == 2) = false := by simpa using c1
      go_wp2_with fail
      go_meet
      case rel => exact ⟨by simp [c1], rfl⟩
  case rest =>
    obtain ⟨rfl, rfl⟩ := hcut
    go_upto_if 54 with fail
    obtain ⟨vn, hvn⟩ : ∃ vn : Nat, vn = if k = 2 ∧ st = 1 ∧ v0 = 0 then 1 else v0 := ⟨_, rfl⟩
    go_cut [21] from 45 to 54 (fun s w' => s = .int .u64 (vn : Int) ∧ w = w')
    case first =>
      by_cases c : k = 2 ∧ st = 1 ∧ v0 = 0
      · rw [if_pos c] at hvn
        have hc : decide (k = 2 ∧ st = 1 ∧ v0 = 0) = true := decide_eq_true c
        subst hvn
        go_wp2_with fail
        go_meet
        case rel => exact ⟨rfl, rfl⟩
      · rw [if_neg c] at hvn
        have hc : decide (k = 2 ∧ st = 1 ∧ v0 = 0) = false := decide_eq_false c
        subst hvn
        go_wp2_with fail
        go_meet
        case rel => exact ⟨rfl, rfl⟩
    case rest =>
      obtain ⟨rfl, rfl⟩ := hcut
      have hvn' : vn < n := by rw [hvn]; split <;> omega
      have hd : Hid (k = 2 → st = 1 → 1 ≤ vn) := hide (by intro h1 h2; rw [hvn]; split <;> simp_all <;> omega)
      clear hvn
      have hmk := mkO (i + 1) (by omega)
      have ec : ((i + 1 : Nat) : Int) = (i : Int) + 1 := by omega
      simp only [ec] at hmk
      clear ec
      go_wp2_with ((with_reducible show wpList _ _ _ ({ dst := none, op := Op.store 26 (.tmp 67) (.tmp 66), type := _, pos := _, after := _, guard := _ } :: _) _ _); refine wpList_store_mid rfl 26 (.tmp 67) (.tmp 66) rfl (w.heap.size + 1) (i * 10) (orec k st cond a3 vn).toArray (by rfl) (by rfl) (by exact made_there _ _ i) Yba.size26 (orec_one _ _ _ _ _) ?_)
      clear hmk
      refine (W1.fresh (W1.made w i k st cond a3 vn) n (by omega)).mono ?_
      rintro e w1 ⟨rfl, h2⟩
      go_wp2_with fail
      refine (W2.shows h2 del _ rfl rfl rfl (by omega) hi3 hvn' (unhide HK) (unhide HS) (unhide hd)).mono ?_
      rintro e w2 ⟨rfl, h3⟩
      go_wp2_with fail
      refine (h3.fresh (by omega)).mono ?_
      rintro e w3 ⟨rfl, h4⟩
      go_upto_if 79 with fail
      go_cut [] from 80 to 147 (fun w' => W4 w.heap.size w1.heap.size w2.heap.size w n i del k st cond a3 vn (outV (act del k st cond a3 vn) (fun _ => -1) vn i) (outN (act del k st cond a3 vn) (fun _ => -1) vn i) (outV (act del k st cond a3 vn) (fun _ => -1) vn i) (outN (act del k st cond a3 vn) (fun _ => -1) vn i) w')
      case first =>
        clear h2 h3
        cases del with
        | false =>
          have H4 := hide h4
          clear h4
          go_wp2_with fail
          go_meet
          case rel => exact (unhide H4).after (SEnd.refl (unhide H4).exp)
        | true =>
          by_cases hiv : a3 = 0
          · subst hiv
            rcases unhide HK with rfl | rfl | rfl <;> rcases unhide HS with rfl | rfl | rfl | rfl
            · have H4 := hide h4
              clear h4
              go_wp2_with fail
              go_meet
              case rel => exact (unhide H4).after (SEnd.refl (unhide H4).exp)
            · have r2 : w3.cell? ⟨w2.heap.size, vn * 9 + 2, none⟩ = some (.int .i64 (-1)) := h4.exp.at_ vn hvn' 2 _ rfl
              have f2 := h4.exp.froz (vn * 9 + 2)
              have H4 := hide h4
              clear h4
              go_wp2_with fail
              go_meet
              case rel => exact (unhide H4).after ((SEnd.refl (unhide H4).exp).setVal vn hvn' _)
            · have r3 : w3.cell? ⟨w2.heap.size, vn * 9 + 3, none⟩ = some (.int .i64 (-1)) := h4.exp.at_ vn hvn' 3 _ rfl
              have f3 := h4.exp.froz (vn * 9 + 3)
              have H4 := hide h4
              clear h4
              go_wp2_with fail
              go_meet
              case rel => exact (unhide H4).after ((SEnd.refl (unhide H4).exp).setNon vn hvn' _)
            · have r2 : w3.cell? ⟨w2.heap.size, vn * 9 + 2, none⟩ = some (.int .i64 (-1)) := h4.exp.at_ vn hvn' 2 _ rfl
              have f2 := h4.exp.froz (vn * 9 + 2)
              have H4 := hide h4
              clear h4
              go_wp2_with fail
              go_meet
              case rel => exact (unhide H4).after ((SEnd.refl (unhide H4).exp).setVal vn hvn' _)
            · have H4 := hide h4
              clear h4
              go_wp2_with fail
              go_meet
              case rel => exact (unhide H4).after (SEnd.refl (unhide H4).exp)
            · cases cond with
              | false =>
                have r2 : w3.cell? ⟨w2.heap.size, vn * 9 + 2, none⟩ = some (.int .i64 (-1)) := h4.exp.at_ vn hvn' 2 _ rfl
                have f2 := h4.exp.froz (vn * 9 + 2)
                have H4 := hide h4
                clear h4
                go_wp2_with fail
                go_meet
                case rel => exact (unhide H4).after ((SEnd.refl (unhide H4).exp).setVal vn hvn' _)
              | true =>
                by_cases hgt : 1 < vn
                · obtain ⟨m, rfl⟩ : ∃ m, vn = m + 1 := ⟨vn - 1, by omega⟩
                  have ha : act true 1 1 true 0 (m + 1) = 2 := by simp [act]; omega
                  rw [ha] at h4
                  have Ha := hide ha
                  clear ha
                  have r2 : w3.cell? ⟨w2.heap.size, (m + 1) * 9 + 2, none⟩ = some (.int .i64 (-1)) := h4.exp.at_ (m + 1) hvn' 2 _ rfl
                  have f2 := h4.exp.froz ((m + 1) * 9 + 2)
                  have r3 : w3.cell? ⟨w2.heap.size, m * 9 + 3, none⟩ = some (.int .i64 (-1)) := h4.exp.at_ m (by omega) 3 _ rfl
                  have f3 := h4.exp.froz (m * 9 + 3)
                  have hgt' : (1 : Int) < (m : Int) + 1 := by omega
                  have H4 := hide h4
                  clear h4
                  go_wp2_with fail
                  go_meet
                  case rel => rw [unhide Ha]; exact (unhide H4).after (((SEnd.refl (unhide H4).exp).setVal (m + 1) hvn' _).setNon m (by omega) _)
                · have ha : act true 1 1 true 0 vn = 3 := by simp [act, hgt]
                  rw [ha] at h4
                  have Ha := hide ha
                  clear ha
                  have r2 : w3.cell? ⟨w2.heap.size, vn * 9 + 2, none⟩ = some (.int .i64 (-1)) := h4.exp.at_ vn hvn' 2 _ rfl
                  have f2 := h4.exp.froz (vn * 9 + 2)
                  have hgt' : decide ((1 : Int) < (vn : Int)) = false := decide_eq_false (by omega)
                  have H4 := hide h4
                  clear h4
                  go_wp2_with fail
                  go_meet
                  case rel => rw [unhide Ha]; exact (unhide H4).after ((SEnd.refl (unhide H4).exp).setVal vn hvn' _)
            · have r3 : w3.cell? ⟨w2.heap.size, vn * 9 + 3, none⟩ = some (.int .i64 (-1)) := h4.exp.at_ vn hvn' 3 _ rfl
              have f3 := h4.exp.froz (vn * 9 + 3)
              have H4 := hide h4
              clear h4
              go_wp2_with fail
              go_meet
              case rel => exact (unhide H4).after ((SEnd.refl (unhide H4).exp).setNon vn hvn' _)
            · have r2 : w3.cell? ⟨w2.heap.size, vn * 9 + 2, none⟩ = some (.int .i64 (-1)) := h4.exp.at_ vn hvn' 2 _ rfl
              have f2 := h4.exp.froz (vn * 9 + 2)
              have H4 := hide h4
              clear h4
              go_wp2_with fail
              go_meet
              case rel => exact (unhide H4).after ((SEnd.refl (unhide H4).exp).setVal vn hvn' _)
            · have H4 := hide h4
              clear h4
              go_wp2_with fail
              go_meet
              case rel => exact (unhide H4).after (SEnd.refl (unhide H4).exp)
            · obtain ⟨m, rfl⟩ : ∃ m, vn = m + 1 := ⟨vn - 1, by have := unhide hd rfl rfl; omega⟩
              have r3 : w3.cell? ⟨w2.heap.size, (m + 1) * 9 + 3, none⟩ = some (.int .i64 (-1)) := h4.exp.at_ (m + 1) hvn' 3 _ rfl
              have f3 := h4.exp.froz ((m + 1) * 9 + 3)
              have r2 : w3.cell? ⟨w2.heap.size, m * 9 + 2, none⟩ = some (.int .i64 (-1)) := h4.exp.at_ m (by omega) 2 _ rfl
              have f2 := h4.exp.froz (m * 9 + 2)
              have H4 := hide h4
              clear h4
              go_wp2_with fail
              go_meet
              case rel => exact (unhide H4).after (((SEnd.refl (unhide H4).exp).setNon (m + 1) hvn' _).setVal m (by omega) _)
            · have r3 : w3.cell? ⟨w2.heap.size, vn * 9 + 3, none⟩ = some (.int .i64 (-1)) := h4.exp.at_ vn hvn' 3 _ rfl
              have f3 := h4.exp.froz (vn * 9 + 3)
              have H4 := hide h4
              clear h4
              go_wp2_with fail
              go_meet
              case rel => exact (unhide H4).after ((SEnd.refl (unhide H4).exp).setNon vn hvn' _)
            · have r2 : w3.cell? ⟨w2.heap.size, vn * 9 + 2, none⟩ = some (.int .i64 (-1)) := h4.exp.at_ vn hvn' 2 _ rfl
              have f2 := h4.exp.froz (vn * 9 + 2)
              have H4 := hide h4
              clear h4
              go_wp2_with fail
              go_meet
              case rel => exact (unhide H4).after ((SEnd.refl (unhide H4).exp).setVal vn hvn' _)
          · have hb : (a3 == 0) = false := by simpa using hiv
            rcases unhide HK with rfl | rfl | rfl <;> rcases unhide HS with rfl | rfl | rfl | rfl
            · have H4 := hide h4
              clear h4
              go_wp2_with fail
              go_meet
              case rel => exact (unhide H4).after (SEnd.refl (unhide H4).exp)
            · have r2 : w3.cell? ⟨w2.heap.size, vn * 9 + 2, none⟩ = some (.int .i64 (-1)) := h4.exp.at_ vn hvn' 2 _ rfl
              have f2 := h4.exp.froz (vn * 9 + 2)
              have H4 := hide h4
              clear h4
              go_wp2_with fail
              go_meet
              case rel => exact (unhide H4).after ((SEnd.refl (unhide H4).exp).setVal vn hvn' _)
            · have r3 : w3.cell? ⟨w2.heap.size, vn * 9 + 3, none⟩ = some (.int .i64 (-1)) := h4.exp.at_ vn hvn' 3 _ rfl
              have f3 := h4.exp.froz (vn * 9 + 3)
              have H4 := hide h4
              clear h4
              go_wp2_with fail
              go_meet
              case rel => exact (unhide H4).after ((SEnd.refl (unhide H4).exp).setNon vn hvn' _)
            · have ha : act true 0 3 cond a3 vn = 0 := by simp [act, hiv]
              rw [ha] at h4
              have Ha := hide ha
              clear ha
              have H4 := hide h4
              clear h4
              go_wp2_with fail
              go_meet
              case rel => rw [unhide Ha]; exact (unhide H4).after (SEnd.refl (unhide H4).exp)
            · have H4 := hide h4
              clear h4
              go_wp2_with fail
              go_meet
              case rel => exact (unhide H4).after (SEnd.refl (unhide H4).exp)
            · have ha : act true 1 1 cond a3 vn = 3 := by simp [act, hiv]
              rw [ha] at h4
              have Ha := hide ha
              clear ha
              cases cond with
              | false =>
                have r2 : w3.cell? ⟨w2.heap.size, vn * 9 + 2, none⟩ = some (.int .i64 (-1)) := h4.exp.at_ vn hvn' 2 _ rfl
                have f2 := h4.exp.froz (vn * 9 + 2)
                have H4 := hide h4
                clear h4
                go_wp2_with fail
                go_meet
                case rel => rw [unhide Ha]; exact (unhide H4).after ((SEnd.refl (unhide H4).exp).setVal vn hvn' _)
              | true =>
                have r2 : w3.cell? ⟨w2.heap.size, vn * 9 + 2, none⟩ = some (.int .i64 (-1)) := h4.exp.at_ vn hvn' 2 _ rfl
                have f2 := h4.exp.froz (vn * 9 + 2)
                have H4 := hide h4
                clear h4
                go_wp2_with fail
                go_meet
                case rel => rw [unhide Ha]; exact (unhide H4).after ((SEnd.refl (unhide H4).exp).setVal vn hvn' _)
            · have r3 : w3.cell? ⟨w2.heap.size, vn * 9 + 3, none⟩ = some (.int .i64 (-1)) := h4.exp.at_ vn hvn' 3 _ rfl
              have f3 := h4.exp.froz (vn * 9 + 3)
              have H4 := hide h4
              clear h4
              go_wp2_with fail
              go_meet
              case rel => exact (unhide H4).after ((SEnd.refl (unhide H4).exp).setNon vn hvn' _)
            · have ha : act true 1 3 cond a3 vn = 0 := by simp [act, hiv]
              rw [ha] at h4
              have Ha := hide ha
              clear ha
              have H4 := hide h4
              clear h4
              go_wp2_with fail
              go_meet
              case rel => rw [unhide Ha]; exact (unhide H4).after (SEnd.refl (unhide H4).exp)
            · have H4 := hide h4
              clear h4
              go_wp2_with fail
              go_meet
              case rel => exact (unhide H4).after (SEnd.refl (unhide H4).exp)
            · obtain ⟨m, rfl⟩ : ∃ m, vn = m + 1 := ⟨vn - 1, by have := unhide hd rfl rfl; omega⟩
              have r3 : w3.cell? ⟨w2.heap.size, (m + 1) * 9 + 3, none⟩ = some (.int .i64 (-1)) := h4.exp.at_ (m + 1) hvn' 3 _ rfl
              have f3 := h4.exp.froz ((m + 1) * 9 + 3)
              have r2 : w3.cell? ⟨w2.heap.size, m * 9 + 2, none⟩ = some (.int .i64 (-1)) := h4.exp.at_ m (by omega) 2 _ rfl
              have f2 := h4.exp.froz (m * 9 + 2)
              have H4 := hide h4
              clear h4
              go_wp2_with fail
              go_meet
              case rel => exact (unhide H4).after (((SEnd.refl (unhide H4).exp).setNon (m + 1) hvn' _).setVal m (by omega) _)
            · have r3 : w3.cell? ⟨w2.heap.size, vn * 9 + 3, none⟩ = some (.int .i64 (-1)) := h4.exp.at_ vn hvn' 3 _ rfl
              have f3 := h4.exp.froz (vn * 9 + 3)
              have H4 := hide h4
              clear h4
              go_wp2_with fail
              go_meet
              case rel => exact (unhide H4).after ((SEnd.refl (unhide H4).exp).setNon vn hvn' _)
            · have ha : act true 2 3 cond a3 vn = 0 := by simp [act, hiv]
              rw [ha] at h4
              have Ha := hide ha
              clear ha
              have H4 := hide h4
              clear h4
              go_wp2_with fail
              go_meet
              case rel => rw [unhide Ha]; exact (unhide H4).after (SEnd.refl (unhide H4).exp)
      case rest =>
        clear h2 h3 h4
        generalize outV (act del k st cond a3 vn) (fun _ => -1) vn i = V at hcut
        generalize outN (act del k st cond a3 vn) (fun _ => -1) vn i = N at hcut
        have c4 := hcut.base.c4
        have hnn : ((n : Int) != (n : Int)) = false := by simp
        go_wp2_with fail
        clear c4 hnn
        go_loopw [29] (fun s wr => ∃ j : Nat, j ≤ n ∧ s = .int .i64 j ∧ W4 w.heap.size w1.heap.size w2.heap.size w n i del k st cond a3 vn V N V N wr) (fun s _ => n - (intOf s).toNat)
        case atStart => exact ⟨0, Nat.zero_le _, rfl, hcut⟩
        case round =>
          clear hcut
          obtain ⟨j, hj, rfl, hw⟩ := hrel
          by_cases hlt : j < n
          · have c4 := hw.base.c4
            have p0 := hw.base.row.at_ j hlt 0 _ rfl
            have p1 := hw.base.row.at_ j hlt 1 _ rfl
            have p2 := hw.base.row.at_ j hlt 2 _ rfl
            have p3 := hw.base.row.at_ j hlt 3 _ rfl
            have p4 := hw.base.row.at_ j hlt 4 _ rfl
            have p5 := hw.base.row.at_ j hlt 5 _ rfl
            have p6 := hw.base.row.at_ j hlt 6 _ rfl
            have p7 := hw.base.row.at_ j hlt 7 _ rfl
            have p8 := hw.base.row.at_ j hlt 8 _ rfl
            have q0 := hw.exp.at_ j hlt 0 _ rfl
            have q1 := hw.exp.at_ j hlt 1 _ rfl
            have q2 := hw.exp.at_ j hlt 2 _ rfl
            have q3 := hw.exp.at_ j hlt 3 _ rfl
            have q4 := hw.exp.at_ j hlt 4 _ rfl
            have q5 := hw.exp.at_ j hlt 5 _ rfl
            have q6 := hw.exp.at_ j hlt 6 _ rfl
            have q7 := hw.exp.at_ j hlt 7 _ rfl
            have q8 := hw.exp.at_ j hlt 8 _ rfl
            simp only [Nat.add_zero] at p0 q0
            have b1 : (j : Int) < (n : Int) := by omega
            have b2 : (0 : Int) ≤ (j : Int) := by omega
            have Hw := hide hw
            clear hw
            go_wp2_with fail
            go_quiet (fail)
            go_wp2_with fail
            go_roundw
            case rel => exact ⟨j + 1, by omega, by go_num, (unhide Hw).drewN _⟩
            case measure => simp [intOf]; omega
          · obtain rfl : j = n := by omega
            have c0 := hw.base.c0
            have c3 := hw.base.c3
            have o0 := hw.base.ops 0 _ rfl
            have o1 := hw.base.ops 1 _ rfl
            have o2 := hw.base.ops 2 _ rfl
            have o3 := hw.base.ops 3 _ rfl
            have o4 := hw.base.ops 4 _ rfl
            have o5 := hw.base.ops 5 _ rfl
            have o6 := hw.base.ops 6 _ rfl
            have o7 := hw.base.ops 7 _ rfl
            have o8 := hw.base.ops 8 _ rfl
            have o9 := hw.base.ops 9 _ rfl
            have l0 := hw.base.loc 0 _ rfl
            have l1 := hw.base.loc 1 _ rfl
            have l2 := hw.base.loc 2 _ rfl
            have l3 := hw.base.loc 3 _ rfl
            have l4 := hw.base.loc 4 _ rfl
            have l5 := hw.base.loc 5 _ rfl
            have l6 := hw.base.loc 6 _ rfl
            have l7 := hw.base.loc 7 _ rfl
            have l8 := hw.base.loc 8 _ rfl
            have l9 := hw.base.loc 9 _ rfl
            simp only [Nat.add_zero] at o0
            simp only [Nat.zero_add] at l0 l1 l2 l3 l4 l5 l6 l7 l8 l9
            have b1 : (i : Int) < (i : Int) + 1 := by omega
            have b2 : (0 : Int) ≤ (i : Int) := by omega
            have Hw := hide hw
            clear hw
            go_wp2_with fail
            go_quiet (fail)
            go_wp2_with fail
            go_ret
            exact ⟨rfl, ((unhide Hw).drewN _).base.below⟩
end Go.Proofs.Ybulkazgc
