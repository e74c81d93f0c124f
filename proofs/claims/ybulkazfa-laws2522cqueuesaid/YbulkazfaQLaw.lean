/-
  'LawS2522CQueue' walked: three modes (a fresh channel; one that is full; none), one tail.
-/
import Derived.Test.YbulkazfaQState
import Derived.Deep.QuietTactic
import Derived.BigQuiet
namespace Go.Proofs.Ybulkazfa
open Go.RowKit Go.Conc

set_option maxRecDepth 100000 in
set_option maxHeartbeats 4000000 in
theorem q_core (a0 : Option Addr) (len cap : Nat) (z : Nat → Int) (id md : Int) (w : World) (hlen : len ≤ 1024) (md0 : 0 ≤ md) (md1 : md < 256)
    (hz : ∀ i, i < len → ∃ bb off : Nat, a0 = some ⟨bb, off, none⟩ ∧ bb < w.heap.size ∧ w.cell? ⟨bb, off + i, none⟩ = some (.int .u32 (z i))) :
    Calls Yba.prog 3 #[.slice a0 len cap, .int .u32 id, .int .u8 md] w fun e w' => e = .returned (.bool true) ∧ Below w.heap.size w w' := by
  obtain ⟨i0, hi, hz0, hz1, hz2⟩ := info_parts Yba.info70
  have hmk := mkPrior len hlen
  have hmc := mkChan
  have hd : decide (1024 < (len : Int)) = false := decide_eq_false (by omega)
  have Hz := hide hz
  have hcase : md % 3 = 0 ∨ md % 3 = 1 ∨ md % 3 = 2 := by omega
  clear hz
  rcases hcase with hm | hm | hm
  case' inl =>
    go_enter Yba.func3, Yba.ntmps3
    go_wp2_with fail
    clear hmk hmc hd
    rw [hm]
    obtain ⟨p, hp⟩ : ∃ p, p = w.heap.size + 1 + 1 := ⟨_, rfl⟩
    have Hp := hide hp
    obtain ⟨cv, hcv⟩ : ∃ cv : Option Nat, cv = some (w.heap.size + 1) := ⟨_, rfl⟩
    have Hcv := hide hcv
    obtain ⟨cB, n, Hst⟩ : ∃ cB n, Hid (P1 w.heap.size p len cv cB n z w 0 (fun _ => 0) (((w.alloc
          (Obj.cells
            #[Value.int IntKind.u64 0, Value.int IntKind.u32 0, Value.int IntKind.i32 0, Value.int IntKind.u32 0,
              Value.string { data := #[] }, Value.slice none 0 0, Value.slice none 0 0, Value.slice none 0 0,
              Value.map none, Value.int IntKind.u64 0, Value.int IntKind.u64 0, Value.pointer none,
              Value.slice none 0 0, Value.int IntKind.i64 0, Value.int IntKind.i64 0, Value.int IntKind.u64 0,
              Value.map none, Value.slice none 0 0, Value.int IntKind.i64 0, Value.int IntKind.u64 0,
              Value.int IntKind.i64 0, Value.pointer none, Value.nilFunc, Value.int IntKind.u64 0,
              Value.int IntKind.u32 0, Value.map none, Value.slice none 0 0, Value.slice none 0 0,
              Value.chan (some (w.heap.size + 1)), Value.pointer none]
            69)).alloc (Obj.chan 1 #[] false 0 0 false)).alloc (Obj.cells (madeCells #[Value.pointer none] len) 70))) :=
      ⟨w.heap.size + 1, 0, P1.start z (by rw [hcv]; exact pre_chan w _ rfl rfl) (by rw [hp]; simp) hlen⟩
    clear hp hcv hm md0 md1
  case' inr.inl =>
    go_enter Yba.func3, Yba.ntmps3
    iterate 104 (first | go_values | go_skip | go_guarded | go_step | go_upon)
    obtain ⟨W, hW⟩ : ∃ W, W = (w.alloc
          (Obj.cells
            #[Value.int IntKind.u64 0, Value.int IntKind.u32 0, Value.int IntKind.i32 0, Value.int IntKind.u32 0,
              Value.string { data := #[] }, Value.slice none 0 0, Value.slice none 0 0, Value.slice none 0 0,
              Value.map none, Value.int IntKind.u64 0, Value.int IntKind.u64 0, Value.pointer none,
              Value.slice none 0 0, Value.int IntKind.i64 0, Value.int IntKind.i64 0, Value.int IntKind.u64 0,
              Value.map none, Value.slice none 0 0, Value.int IntKind.i64 0, Value.int IntKind.u64 0,
              Value.int IntKind.i64 0, Value.pointer none, Value.nilFunc, Value.int IntKind.u64 0,
              Value.int IntKind.u32 0, Value.map none, Value.slice none 0 0, Value.slice none 0 0,
              Value.chan (some (w.heap.size + 1)), Value.pointer none]
            69)).alloc (Obj.chan 1 #[] false 0 0 false) := ⟨_, rfl⟩
    have hpre : Pre w.heap.size (some (w.heap.size + 1)) (w.heap.size + 1) 0 w W := by rw [hW]; exact pre_chan w _ rfl rfl
    rw [← hW]
    have hwk := hpre.wake
    have Hpre := hide hpre
    clear hpre hW
    rcases (unhide Hpre).chan with ⟨h, _⟩ | ⟨_, _, buf, s, r, hbuf, hblk⟩
    case inl => cases h
    have Hblk := hide hblk
    clear hblk
    refine wp_region_in (id := 8) ?_
    show InOps Yba.prog _ _ [0, 1, 2, 3, 4, 5] _ _
    refine inOps_value (w' := W) (v := .pointer (some ⟨w.heap.size, 0, none⟩)) rfl (by rfl) (by simp [go_sem, execOp, Act.eval]) ?_
    refine inOps_value (w' := W) (v := .pointer (some ⟨w.heap.size, 0, none⟩)) rfl (by rfl) (by simp [go_sem, execOp, Act.eval, Act.put]) ?_
    refine inOps_value (w' := W) (v := .pointer (some ⟨w.heap.size, 28, none⟩)) rfl (by rfl) (by simp [go_sem, execOp, Act.eval, Act.put]) ?_
    refine inOps_value (w' := W) (v := .chan (some (w.heap.size + 1))) rfl (by rfl) (by simp [go_sem, execOp, Act.eval, Act.put, hwk]) ?_
    refine inOps_value (w' := W) (v := .agg #[]) rfl (by rfl) (by simp [go_sem, execOp, Act.eval, Act.put]) ?_
    refine inOps_send (c := w.heap.size + 1) (v := .agg #[]) (z := .tuple #[]) rfl (by rfl) (by simp [go_sem, execOp, scase, Act.eval, Act.put]) (unhide Hblk) (by omega) ?_
    refine inOps_end ?_
    obtain ⟨w0, hw0⟩ : ∃ w0, w0 = W.setChan (w.heap.size + 1) 1 (buf.push (.agg #[])) false (s + 1) r false := ⟨_, rfl⟩
    rw [← hw0]
    have Hpre0 : Hid (Pre w.heap.size (some (w.heap.size + 1)) (w.heap.size + 1) 1 w w0) := by
      show Pre _ _ _ _ _ _
      rw [hw0]
      exact pre_sent (unhide Hpre) _ _ _ (by rw [Array.size_push]; omega)
    clear hw0 Hpre hwk Hblk hbuf
    simp only [Act.put]
    go_wp2_with fail
    clear hmk hmc hd
    obtain ⟨p, hp⟩ : ∃ p, p = w0.heap.size := ⟨_, rfl⟩
    have Hp := hide hp
    obtain ⟨cv, hcv⟩ : ∃ cv : Option Nat, cv = some (w.heap.size + 1) := ⟨_, rfl⟩
    have Hcv := hide hcv
    obtain ⟨cB, n, Hst⟩ : ∃ cB n, Hid (P1 w.heap.size p len cv cB n z w 0 (fun _ => 0) (w0.alloc (Obj.cells (madeCells #[Value.pointer none] len) 70))) :=
      ⟨w.heap.size + 1, 1, P1.start z (by rw [hcv]; exact unhide Hpre0) hp.symm hlen⟩
    clear hp hcv hm md0 md1 Hpre0
  case' inr.inr =>
    go_enter Yba.func3, Yba.ntmps3
    go_wp2_with fail
    clear hmk hmc hd
    rw [hm]
    obtain ⟨p, hp⟩ : ∃ p, p = w.heap.size + 1 := ⟨_, rfl⟩
    have Hp := hide hp
    obtain ⟨cv, hcv⟩ : ∃ cv : Option Nat, cv = none := ⟨_, rfl⟩
    have Hcv := hide hcv
    obtain ⟨cB, n, Hst⟩ : ∃ cB n, Hid (P1 w.heap.size p len cv cB n z w 0 (fun _ => 0) ((w.alloc
          (Obj.cells
            #[Value.int IntKind.u64 0, Value.int IntKind.u32 0, Value.int IntKind.i32 0, Value.int IntKind.u32 0,
              Value.string { data := #[] }, Value.slice none 0 0, Value.slice none 0 0, Value.slice none 0 0,
              Value.map none, Value.int IntKind.u64 0, Value.int IntKind.u64 0, Value.pointer none,
              Value.slice none 0 0, Value.int IntKind.i64 0, Value.int IntKind.i64 0, Value.int IntKind.u64 0,
              Value.map none, Value.slice none 0 0, Value.int IntKind.i64 0, Value.int IntKind.u64 0,
              Value.int IntKind.i64 0, Value.pointer none, Value.nilFunc, Value.int IntKind.u64 0,
              Value.int IntKind.u32 0, Value.map none, Value.slice none 0 0, Value.slice none 0 0,
              Value.chan none, Value.pointer none]
            69)).alloc (Obj.cells (madeCells #[Value.pointer none] len) 70))) :=
      ⟨w.heap.size, 0, P1.start z (by rw [hcv]; exact pre_none w _ rfl rfl) (by rw [hp]; simp) hlen⟩
    clear hp hcv hm md0 md1
  all_goals
    go_loopw [9, 44] (fun v i wr => ∃ (k : Nat) (q : Nat → Nat), k ≤ len ∧ i = .int .i64 k ∧ v = .slice (some ⟨p, 0, none⟩) k len ∧ P1 w.heap.size p len cv cB n z w k q wr) (fun _ i _ => len - (intOf i).toNat)
    case atStart => exact ⟨0, fun _ => 0, Nat.zero_le _, rfl, by rw [unhide Hp], unhide Hst⟩
    case round =>
      clear Hst
      obtain ⟨k, q, hk, rfl, rfl, hst⟩ := hrel
      by_cases hlt : k < len
      · obtain ⟨bb, off, rfl, hbb, hc0⟩ := unhide Hz k hlt
        have hc := (hst.below.cell (p := ⟨bb, off + k, none⟩) hbb).trans hc0
        have hown := hst.own
        clear hc0
        go_wp2_with (at_builtin; refine wpList_append_fits _ rfl _ _ 64 rfl p 70 i0 1 Yba.underlying64 hi hz1 p k len (ptrs q k) rfl ((hown.alloc _).alloc _) ⟨wr.heap.size + 1, 0, none⟩ 1 1 [.pointer (some ⟨wr.heap.size, 0, none⟩)] rfl rfl ?c1 ?c2 ?c3 ?_)
        case c1 =>
          intro j u hj
          match j, hj with
          | 0, hj => simp at hj; subst hj; simp [Addr.add]
        case c2 => intro u hu; simp at hu; subst hu; rfl
        case c3 => omega
        intro w1 hown1 hgrow
        have hst1 := hst.next _ rfl _ hown1 hgrow
        clear hown1 hgrow hown hst
        go_wp2_with fail
        go_roundw
        case rel => exact ⟨k + 1, _, by omega, by go_num, rfl, hst1⟩
        case measure => simp [intOf]; omega
      · obtain rfl : k = len := by omega
        obtain ⟨wA, hwA⟩ : ∃ wA, wA = wr := ⟨_, rfl⟩
        subst hwA
        go_wp2_with fail
        go_loopw [57] (fun i ws => ∃ (j : Nat) (v : Value), j ≤ k ∧ i = .int .i64 j ∧ P2 w.heap.size wA.heap.size cv q wA j v ws) (fun i _ => k - (intOf i).toNat)
        case atStart => exact ⟨0, _, Nat.zero_le _, rfl, P2.start hst⟩
        case round =>
          obtain ⟨j, v, hj, rfl, h2⟩ := hrel
          have hps := hst.psz
          have hgsz := hst.gsz
          have hbd := h2.bd
          have hws := h2.size
          have hu := h2.uns
          have fu := h2.froz
          have hown := h2.own
          have hgw : w.heap.size < wr.heap.size := by omega
          by_cases hjk : j < k
          · have hpj : wr.cell? ⟨p, j, none⟩ = some (.pointer (some ⟨q j, 0, none⟩)) := by
              rw [World.cell?_of_block (a := ⟨p, j, none⟩) (h2.kept p hps (by omega)), hst.own.cellAt j (by omega), ptrs_get q k j hjk]
            have Hps := hide hps
            have Hst := hide hst
            clear hps hgsz hst
            go_wp2_with (at_builtin; refine wpList_append_own_at _ rfl _ _ 64 rfl wA.heap.size 70 i0 (.pointer none) 1 8 Yba.underlying64 hi hz0 hz1 hz2 rfl (by decide) _ _ _ rfl (hown.alloc _) ⟨wr.heap.size, 0, none⟩ 1 1 [.pointer (some ⟨q j, 0, none⟩)] rfl rfl ?c1 ?c2 ?c3 ?c4 ?c5 ?_)
            case c1 =>
              intro j u hj
              match j, hj with
              | 0, hj => simp at hj; subst hj; simp [Addr.add]
            case c2 => intro u hu; simp at hu; subst hu; rfl
            case c3 => unfold maxLen; omega
            case c4 => omega
            case c5 => simp; omega
            intro v' w2 hown1 hgrow _ _
            obtain ⟨u, cp, hv⟩ := owns_form (by omega) hown1
            rw [hv]
            rw [hv] at hown1
            clear hv
            have h3 := h2.next _ hgrow u cp hown1
            have hb := h2.blk _ hgrow w.heap.size hbd
            have hu2 : w2.cell? ⟨w.heap.size, 26, none⟩ = some v := (World.cell?_of_block (a := ⟨w.heap.size, 26, none⟩) hb).trans hu
            have fu2 : w2.frozen? ⟨w.heap.size, 26, none⟩ = false := (World.frozen?_of_block (a := ⟨w.heap.size, 26, none⟩) hb).trans fu
            have H3 := hide h3
            clear h3 hown1 hgrow hb hown hu fu h2
            go_wp2_with fail
            go_roundw
            case rel => exact ⟨j + 1, _, by omega, by go_num, unhide H3⟩
            case measure => simp [intOf]; omega
          · obtain rfl : j = k := by omega
            go_wp2_with fail
            refine (P3.make hst h2 hlen _ rfl).mono ?_
            rintro e w' ⟨rfl, u, cp, h3⟩
            have hu' := h3.uns
            have hnn : ((j : Int) + 1 != (j : Int) + 1) = false := by simp
            clear hst h2 hu fu hown hps hgsz hbd hws
            go_wp2_with fail
            go_loopw [89] (fun i ws => ∃ i' : Nat, i' ≤ j ∧ i = .int .i64 i' ∧ P3 w.heap.size p j cv cB wr.heap.size u cp z id w q ws) (fun i _ => j - (intOf i).toNat)
            case atStart => exact ⟨0, Nat.zero_le _, rfl, h3⟩
            case round =>
              clear h3 hu' hnn
              obtain ⟨i, hi', rfl, h3⟩ := hrel
              have hu' := h3.uns
              have hwk := h3.wake
              by_cases hij : i < j
              · obtain ⟨bb, off, rfl, hbb, hc0⟩ := unhide Hz i hij
                have hc := (h3.below.cell (p := ⟨bb, off + i, none⟩) hbb).trans hc0
                have e1 := h3.unsAt i hij
                have e2 := h3.prior i hij
                have e3 := h3.each i hij
                have b1 : (i : Int) < (j : Int) + 1 := by omega
                have b2 : (0 : Int) ≤ (i : Int) := by omega
                have b3 : (i : Int) < (j : Int) := by omega
                have hzz : (z i != z i) = false := by simp
                have hneq := neq70
                have H3 := hide h3
                clear h3 hc0 hbb
                go_wp2_with fail
                go_quiet (fail)
                go_wp2_with fail
                go_roundw
                case rel => exact ⟨i + 1, by omega, by go_num, (unhide H3).drewN _⟩
                case measure => simp [intOf]; omega
              · obtain rfl : i = j := by omega
                have e1 := h3.unsLast
                have e2 := h3.last
                have hneq := neq70
                have hii : (id != id) = false := by simp
                have hbel := h3.below
                have Hch := hide h3.chan
                clear h3
                rcases unhide Hch with ⟨rfl, _⟩ | ⟨rfl, _, buf, s, r, hbuf, hblk⟩
                · first
                  | (exfalso; have hx := unhide Hcv; simp at hx; done)
                  | (have hnl := lenNil
                     clear Hch
                     go_wp2_with fail
                     go_ret
                     exact ⟨rfl, hbel⟩)
                · first
                  | (exfalso; have hx := unhide Hcv; simp at hx; done)
                  | (have hcl := fun ty => run_len_chan (P := Yba.prog) 66 ty Yba.underlying66 hblk
                     rw [if_neg (by simp)] at hbuf
                     rw [hbuf] at hcl
                     clear Hch hblk hbuf
                     go_wp2_with fail
                     go_ret
                     exact ⟨rfl, hbel⟩)
end Go.Proofs.Ybulkazfa
