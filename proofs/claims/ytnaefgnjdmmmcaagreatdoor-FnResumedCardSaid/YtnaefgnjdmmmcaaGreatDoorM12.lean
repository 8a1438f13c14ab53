/-
  What is proved here, of the given program in the given model, of every input, with no condition but those that each theorem states ahead of its conclusion: spec.Schedule: the list that RFC 8446 gives. zzFits2, zzFits1: they give some truth value. spec.IsConnection: what it says of lengths.
-/
import Derived.Test.YtnaefgnjdmmmcaaGreatDoorM11
import Derived.Deep.MidRow
/- spec.Schedule: the list that RFC 8446 gives. -/
namespace Go.Proofs.YtnaefgnjdmmmcaaGreatDoor
open Go.RowKit
set_option linter.unusedSimpArgs false
set_option linter.unusedVariables false
attribute [local irreducible] ValAt OpAt RunX Tr Post FlowK
set_option maxHeartbeats 4000000 in
/-- spec.Schedule -/
theorem c9 (k s b : Int) (q : Conn) (w : World) (hx : Cx q w) : Calls Tryz.prog 9 #[hv k s b, .agg q.cells] w (Ret [] w (JQ (schedOf (hkOf k s b) q))) := by
  obtain ⟨U, hU⟩ : ∃ U : Nat, q.upd = U := ⟨q.upd.toNat, by have := hx.ok.upd0; omega⟩
  have hU5 : U ≤ 5 := by have := hx.ok.upd; omega
  have hUn : q.upd.toNat = U := by omega
  have el : (early (hkOf k s b) q.psk.l).length ≤ 20000 := by rw [early_length]; exact Nat.le_trans (HK.size_le (hkOf_ok k s b)) (by decide)
  have sl : (handshake (hkOf k s b) q.psk.l q.shared.l).length ≤ 20000 := by rw [handshake_length]; exact Nat.le_trans (HK.size_le (hkOf_ok k s b)) (by decide)
  have ml : (master (hkOf k s b) q.psk.l q.shared.l).length ≤ 20000 := by rw [master_length]; exact Nat.le_trans (HK.size_le (hkOf_ok k s b)) (by decide)
  refine enter (Γ := [(0, .ex (hv k s b)), (1, .ex (.agg q.cells))]) Tryz.func9 rfl rfl rfl ⟨⟨_, rfl, rfl⟩, ⟨_, rfl, rfl⟩, trivial⟩ ?_
  repeat (first | refine t_seq ?_ | refine t_region ?_ | refine s_nil ?_ | refine p_then ?_ | refine t_ret ?_ | refine p_then_ret ?_ | refine p_block_ret ?_ | refine t_block ?_ | refine t_exit ?_ | refine p_then_exit ?_ | refine p_block_exit ?_ | refine p_block ?_ | refine t_skip ?_)
  refine s_op (o_box rfl) rfl rfl ?_
  rintro _ w1 hw1 ⟨rfl, hB1⟩
  refine s_op (o_box rfl) rfl rfl ?_
  rintro _ w2 hw2 ⟨rfl, hB2⟩
  refine s_val (v_assign rfl) rfl ?_
  have S : St0 k s b q w w.heap.size w1.heap.size [] w2 := ⟨hx, hw1.trans hw2, hB1.only hw2 (by simp), hB2, by simp⟩
  clear hB1 hB2
  repeat (first | refine t_seq ?_ | refine t_region ?_ | refine s_nil ?_ | refine p_then ?_ | refine t_ret ?_ | refine p_then_ret ?_ | refine p_block_ret ?_ | refine t_block ?_ | refine t_exit ?_ | refine p_then_exit ?_ | refine p_block_exit ?_ | refine p_block ?_ | refine t_skip ?_)
  refine t_weak [(2, .ex (pt w.heap.size 0)), (3, .ex (pt w1.heap.size 0))] (by repeat (first | exact trivial | refine ⟨rfl, ?_⟩)) ?_
  refine t_drawO 16 (by kernel_rfl) rfl ?_
  refine fk_val Only.refl' (fun wF hR => v_load rfl (S.pure hR).ld) ?_
  refine fk_val (Only.refl _) (fun wF hR => v_fieldAddr rfl (fo rfl)) ?_
  refine fk_val (Only.refl _) (fun wF hR => v_load1 rfl (sc rfl) (by first | exact (S.pure hR).c.cell _ rfl | assumption)) ?_
  refine fk_op st_s (fun wF hR => o_call rfl (en rfl) (S.pure hR).k27) ?_
  refine fk_val Only.refl' (fun wF hR => v_load rfl (S.pure hR).ld) ?_
  refine fk_val (Only.refl _) (fun wF hR => v_fieldAddr rfl (fo rfl)) ?_
  refine fk_val (Only.refl _) (fun wF hR => v_load1 rfl (sc rfl) (by first | exact (S.pure hR).c.cell _ rfl | assumption)) ?_
  refine fk_val (Only.refl _) (fun wF hR => v_fieldAddr rfl (fo rfl)) ?_
  refine fk_val (Only.refl _) (fun wF hR => v_load1 rfl (sc rfl) (by first | exact (S.pure hR).c.cell _ rfl | assumption)) ?_
  refine fk_op st_s (fun wF hR => o_call rfl (en rfl) (S.pure hR).k28) ?_
  refine fk_val Only.refl' (fun wF hR => v_load rfl (S.pure hR).ld) ?_
  refine fk_val (Only.refl _) (fun wF hR => v_fieldAddr rfl (fo rfl)) ?_
  refine fk_val (Only.refl _) (fun wF hR => v_load1 rfl (sc rfl) (by first | exact (S.pure hR).c.cell _ rfl | assumption)) ?_
  refine fk_val (Only.refl _) (fun wF hR => v_fieldAddr rfl (fo rfl)) ?_
  refine fk_val (Only.refl _) (fun wF hR => v_load1 rfl (sc rfl) (by first | exact (S.pure hR).c.cell _ rfl | assumption)) ?_
  refine fk_op st_s (fun wF hR => o_call rfl (en rfl) (S.pure hR).k29) ?_
  refine fk_nil (fun wA hwA => ?_)
  refine x_open 21 rfl (fun u hu => ?_)
  obtain ⟨A5, k5, rfl, hk5, hr5⟩ := hu
  refine x_open 27 rfl (fun u hu => ?_)
  obtain ⟨A6, k6, rfl, hk6, hr6⟩ := hu
  refine x_open 33 rfl (fun u hu => ?_)
  obtain ⟨A7, m7, rfl, hm7, hr7⟩ := hu
  replace S := (((S.pure hwA).add (p := ⟨A7, m7, master (hkOf k s b) q.psk.l q.shared.l⟩) hr7).add (p := ⟨A6, k6, handshake (hkOf k s b) q.psk.l q.shared.l⟩) hr6).add (p := ⟨A5, k5, early (hkOf k s b) q.psk.l⟩) hr5
  refine x_weak [(21, .ex (.slice A5 (early (hkOf k s b) q.psk.l).length k5)), (27, .ex (.slice A6 (handshake (hkOf k s b) q.psk.l q.shared.l).length k6)), (33, .ex (.slice A7 (master (hkOf k s b) q.psk.l q.shared.l).length m7)), (2, .ex (pt w.heap.size 0)), (3, .ex (pt w1.heap.size 0))] (by repeat (first | exact trivial | refine ⟨rfl, ?_⟩)) ?_
  refine s_val (v_assign rfl) rfl ?_
  refine s_val (v_assign rfl) rfl ?_
  refine s_val (v_assign rfl) rfl ?_
  repeat (first | refine t_seq ?_ | refine t_region ?_ | refine s_nil ?_ | refine p_then ?_ | refine t_ret ?_ | refine p_then_ret ?_ | refine p_block_ret ?_ | refine t_block ?_ | refine t_exit ?_ | refine p_then_exit ?_ | refine p_block_exit ?_ | refine p_block ?_ | refine t_skip ?_)
  refine s_val (v_load rfl S.ldc) rfl ?_
  refine s_op (f13 (q := q) rfl S.at_ hx.ok (by decide)) rfl rfl ?_
  rintro _ w3 hw3 ⟨A8, k8, rfl, hk8, hr8⟩
  refine s_val (v_assign rfl) rfl ?_
  replace S := (S.pure hw3).add (p := ⟨A8, k8, q.up 2⟩) hr8
  repeat (first | refine t_seq ?_ | refine t_region ?_ | refine s_nil ?_ | refine p_then ?_ | refine t_ret ?_ | refine p_then_ret ?_ | refine p_block_ret ?_ | refine t_block ?_ | refine t_exit ?_ | refine p_then_exit ?_ | refine p_block_exit ?_ | refine p_block ?_ | refine t_skip ?_)
  refine s_val (v_load rfl S.ld) rfl ?_
  refine s_val (v_move rfl) rfl ?_
  refine s_val (v_move rfl) rfl ?_
  refine s_op (o_call rfl (en rfl) (S.k30 [99, 32, 101, 32, 116, 114, 97, 102, 102, 105, 99] (by decide) (S.ks ⟨A5, k5, early (hkOf k s b) q.psk.l⟩ (by simp)) el (S.ks ⟨A8, k8, q.up 2⟩ (by simp)) (up_le S 2))) rfl rfl ?_
  rintro _ w4 hw4 ⟨A9, k9, rfl, hk9, hr9⟩
  refine s_val (v_assign rfl) rfl ?_
  replace S := (S.pure hw4).add (p := ⟨A9, k9, cetOf (hkOf k s b) q⟩) hr9
  have SA := S
  clear S
  repeat (first | refine t_seq ?_ | refine t_region ?_ | refine s_nil ?_ | refine p_then ?_ | refine t_ret ?_ | refine p_then_ret ?_ | refine p_block_ret ?_ | refine t_block ?_ | refine t_exit ?_ | refine p_then_exit ?_ | refine p_block_exit ?_ | refine p_block ?_ | refine t_skip ?_)
  refine x_weak [(9, .ex (.slice A9 (cetOf (hkOf k s b) q).length k9)), (2, .ex (pt w.heap.size 0)), (3, .ex (pt w1.heap.size 0)), (7, .ex (.slice A7 (master (hkOf k s b) q.psk.l q.shared.l).length m7)), (5, .ex (.slice A5 (early (hkOf k s b) q.psk.l).length k5)), (6, .ex (.slice A6 (handshake (hkOf k s b) q.psk.l q.shared.l).length k6)), (8, .ex (.slice A8 (q.up 2).length k8))] (by repeat (first | exact trivial | refine ⟨rfl, ?_⟩)) ?_
  refine s_val (v_move rfl) rfl ?_
  refine s_op (o_row (Z := fun g => w4.heap.size ≤ g ∧ g ≠ 0) (ls := [cetOf (hkOf k s b) q]) ⟨Nat.le_refl _, by have := SA.pos; omega⟩ rfl rfl (by show 0 < 1; decide) (by show 1 ≤ 1000; decide) (fun a ha => ⟨⟨A9, k9, ha.val (x := .tmp 40) (by simp [Op.operands]) rfl, hk9, SA.ks ⟨A9, k9, cetOf (hkOf k s b) q⟩ (by simp)⟩, trivial⟩)) rfl rfl ?_
  rintro v w5 hw5 h7
  have S : St k s b q w w.heap.size w1.heap.size w4.heap.size 0 _ _ v w5 := ⟨SA.pure hw5, h7, SA.h.lt, SA.c.lt, SA.z.size, hw5.size, (SA.pure hw5).pos⟩
  clear h7
  refine s_val (v_load rfl S.ld) rfl ?_
  refine s_val (v_move rfl) rfl ?_
  refine s_op (o_call rfl (en rfl) (S.k31 (S.ks ⟨A9, k9, cetOf (hkOf k s b) q⟩ (by simp)) (dl _ _ _ _ _ _))) rfl rfl ?_
  rintro u w6 hw6 hu
  replace S := S.pure hw6
  refine s_op (o_appZ rfl rfl S.row hu (by simp [keysOf]) S.newZ) rfl rfl ?_
  rintro v w7 hw7 h7
  replace S := S.appd hw7 h7
  clear h7 hu SA
  refine s_val (v_assign rfl) rfl ?_
  obtain ⟨b0, hb0⟩ : ∃ n, n = w4.heap.size := ⟨_, rfl⟩
  rw [← hb0] at S
  repeat (first | refine t_seq ?_ | refine t_region ?_ | refine s_nil ?_ | refine p_then ?_ | refine t_ret ?_ | refine p_then_ret ?_ | refine p_block_ret ?_ | refine t_block ?_ | refine t_exit ?_ | refine p_then_exit ?_ | refine p_block_exit ?_ | refine p_block ?_ | refine t_skip ?_)
  refine t_weak [(10, .ex v), (2, .ex (pt w.heap.size 0)), (3, .ex (pt w1.heap.size 0)), (7, .ex (.slice A7 (master (hkOf k s b) q.psk.l q.shared.l).length m7)), (5, .ex (.slice A5 (early (hkOf k s b) q.psk.l).length k5)), (6, .ex (.slice A6 (handshake (hkOf k s b) q.psk.l q.shared.l).length k6)), (8, .ex (.slice A8 (q.up 2).length k8))] (by repeat (first | exact trivial | refine ⟨rfl, ?_⟩)) ?_
  refine t_drawO 12 (by kernel_rfl) rfl ?_
  refine fk_val (Only.refl _) (fun wF hR => v_move rfl) ?_
  refine fk_val Only.refl' (fun wF hR => v_load rfl (S.pure hR).ld) ?_
  refine fk_val Only.refl' (fun wF hR => v_load rfl (S.pure hR).ld) ?_
  refine fk_val (Only.refl _) (fun wF hR => v_move rfl) ?_
  refine fk_val (Only.refl _) (fun wF hR => v_move rfl) ?_
  refine fk_op st_s (fun wF hR => o_call rfl (en rfl) ((S.pure hR).k30 [101, 32, 101, 120, 112, 32, 109, 97, 115, 116, 101, 114] (by decide) ((S.pure hR).ks ⟨A5, k5, early (hkOf k s b) q.psk.l⟩ (by simp)) el ((S.pure hR).ks ⟨A8, k8, q.up 2⟩ (by simp)) (up_le S.toSt0 2))) ?_
  refine fk_val (Only.refl _) (fun wF hR => v_fieldAddr rfl (fo rfl)) ?_
  refine fk_val (Only.refl _) (fun wF hR => v_load1 rfl (sc rfl) (by first | exact (S.pure hR).c.cell _ rfl | assumption)) ?_
  refine fk_val (Only.refl _) (fun wF hR => v_fieldAddr rfl (fo rfl)) ?_
  refine fk_val (Only.refl _) (fun wF hR => v_load1 rfl (sc rfl) (by first | exact (S.pure hR).c.cell _ rfl | assumption)) ?_
  refine fk_op st_s (fun wF hR => o_callM (pre := [.tmp 47]) (post := [.tmp 53, .tmp 55, .const (.int .i64 32)]) rfl rfl rfl (en rfl) (fun A c _ hr => (S.pure hR).k32 hr (dl _ _ _ _ _ _))) ?_
  refine fk_op st_jp (fun wF hR => o_parts (ls := [eexOf (hkOf k s b) q]) rt30 rfl rfl (by show 0 < 1; decide) (by show 1 ≤ 1000; decide) (fun a ha => ⟨ha.get (.tmp 56) (by simp [Op.operands]) _ rfl, trivial⟩)) ?_
  refine fk_nil (fun wA hwA => ?_)
  replace S := S.pure hwA
  refine x_open 57 rfl (fun u hu => ?_)
  refine x_weak [(46, .ex v), (57, .ex u), (2, .ex (pt w.heap.size 0)), (3, .ex (pt w1.heap.size 0)), (7, .ex (.slice A7 (master (hkOf k s b) q.psk.l q.shared.l).length m7)), (5, .ex (.slice A5 (early (hkOf k s b) q.psk.l).length k5)), (6, .ex (.slice A6 (handshake (hkOf k s b) q.psk.l q.shared.l).length k6)), (8, .ex (.slice A8 (q.up 2).length k8))] (by repeat (first | exact trivial | refine ⟨rfl, ?_⟩)) ?_
  refine s_op (o_appZ rfl rfl S.row hu (by simp [keysOf, outs_length] <;> omega) S.newZ) rfl rfl ?_
  rintro v wB hwB hB
  replace S := S.appd hwB hB
  clear hB
  refine s_val (v_assign rfl) rfl ?_
  repeat (first | refine t_seq ?_ | refine t_region ?_ | refine s_nil ?_ | refine p_then ?_ | refine t_ret ?_ | refine p_then_ret ?_ | refine p_block_ret ?_ | refine t_block ?_ | refine t_exit ?_ | refine p_then_exit ?_ | refine p_block_exit ?_ | refine p_block ?_ | refine t_skip ?_)
  refine s_val (v_load rfl S.ld) rfl ?_
  refine s_val (v_move rfl) rfl ?_
  refine s_op (o_call rfl (en rfl) (S.k30 (A' := none) (c' := 0) (m := []) [114, 101, 115, 32, 98, 105, 110, 100, 101, 114] (by decide) (S.ks ⟨A5, k5, early (hkOf k s b) q.psk.l⟩ (by simp)) el (Rd.nil _ _) (by decide))) rfl rfl ?_
  rintro _ w11 hw11 ⟨A11, k11, rfl, hk11, hr11⟩
  refine s_val (v_assign rfl) rfl ?_
  replace S := (S.pure hw11).add (p := ⟨A11, k11, bndOf (hkOf k s b) q⟩) hr11
  repeat (first | refine t_seq ?_ | refine t_region ?_ | refine s_nil ?_ | refine p_then ?_ | refine t_ret ?_ | refine p_then_ret ?_ | refine p_block_ret ?_ | refine t_block ?_ | refine t_exit ?_ | refine p_then_exit ?_ | refine p_block_exit ?_ | refine p_block ?_ | refine t_skip ?_)
  refine t_weak [(10, .ex v), (2, .ex (pt w.heap.size 0)), (3, .ex (pt w1.heap.size 0)), (7, .ex (.slice A7 (master (hkOf k s b) q.psk.l q.shared.l).length m7)), (6, .ex (.slice A6 (handshake (hkOf k s b) q.psk.l q.shared.l).length k6)), (11, .ex (.slice A11 (bndOf (hkOf k s b) q).length k11))] (by repeat (first | exact trivial | refine ⟨rfl, ?_⟩)) ?_
  refine t_drawO 8 (by kernel_rfl) rfl ?_
  refine fk_val (Only.refl _) (fun wF hR => v_move rfl) ?_
  refine fk_val (Only.refl _) (fun wF hR => v_move rfl) ?_
  refine fk_val Only.refl' (fun wF hR => v_load rfl (S.pure hR).ld) ?_
  refine fk_val (Only.refl _) (fun wF hR => v_move rfl) ?_
  refine fk_val Only.refl' (fun wF hR => v_load rfl (S.pure hR).ldc) ?_
  refine fk_op st_s (fun wF hR => f13 rfl (S.pure hR).at_ hx.ok (by decide)) ?_
  refine fk_op st_s (fun wF hR => o_callM (pre := [.tmp 64, .tmp 65]) (post := []) rfl rfl rfl (en rfl) (fun A c _ hr => (S.pure hR).k33 ((S.pure hR).ks ⟨A11, k11, bndOf (hkOf k s b) q⟩ (by simp)) (dl _ _ _ _ _ _) 1 hr)) ?_
  refine fk_op st_jp (fun wF hR => o_parts (ls := [bndOf (hkOf k s b) q, finishedOf (hkOf k s b) (bndOf (hkOf k s b) q) (q.up 1)]) rt30 rfl rfl (by show 0 < 2; decide) (by show 2 ≤ 1000; decide) (fun a ha => ⟨⟨A11, k11, ha.val (x := .tmp 63) (by simp [Op.operands]) rfl, hk11, ((S.pure hR).ks ⟨A11, k11, bndOf (hkOf k s b) q⟩ (by simp))⟩, ha.get (.tmp 68) (by simp [Op.operands]) _ rfl, trivial⟩)) ?_
  refine fk_nil (fun wA hwA => ?_)
  replace S := S.pure hwA
  refine x_open 69 rfl (fun u hu => ?_)
  refine x_weak [(62, .ex v), (69, .ex u), (2, .ex (pt w.heap.size 0)), (3, .ex (pt w1.heap.size 0)), (7, .ex (.slice A7 (master (hkOf k s b) q.psk.l q.shared.l).length m7)), (6, .ex (.slice A6 (handshake (hkOf k s b) q.psk.l q.shared.l).length k6)), (11, .ex (.slice A11 (bndOf (hkOf k s b) q).length k11))] (by repeat (first | exact trivial | refine ⟨rfl, ?_⟩)) ?_
  refine s_op (o_appZ rfl rfl S.row hu (by simp [keysOf, outs_length] <;> omega) S.newZ) rfl rfl ?_
  rintro v wB hwB hB
  replace S := S.appd hwB hB
  clear hB
  refine s_val (v_assign rfl) rfl ?_
  repeat (first | refine t_seq ?_ | refine t_region ?_ | refine s_nil ?_ | refine p_then ?_ | refine t_ret ?_ | refine p_then_ret ?_ | refine p_block_ret ?_ | refine t_block ?_ | refine t_exit ?_ | refine p_then_exit ?_ | refine p_block_exit ?_ | refine p_block ?_ | refine t_skip ?_)
  refine t_weak [(10, .ex v), (2, .ex (pt w.heap.size 0)), (3, .ex (pt w1.heap.size 0)), (7, .ex (.slice A7 (master (hkOf k s b) q.psk.l q.shared.l).length m7)), (6, .ex (.slice A6 (handshake (hkOf k s b) q.psk.l q.shared.l).length k6))] (by repeat (first | exact trivial | refine ⟨rfl, ?_⟩)) ?_
  refine t_drawO 10 (by kernel_rfl) rfl ?_
  refine fk_val Only.refl' (fun wF hR => v_load rfl (S.pure hR).ld) ?_
  refine fk_val (Only.refl _) (fun wF hR => v_move rfl) ?_
  refine fk_val Only.refl' (fun wF hR => v_load rfl (S.pure hR).ldc) ?_
  refine fk_op st_s (fun wF hR => f13 rfl (S.pure hR).at_ hx.ok (by decide)) ?_
  refine fk_op st_s (fun wF hR => o_callM (pre := [.tmp 71, .tmp 72, .const (.string { data := #[99, 32, 104, 115, 32, 116, 114, 97, 102, 102, 105, 99] })]) (post := []) rfl rfl rfl (en rfl) (fun A c _ hr => (S.pure hR).k30 [99, 32, 104, 115, 32, 116, 114, 97, 102, 102, 105, 99] (by decide) ((S.pure hR).ks ⟨A6, k6, handshake (hkOf k s b) q.psk.l q.shared.l⟩ (by simp)) sl hr (up_le S.toSt0 3))) ?_
  refine fk_val Only.refl' (fun wF hR => v_load rfl (S.pure hR).ld) ?_
  refine fk_val (Only.refl _) (fun wF hR => v_move rfl) ?_
  refine fk_val Only.refl' (fun wF hR => v_load rfl (S.pure hR).ldc) ?_
  refine fk_op st_s (fun wF hR => f13 rfl (S.pure hR).at_ hx.ok (by decide)) ?_
  refine fk_op st_s (fun wF hR => o_callM (pre := [.tmp 76, .tmp 77, .const (.string { data := #[115, 32, 104, 115, 32, 116, 114, 97, 102, 102, 105, 99] })]) (post := []) rfl rfl rfl (en rfl) (fun A c _ hr => (S.pure hR).k30 [115, 32, 104, 115, 32, 116, 114, 97, 102, 102, 105, 99] (by decide) ((S.pure hR).ks ⟨A6, k6, handshake (hkOf k s b) q.psk.l q.shared.l⟩ (by simp)) sl hr (up_le S.toSt0 3))) ?_
  refine fk_nil (fun wA hwA => ?_)
  refine x_open 75 rfl (fun u hu => ?_)
  obtain ⟨A12, k12, rfl, hk12, hr12⟩ := hu
  refine x_open 80 rfl (fun u hu => ?_)
  obtain ⟨A13, k13, rfl, hk13, hr13⟩ := hu
  replace S := ((S.pure hwA).add (p := ⟨A12, k12, chsOf (hkOf k s b) q⟩) hr12).add (p := ⟨A13, k13, shsOf (hkOf k s b) q⟩) hr13
  refine x_weak [(75, .ex (.slice A12 (chsOf (hkOf k s b) q).length k12)), (80, .ex (.slice A13 (shsOf (hkOf k s b) q).length k13)), (2, .ex (pt w.heap.size 0)), (3, .ex (pt w1.heap.size 0)), (7, .ex (.slice A7 (master (hkOf k s b) q.psk.l q.shared.l).length m7)), (10, .ex v)] (by repeat (first | exact trivial | refine ⟨rfl, ?_⟩)) ?_
  refine s_val (v_assign rfl) rfl ?_
  refine s_val (v_assign rfl) rfl ?_
  repeat (first | refine t_seq ?_ | refine t_region ?_ | refine s_nil ?_ | refine p_then ?_ | refine t_ret ?_ | refine p_then_ret ?_ | refine p_block_ret ?_ | refine t_block ?_ | refine t_exit ?_ | refine p_then_exit ?_ | refine p_block_exit ?_ | refine p_block ?_ | refine t_skip ?_)
  refine t_weak [(2, .ex (pt w.heap.size 0)), (3, .ex (pt w1.heap.size 0)), (7, .ex (.slice A7 (master (hkOf k s b) q.psk.l q.shared.l).length m7)), (12, .ex (.slice A12 (chsOf (hkOf k s b) q).length k12)), (13, .ex (.slice A13 (shsOf (hkOf k s b) q).length k13)), (10, .ex v)] (by repeat (first | exact trivial | refine ⟨rfl, ?_⟩)) ?_
  obtain ⟨g7, k7, ps7, rfl, hZ7, hR7, hL7, hD7⟩ := S.row
  have hg7 := hR7.blk.lt
  have hn7 : ps7.length + 1 ≤ 100000 := by have := congrArg List.length hL7; simp [keysOf] at this; omega
  have hh7 := S.l1
  have hZ7' := hZ7.1
  refine t_drawK 6 (RX g7 (cellsOf ps7 k7) (X1of ps7 ⟨A12, k12, chsOf (hkOf k s b) q⟩ k7)) hmix (by kernel_rfl) RX.refl (fun _ _ _ => RX.trans) RX.drew rfl ?_
  refine fk_val RX.refl (fun wF hR => v_move rfl) ?_
  refine fk_val RX.refl (fun wF hR => v_move rfl) ?_
  refine fk_op (st_one hg7) (fun wF hR => opAt_mono (o_one (p := ⟨A12, k12, chsOf (hkOf k s b) q⟩) hR.1.size rfl) (fun _ h => RX.pure h) (fun _ _ _ h => h)) ?_
  refine fk_op (st_mid hg7) (fun wF hR => o_mid rfl rfl hR7 (Nat.le_refl _) hR hn7) ?_
  refine fk_val RX.refl (fun wF hR => v_load rfl (ld23 (S.h.only hR.1 (by simp; omega)))) ?_
  refine fk_val RX.refl (fun wF hR => v_move rfl) ?_
  refine fk_nil (fun wA hwA _ => ?_)
  refine x_open 84 rfl (fun v hu => ?_)
  skip
  replace S := S.mid (p := ⟨A12, k12, chsOf (hkOf k s b) q⟩) hR7 hL7 hD7 (by simp) hwA hu hZ7
  clear hu hR7 hD7 hn7 hZ7 hh7 hZ7' hg7 hL7
  refine x_weak [(84, .ex v), (85, .ex (hv k s b)), (86, .ex (⟨A12, k12, chsOf (hkOf k s b) q⟩ : Pt).val), (2, .ex (pt w.heap.size 0)), (3, .ex (pt w1.heap.size 0)), (7, .ex (.slice A7 (master (hkOf k s b) q.psk.l q.shared.l).length m7)), (12, .ex (.slice A12 (chsOf (hkOf k s b) q).length k12)), (13, .ex (.slice A13 (shsOf (hkOf k s b) q).length k13))] (by repeat (first | exact trivial | refine ⟨rfl, ?_⟩)) ?_
  refine s_op (o_call rfl (en rfl) (S.k31 (S.ks ⟨A12, k12, chsOf (hkOf k s b) q⟩ (by simp)) (dl _ _ _ _ _ _))) rfl rfl ?_
  rintro u wB hwB hu
  replace S := S.pure hwB
  skip
  refine s_op (o_appZ rfl rfl S.row hu (by simp [keysOf] <;> omega) S.newZ) rfl rfl ?_
  rintro v wC hwC hC
  skip
  replace S := S.appd hwC hC
  clear hC
  refine s_val (v_assign rfl) rfl ?_
  repeat (first | refine t_seq ?_ | refine t_region ?_ | refine s_nil ?_ | refine p_then ?_ | refine t_ret ?_ | refine p_then_ret ?_ | refine p_block_ret ?_ | refine t_block ?_ | refine t_exit ?_ | refine p_then_exit ?_ | refine p_block_exit ?_ | refine p_block ?_ | refine t_skip ?_)
  refine t_weak [(2, .ex (pt w.heap.size 0)), (3, .ex (pt w1.heap.size 0)), (7, .ex (.slice A7 (master (hkOf k s b) q.psk.l q.shared.l).length m7)), (12, .ex (.slice A12 (chsOf (hkOf k s b) q).length k12)), (13, .ex (.slice A13 (shsOf (hkOf k s b) q).length k13)), (10, .ex v)] (by repeat (first | exact trivial | refine ⟨rfl, ?_⟩)) ?_
  obtain ⟨g7, k7, ps7, rfl, hZ7, hR7, hL7, hD7⟩ := S.row
  have hg7 := hR7.blk.lt
  have hn7 : ps7.length + 1 ≤ 100000 := by have := congrArg List.length hL7; simp [keysOf] at this; omega
  have hh7 := S.l1
  have hZ7' := hZ7.1
  refine t_drawK 6 (RX g7 (cellsOf ps7 k7) (X1of ps7 ⟨A13, k13, shsOf (hkOf k s b) q⟩ k7)) hmix (by kernel_rfl) RX.refl (fun _ _ _ => RX.trans) RX.drew rfl ?_
  refine fk_val RX.refl (fun wF hR => v_move rfl) ?_
  refine fk_val RX.refl (fun wF hR => v_move rfl) ?_
  refine fk_op (st_one hg7) (fun wF hR => opAt_mono (o_one (p := ⟨A13, k13, shsOf (hkOf k s b) q⟩) hR.1.size rfl) (fun _ h => RX.pure h) (fun _ _ _ h => h)) ?_
  refine fk_op (st_mid hg7) (fun wF hR => o_mid rfl rfl hR7 (Nat.le_refl _) hR hn7) ?_
  refine fk_val RX.refl (fun wF hR => v_load rfl (ld23 (S.h.only hR.1 (by simp; omega)))) ?_
  refine fk_val RX.refl (fun wF hR => v_move rfl) ?_
  refine fk_nil (fun wA hwA _ => ?_)
  refine x_open 92 rfl (fun v hu => ?_)
  skip
  replace S := S.mid (p := ⟨A13, k13, shsOf (hkOf k s b) q⟩) hR7 hL7 hD7 (by simp) hwA hu hZ7
  clear hu hR7 hD7 hn7 hZ7 hh7 hZ7' hg7 hL7
  refine x_weak [(92, .ex v), (93, .ex (hv k s b)), (94, .ex (⟨A13, k13, shsOf (hkOf k s b) q⟩ : Pt).val), (2, .ex (pt w.heap.size 0)), (3, .ex (pt w1.heap.size 0)), (7, .ex (.slice A7 (master (hkOf k s b) q.psk.l q.shared.l).length m7)), (12, .ex (.slice A12 (chsOf (hkOf k s b) q).length k12)), (13, .ex (.slice A13 (shsOf (hkOf k s b) q).length k13))] (by repeat (first | exact trivial | refine ⟨rfl, ?_⟩)) ?_
  refine s_op (o_call rfl (en rfl) (S.k31 (S.ks ⟨A13, k13, shsOf (hkOf k s b) q⟩ (by simp)) (dl _ _ _ _ _ _))) rfl rfl ?_
  rintro u wB hwB hu
  replace S := S.pure hwB
  skip
  refine s_op (o_appZ rfl rfl S.row hu (by simp [keysOf] <;> omega) S.newZ) rfl rfl ?_
  rintro v wC hwC hC
  skip
  replace S := S.appd hwC hC
  clear hC
  refine s_val (v_assign rfl) rfl ?_
  repeat (first | refine t_seq ?_ | refine t_region ?_ | refine s_nil ?_ | refine p_then ?_ | refine t_ret ?_ | refine p_then_ret ?_ | refine p_block_ret ?_ | refine t_block ?_ | refine t_exit ?_ | refine p_then_exit ?_ | refine p_block_exit ?_ | refine p_block ?_ | refine t_skip ?_)
  refine t_weak [(10, .ex v), (2, .ex (pt w.heap.size 0)), (3, .ex (pt w1.heap.size 0)), (7, .ex (.slice A7 (master (hkOf k s b) q.psk.l q.shared.l).length m7)), (12, .ex (.slice A12 (chsOf (hkOf k s b) q).length k12)), (13, .ex (.slice A13 (shsOf (hkOf k s b) q).length k13))] (by repeat (first | exact trivial | refine ⟨rfl, ?_⟩)) ?_
  refine t_drawO 12 (by kernel_rfl) rfl ?_
  refine fk_val (Only.refl _) (fun wF hR => v_move rfl) ?_
  refine fk_val Only.refl' (fun wF hR => v_load rfl (S.pure hR).ld) ?_
  refine fk_val (Only.refl _) (fun wF hR => v_move rfl) ?_
  refine fk_val Only.refl' (fun wF hR => v_load rfl (S.pure hR).ldc) ?_
  refine fk_op st_s (fun wF hR => f13 rfl (S.pure hR).at_ hx.ok (by decide)) ?_
  refine fk_op st_s (fun wF hR => o_callM (pre := [.tmp 98, .tmp 99]) (post := []) rfl rfl rfl (en rfl) (fun A c _ hr => (S.pure hR).k33 ((S.pure hR).ks ⟨A13, k13, shsOf (hkOf k s b) q⟩ (by simp)) (dl _ _ _ _ _ _) 4 hr)) ?_
  refine fk_val Only.refl' (fun wF hR => v_load rfl (S.pure hR).ld) ?_
  refine fk_val (Only.refl _) (fun wF hR => v_move rfl) ?_
  refine fk_val Only.refl' (fun wF hR => v_load rfl (S.pure hR).ldc) ?_
  refine fk_op st_s (fun wF hR => f13 rfl (S.pure hR).at_ hx.ok (by decide)) ?_
  refine fk_op st_s (fun wF hR => o_callM (pre := [.tmp 103, .tmp 104]) (post := []) rfl rfl rfl (en rfl) (fun A c _ hr => (S.pure hR).k33 ((S.pure hR).ks ⟨A12, k12, chsOf (hkOf k s b) q⟩ (by simp)) (dl _ _ _ _ _ _) 6 hr)) ?_
  refine fk_op st_jp (fun wF hR => o_parts (ls := [finishedOf (hkOf k s b) (shsOf (hkOf k s b) q) (q.up 4), finishedOf (hkOf k s b) (chsOf (hkOf k s b) q) (q.up 6)]) rt30 rfl rfl (by show 0 < 2; decide) (by show 2 ≤ 1000; decide) (fun a ha => ⟨ha.get (.tmp 102) (by simp [Op.operands]) _ rfl, ha.get (.tmp 107) (by simp [Op.operands]) _ rfl, trivial⟩)) ?_
  refine fk_nil (fun wA hwA => ?_)
  replace S := S.pure hwA
  refine x_open 108 rfl (fun u hu => ?_)
  refine x_weak [(97, .ex v), (108, .ex u), (2, .ex (pt w.heap.size 0)), (3, .ex (pt w1.heap.size 0)), (7, .ex (.slice A7 (master (hkOf k s b) q.psk.l q.shared.l).length m7)), (12, .ex (.slice A12 (chsOf (hkOf k s b) q).length k12)), (13, .ex (.slice A13 (shsOf (hkOf k s b) q).length k13))] (by repeat (first | exact trivial | refine ⟨rfl, ?_⟩)) ?_
  refine s_op (o_appZ rfl rfl S.row hu (by simp [keysOf, outs_length] <;> omega) S.newZ) rfl rfl ?_
  rintro v wB hwB hB
  replace S := S.appd hwB hB
  clear hB
  refine s_val (v_assign rfl) rfl ?_
  replace S := S.sub (ks' := [⟨A7, m7, master (hkOf k s b) q.psk.l q.shared.l⟩]) (by simp)
  refine s_nil (p_then ?_)
  have S0 : St k s b q w w.heap.size w1.heap.size b0 0 [⟨A7, m7, master (hkOf k s b) q.psk.l q.shared.l⟩] (outs (hkOf k s b) q 0) v _ := S
  clear S
  refine t_cut (fun v : Value => [(2, .ex (pt w.heap.size 0)), (3, .ex (pt w1.heap.size 0)), (7, .ex (.slice A7 (master (hkOf k s b) q.psk.l q.shared.l).length m7)), (10, .ex v)]) (fun v w' => ∃ gx, St k s b q w w.heap.size w1.heap.size b0 gx [⟨A7, m7, master (hkOf k s b) q.psk.l q.shared.l⟩] (outs (hkOf k s b) q 2) v w') ?_ ?_
  · repeat (first | refine t_seq ?_ | refine t_region ?_ | refine s_nil ?_ | refine p_then ?_ | refine t_ret ?_ | refine p_then_ret ?_ | refine p_block_ret ?_ | refine t_block ?_ | refine t_exit ?_ | refine p_then_exit ?_ | refine p_block_exit ?_ | refine p_block ?_ | refine t_skip ?_)
    refine x_weak [(2, .ex (pt w.heap.size 0)), (3, .ex (pt w1.heap.size 0)), (7, .ex (.slice A7 (master (hkOf k s b) q.psk.l q.shared.l).length m7)), (10, .ex v)] (by repeat (first | exact trivial | refine ⟨rfl, ?_⟩)) ?_
    have hlt := S0.row
    refine s_op (o_buildSlice (vs := [Go.Proofs.YtnaefgnjdmmmcaaGreatDoor.S [99, 32, 97, 112, 32, 116, 114, 97, 102, 102, 105, 99], Go.Proofs.YtnaefgnjdmmmcaaGreatDoor.S [115, 32, 97, 112, 32, 116, 114, 97, 102, 102, 105, 99]]) rt46 rfl rfl rfl (by show 0 < 2; decide) (by show 2 ≤ 16777216; decide) (by simp [Value.cells])) rfl rfl ?_
    rintro _ wA hwA ⟨rfl, hX⟩
    refine s_val (v_len rfl (so rfl) rfl) rfl ?_
    refine s_val (v_move rfl) rfl ?_
    obtain ⟨gx, hgx⟩ : ∃ n, n = wB.heap.size := ⟨_, rfl⟩
    rw [← hgx] at hX ⊢
    have S1 : St k s b q w w.heap.size w1.heap.size b0 gx [⟨A7, m7, master (hkOf k s b) q.psk.l q.shared.l⟩] (outs (hkOf k s b) q 0) v wA := ⟨(S0.pure hwA).toSt0, (S0.row.mono (Z' := fun g => b0 ≤ g ∧ g ≠ gx) (fun g hg hlt => ⟨hg.1, by omega⟩)).pure hwA, S0.l1, S0.l2, S0.l0, (S0.pure hwA).bs, hX.lt⟩
    repeat (first | refine t_seq ?_ | refine t_region ?_ | refine s_nil ?_ | refine p_then ?_ | refine t_ret ?_ | refine p_then_ret ?_ | refine p_block_ret ?_ | refine t_block ?_ | refine t_exit ?_ | refine p_then_exit ?_ | refine p_block_exit ?_ | refine p_block ?_ | refine t_skip ?_)
    refine t_loop (fun o : OSt => [(112, .ex (I o.j)), (111, .ex (I 2)), (110, .ex (.slice (some ⟨gx, 0, none⟩) 2 2)), (2, .ex (pt w.heap.size 0)), (3, .ex (pt w1.heap.size 0)), (7, .ex (.slice A7 (master (hkOf k s b) q.psk.l q.shared.l).length m7)), (10, .ex o.v)]) (fun o w' => o.j ≤ 2 ∧ St k s b q w w.heap.size w1.heap.size b0 gx [⟨A7, m7, master (hkOf k s b) q.psk.l q.shared.l⟩] (outs (hkOf k s b) q o.j) o.v w' ∧ Blk w' gx 9 #[Go.Proofs.YtnaefgnjdmmmcaaGreatDoor.S [99, 32, 97, 112, 32, 116, 114, 97, 102, 102, 105, 99], Go.Proofs.YtnaefgnjdmmmcaaGreatDoor.S [115, 32, 97, 112, 32, 116, 114, 97, 102, 102, 105, 99]]) (fun o => 2 - o.j) ⟨0, v⟩ (by repeat (first | exact trivial | refine ⟨rfl, ?_⟩)) ⟨Nat.zero_le _, S1, hX⟩ ?_
    clear S1 S0 hlt hX
    rintro ⟨j, v⟩ wL ⟨hj, S, hX⟩
    simp only at hj S
    refine t_weak [(112, .ex (I j)), (111, .ex (I 2)), (110, .ex (.slice (some ⟨gx, 0, none⟩) 2 2)), (2, .ex (pt w.heap.size 0)), (3, .ex (pt w1.heap.size 0)), (7, .ex (.slice A7 (master (hkOf k s b) q.psk.l q.shared.l).length m7)), (10, .ex v)] (by repeat (first | exact trivial | refine ⟨rfl, ?_⟩)) ?_
    repeat (first | refine t_seq ?_ | refine t_region ?_ | refine s_nil ?_ | refine p_then ?_ | refine t_ret ?_ | refine p_then_ret ?_ | refine p_block_ret ?_ | refine t_block ?_ | refine t_exit ?_ | refine p_then_exit ?_ | refine p_block_exit ?_ | refine p_block ?_ | refine t_skip ?_)
    refine s_val (v_ltI rfl rfl) rfl ?_
    repeat (first | refine t_seq ?_ | refine t_region ?_ | refine s_nil ?_ | refine p_then ?_ | refine t_ret ?_ | refine p_then_ret ?_ | refine p_block_ret ?_ | refine t_block ?_ | refine t_exit ?_ | refine p_then_exit ?_ | refine p_block_exit ?_ | refine p_block ?_ | refine t_skip ?_)
    refine t_if rfl (fun hb => ?_) (fun hb => ?_)
    · have hj' : j < 2 := by have := of_decide_eq_true hb; omega
      clear hb
      obtain ⟨l, hp, hl, hpo⟩ : ∃ l : Bytes, (#[Go.Proofs.YtnaefgnjdmmmcaaGreatDoor.S [99, 32, 97, 112, 32, 116, 114, 97, 102, 102, 105, 99], Go.Proofs.YtnaefgnjdmmmcaaGreatDoor.S [115, 32, 97, 112, 32, 116, 114, 97, 102, 102, 105, 99]] : Array Value)[0 + j]? = some (Go.Proofs.YtnaefgnjdmmmcaaGreatDoor.S l) ∧ l.length ≤ 249 ∧ outs (hkOf k s b) q j ++ upds (hkOf k s b) (U + 1) (derive (hkOf k s b) (master (hkOf k s b) q.psk.l q.shared.l) l (q.up 5)) = outs (hkOf k s b) q (j + 1) := by
        rcases (by omega : j = 0 ∨ j = 1) with rfl | rfl
        · exact ⟨[99, 32, 97, 112, 32, 116, 114, 97, 102, 102, 105, 99], rfl, by decide, by rw [← hUn]; rfl⟩
        · exact ⟨[115, 32, 97, 112, 32, 116, 114, 97, 102, 102, 105, 99], rfl, by decide, by rw [← hUn]; rfl⟩
      refine t_skip (p_then ?_)
      refine t_cut (fun v : Value => [(112, .ex (I j)), (111, .ex (I 2)), (110, .ex (.slice (some ⟨gx, 0, none⟩) 2 2)), (2, .ex (pt w.heap.size 0)), (3, .ex (pt w1.heap.size 0)), (7, .ex (.slice A7 (master (hkOf k s b) q.psk.l q.shared.l).length m7)), (10, .ex v)]) (fun v w' => St k s b q w w.heap.size w1.heap.size b0 gx [⟨A7, m7, master (hkOf k s b) q.psk.l q.shared.l⟩] (outs (hkOf k s b) q (j + 1)) v w' ∧ Blk w' gx 9 #[Go.Proofs.YtnaefgnjdmmmcaaGreatDoor.S [99, 32, 97, 112, 32, 116, 114, 97, 102, 102, 105, 99], Go.Proofs.YtnaefgnjdmmmcaaGreatDoor.S [115, 32, 97, 112, 32, 116, 114, 97, 102, 102, 105, 99]]) ?_ ?_
      · repeat (first | refine t_seq ?_ | refine t_region ?_ | refine s_nil ?_ | refine p_then ?_ | refine t_ret ?_ | refine p_then_ret ?_ | refine p_block_ret ?_ | refine t_block ?_ | refine t_exit ?_ | refine p_then_exit ?_ | refine p_block_exit ?_ | refine p_block ?_ | refine t_skip ?_)
        refine s_val (v_indexSlice rfl rfl (so rfl) (by omega)) rfl ?_
        refine s_val (v_load1 rfl (sc rfl) (by first | exact hX.cell _ hp | assumption)) rfl ?_
        refine s_val (v_assign rfl) rfl ?_
        repeat (first | refine t_seq ?_ | refine t_region ?_ | refine s_nil ?_ | refine p_then ?_ | refine t_ret ?_ | refine p_then_ret ?_ | refine p_block_ret ?_ | refine t_block ?_ | refine t_exit ?_ | refine p_then_exit ?_ | refine p_block_exit ?_ | refine p_block ?_ | refine t_skip ?_)
        refine t_weak [(15, .ex (Go.Proofs.YtnaefgnjdmmmcaaGreatDoor.S l)), (112, .ex (I j)), (111, .ex (I 2)), (110, .ex (.slice (some ⟨gx, 0, none⟩) 2 2)), (2, .ex (pt w.heap.size 0)), (3, .ex (pt w1.heap.size 0)), (7, .ex (.slice A7 (master (hkOf k s b) q.psk.l q.shared.l).length m7)), (10, .ex v)] (by repeat (first | exact trivial | refine ⟨rfl, ?_⟩)) ?_
        refine t_drawO 5 (by kernel_rfl) rfl ?_
        refine fk_val Only.refl' (fun wF hR => v_load rfl (S.pure hR).ld) ?_
        refine fk_val (Only.refl _) (fun wF hR => v_move rfl) ?_
        refine fk_val (Only.refl _) (fun wF hR => v_move rfl) ?_
        refine fk_val Only.refl' (fun wF hR => v_load rfl (S.pure hR).ldc) ?_
        refine fk_op st_s (fun wF hR => f13 rfl (S.pure hR).at_ hx.ok (by decide)) ?_
        refine fk_nil (fun wE hwE => ?_)
        refine x_open 120 rfl (fun u hu => ?_)
        obtain ⟨Ah, kh, rfl, hkh, hrh⟩ := hu
        replace S := S.pure hwE
        replace hX := hX.only hwE (by simp)
        refine x_weak [(116, .ex (hv k s b)), (117, .ex (.slice A7 (master (hkOf k s b) q.psk.l q.shared.l).length m7)), (118, .ex (Go.Proofs.YtnaefgnjdmmmcaaGreatDoor.S l)), (120, .ex (.slice Ah (q.up 5).length kh)), (112, .ex (I j)), (111, .ex (I 2)), (110, .ex (.slice (some ⟨gx, 0, none⟩) 2 2)), (2, .ex (pt w.heap.size 0)), (3, .ex (pt w1.heap.size 0)), (7, .ex (.slice A7 (master (hkOf k s b) q.psk.l q.shared.l).length m7)), (10, .ex v)] (by repeat (first | exact trivial | refine ⟨rfl, ?_⟩)) ?_
        refine s_op (o_call rfl (en rfl) (S.k30 l hl (S.ks ⟨A7, m7, master (hkOf k s b) q.psk.l q.shared.l⟩ (by simp)) ml hrh (up_le S.toSt0 5))) rfl rfl ?_
        rintro _ wD hwD ⟨Ap, kp, rfl, hkp, hrp⟩
        refine s_val (v_assign rfl) rfl ?_
        replace S := (S.pure hwD).add (p := ⟨Ap, kp, derive (hkOf k s b) (master (hkOf k s b) q.psk.l q.shared.l) l (q.up 5)⟩) hrp
        replace hX := hX.only hwD (by simp)
        repeat (first | refine t_seq ?_ | refine t_region ?_ | refine s_nil ?_ | refine p_then ?_ | refine t_ret ?_ | refine p_then_ret ?_ | refine p_block_ret ?_ | refine t_block ?_ | refine t_exit ?_ | refine p_then_exit ?_ | refine p_block_exit ?_ | refine p_block ?_ | refine t_skip ?_)
        refine s_val (v_assign rfl) rfl ?_
        repeat (first | refine t_seq ?_ | refine t_region ?_ | refine s_nil ?_ | refine p_then ?_ | refine t_ret ?_ | refine p_then_ret ?_ | refine p_block_ret ?_ | refine t_block ?_ | refine t_exit ?_ | refine p_then_exit ?_ | refine p_block_exit ?_ | refine p_block ?_ | refine t_skip ?_)
        refine t_loop (fun o : ISt => [(17, .ex (I o.i)), (16, .ex o.p.val), (112, .ex (I j)), (111, .ex (I 2)), (110, .ex (.slice (some ⟨gx, 0, none⟩) 2 2)), (2, .ex (pt w.heap.size 0)), (3, .ex (pt w1.heap.size 0)), (7, .ex (.slice A7 (master (hkOf k s b) q.psk.l q.shared.l).length m7)), (10, .ex o.v)]) (fun o w' => o.i ≤ U + 1 ∧ o.p.l.length ≤ 20000 ∧ ∃ ls, ls ++ upds (hkOf k s b) (U + 1 - o.i) o.p.l = outs (hkOf k s b) q (j + 1) ∧ St k s b q w w.heap.size w1.heap.size b0 gx [o.p, ⟨A7, m7, master (hkOf k s b) q.psk.l q.shared.l⟩] ls o.v w' ∧ Blk w' gx 9 #[Go.Proofs.YtnaefgnjdmmmcaaGreatDoor.S [99, 32, 97, 112, 32, 116, 114, 97, 102, 102, 105, 99], Go.Proofs.YtnaefgnjdmmmcaaGreatDoor.S [115, 32, 97, 112, 32, 116, 114, 97, 102, 102, 105, 99]]) (fun o => U + 1 - o.i) ⟨0, v, ⟨Ap, kp, derive (hkOf k s b) (master (hkOf k s b) q.psk.l q.shared.l) l (q.up 5)⟩⟩ (by repeat (first | exact trivial | refine ⟨rfl, ?_⟩)) ⟨Nat.zero_le _, dl _ _ _ _ _ _, _, hpo, S, hX⟩ ?_
        clear S hX hp hpo
        rintro ⟨i, v, p⟩ wI ⟨hi, hpl, ls, hls, S, hX⟩
        simp only at hi hpl hls S
        refine t_weak [(17, .ex (I i)), (16, .ex p.val), (112, .ex (I j)), (111, .ex (I 2)), (110, .ex (.slice (some ⟨gx, 0, none⟩) 2 2)), (2, .ex (pt w.heap.size 0)), (3, .ex (pt w1.heap.size 0)), (7, .ex (.slice A7 (master (hkOf k s b) q.psk.l q.shared.l).length m7)), (10, .ex v)] (by repeat (first | exact trivial | refine ⟨rfl, ?_⟩)) ?_
        repeat (first | refine t_seq ?_ | refine t_region ?_ | refine s_nil ?_ | refine p_then ?_ | refine t_ret ?_ | refine p_then_ret ?_ | refine p_block_ret ?_ | refine t_block ?_ | refine t_exit ?_ | refine p_then_exit ?_ | refine p_block_exit ?_ | refine p_block ?_ | refine t_skip ?_)
        refine s_val (v_move rfl) rfl ?_
        refine s_val (v_fieldAddr rfl (fo rfl)) rfl ?_
        refine s_val (v_load1 rfl (sc rfl) (by first | exact S.c.cell _ rfl | assumption)) rfl ?_
        refine s_val (v_leI rfl rfl) rfl ?_
        repeat (first | refine t_seq ?_ | refine t_region ?_ | refine s_nil ?_ | refine p_then ?_ | refine t_ret ?_ | refine p_then_ret ?_ | refine p_block_ret ?_ | refine t_block ?_ | refine t_exit ?_ | refine p_then_exit ?_ | refine p_block_exit ?_ | refine p_block ?_ | refine t_skip ?_)
        refine t_if rfl (fun hb => ?_) (fun hb => ?_)
        · have hi' : i ≤ U := by have := of_decide_eq_true hb; omega
          clear hb
          have hlen : ls.length ≤ 200 := by
            have h1 := congrArg List.length hls
            have h2 := outs_le (hkOf k s b) q (j + 1)
            rw [List.length_append] at h1
            omega
          rw [show U + 1 - i = (U - i) + 1 from by omega, upds] at hls
          refine t_skip (p_then ?_)
          repeat (first | refine t_seq ?_ | refine t_region ?_ | refine s_nil ?_ | refine p_then ?_ | refine t_ret ?_ | refine p_then_ret ?_ | refine p_block_ret ?_ | refine t_block ?_ | refine t_exit ?_ | refine p_then_exit ?_ | refine p_block_exit ?_ | refine p_block ?_ | refine t_skip ?_)
          refine t_weak [(17, .ex (I i)), (16, .ex p.val), (112, .ex (I j)), (111, .ex (I 2)), (110, .ex (.slice (some ⟨gx, 0, none⟩) 2 2)), (2, .ex (pt w.heap.size 0)), (3, .ex (pt w1.heap.size 0)), (7, .ex (.slice A7 (master (hkOf k s b) q.psk.l q.shared.l).length m7)), (10, .ex v)] (by repeat (first | exact trivial | refine ⟨rfl, ?_⟩)) ?_
          obtain ⟨g7, k7, ps7, rfl, hZ7, hR7, hL7, hD7⟩ := S.row
          have hg7 := hR7.blk.lt
          have hn7 : ps7.length + 1 ≤ 100000 := by have := congrArg List.length hL7; simp [keysOf] at this; omega
          have hh7 := S.l1
          have hZ7' := hZ7.1
          refine t_drawK 6 (RX g7 (cellsOf ps7 k7) (X1of ps7 p k7)) hmix (by kernel_rfl) RX.refl (fun _ _ _ => RX.trans) RX.drew rfl ?_
          refine fk_val RX.refl (fun wF hR => v_move rfl) ?_
          refine fk_val RX.refl (fun wF hR => v_move rfl) ?_
          refine fk_op (st_one hg7) (fun wF hR => opAt_mono (o_one (p := p) hR.1.size rfl) (fun _ h => RX.pure h) (fun _ _ _ h => h)) ?_
          refine fk_op (st_mid hg7) (fun wF hR => o_mid rfl rfl hR7 (Nat.le_refl _) hR hn7) ?_
          refine fk_val RX.refl (fun wF hR => v_load rfl (ld23 (S.h.only hR.1 (by simp; omega)))) ?_
          refine fk_val RX.refl (fun wF hR => v_move rfl) ?_
          refine fk_nil (fun wA hwA _ => ?_)
          refine x_open 131 rfl (fun v hu => ?_)
          replace hX := S.keepX hwA.1 hX
          replace S := S.mid (p := p) hR7 hL7 hD7 (by simp) hwA hu hZ7
          clear hu hR7 hD7 hn7 hZ7 hh7 hZ7' hg7 hL7
          refine x_weak [(131, .ex v), (132, .ex (hv k s b)), (133, .ex (p : Pt).val), (17, .ex (I i)), (16, .ex p.val), (112, .ex (I j)), (111, .ex (I 2)), (110, .ex (.slice (some ⟨gx, 0, none⟩) 2 2)), (2, .ex (pt w.heap.size 0)), (3, .ex (pt w1.heap.size 0)), (7, .ex (.slice A7 (master (hkOf k s b) q.psk.l q.shared.l).length m7))] (by repeat (first | exact trivial | refine ⟨rfl, ?_⟩)) ?_
          refine s_op (o_call rfl (en rfl) (S.k31 (S.ks p (by simp)) hpl)) rfl rfl ?_
          rintro u wB hwB hu
          replace S := S.pure hwB
          replace hX := hX.only hwB (by simp)
          refine s_op (o_appZ rfl rfl S.row hu (by simp [keysOf] <;> omega) S.newZ) rfl rfl ?_
          rintro v wC hwC hC
          replace hX := S.keepX hwC hX
          replace S := S.appd hwC hC
          clear hC
          refine s_val (v_assign rfl) rfl ?_
          repeat (first | refine t_seq ?_ | refine t_region ?_ | refine s_nil ?_ | refine p_then ?_ | refine t_ret ?_ | refine p_then_ret ?_ | refine p_block_ret ?_ | refine t_block ?_ | refine t_exit ?_ | refine p_then_exit ?_ | refine p_block_exit ?_ | refine p_block ?_ | refine t_skip ?_)
          refine t_weak [(17, .ex (I i)), (16, .ex p.val), (112, .ex (I j)), (111, .ex (I 2)), (110, .ex (.slice (some ⟨gx, 0, none⟩) 2 2)), (2, .ex (pt w.heap.size 0)), (3, .ex (pt w1.heap.size 0)), (7, .ex (.slice A7 (master (hkOf k s b) q.psk.l q.shared.l).length m7)), (10, .ex v)] (by repeat (first | exact trivial | refine ⟨rfl, ?_⟩)) ?_
          refine t_drawO 4 (by kernel_rfl) rfl ?_
          refine fk_val Only.refl' (fun wF hR => v_load rfl (S.pure hR).ld) ?_
          refine fk_val (Only.refl _) (fun wF hR => v_move rfl) ?_
          refine fk_val Only.refl' (fun wF hR => v_load rfl (S.pure hR).ld) ?_
          refine fk_ex (fun wF hR => f24 rfl) ?_
          refine fk_nil (fun wE hwE => ?_)
          replace S := S.pure hwE
          replace hX := hX.only hwE (by simp)
          refine s_op (o_call rfl (en rfl) (S.k34 (S.ks p (by simp)) hpl)) rfl rfl ?_
          rintro _ wD hwD ⟨An, cn, rfl, hcn, hrn⟩
          refine s_val (v_assign rfl) rfl ?_
          replace S := ((S.pure hwD).sub (ks' := [⟨A7, m7, master (hkOf k s b) q.psk.l q.shared.l⟩]) (by simp)).add (p := ⟨An, cn, nxOf (hkOf k s b) p.l⟩) hrn
          replace hX := hX.only hwD (by simp)
          repeat (first | refine t_seq ?_ | refine t_region ?_ | refine s_nil ?_ | refine p_then ?_ | refine t_ret ?_ | refine p_then_ret ?_ | refine p_block_ret ?_ | refine t_block ?_ | refine t_exit ?_ | refine p_then_exit ?_ | refine p_block_exit ?_ | refine p_block ?_ | refine t_skip ?_)
          refine s_val (v_move rfl) rfl ?_
          refine s_val (v_addI rfl opc (by omega)) rfl ?_
          refine s_val (v_assign rfl) rfl ?_
          repeat (first | refine t_seq ?_ | refine t_region ?_ | refine s_nil ?_ | refine p_then ?_ | refine t_ret ?_ | refine p_then_ret ?_ | refine p_block_ret ?_ | refine t_block ?_ | refine t_exit ?_ | refine p_then_exit ?_ | refine p_block_exit ?_ | refine p_block ?_ | refine t_skip ?_)
          exact p_round ⟨i + 1, v, ⟨An, cn, nxOf (hkOf k s b) p.l⟩⟩ (by show U + 1 - (i + 1) < U + 1 - i; omega) (by repeat (first | exact trivial | refine ⟨rfl, ?_⟩)) ⟨by show i + 1 ≤ U + 1; omega, nl _ _ _ _, _, by show _ ++ upds (hkOf k s b) (U + 1 - (i + 1)) (nxOf (hkOf k s b) p.l) = _; rw [← hls, Nat.add_sub_add_right]; simp only [List.append_assoc], S, hX⟩
        · have hi' : i = U + 1 := by have := of_decide_eq_false hb; omega
          subst hi'
          rw [Nat.sub_self, upds, List.append_nil] at hls
          subst hls
          repeat (first | refine t_seq ?_ | refine t_region ?_ | refine s_nil ?_ | refine p_then ?_ | refine t_ret ?_ | refine p_then_ret ?_ | refine p_block_ret ?_ | refine t_block ?_ | refine t_exit ?_ | refine p_then_exit ?_ | refine p_block_exit ?_ | refine p_block ?_ | refine t_skip ?_)
          exact p_cut v (by repeat (first | exact trivial | refine ⟨rfl, ?_⟩)) ⟨S.sub (by simp), hX⟩
      · clear S hX
        rintro v wR ⟨S, hX⟩
        repeat (first | refine t_seq ?_ | refine t_region ?_ | refine s_nil ?_ | refine p_then ?_ | refine t_ret ?_ | refine p_then_ret ?_ | refine p_block_ret ?_ | refine t_block ?_ | refine t_exit ?_ | refine p_then_exit ?_ | refine p_block_exit ?_ | refine p_block ?_ | refine t_skip ?_)
        refine s_val (v_addI rfl opc (by omega)) rfl ?_
        refine s_val (v_move rfl) rfl ?_
        repeat (first | refine t_seq ?_ | refine t_region ?_ | refine s_nil ?_ | refine p_then ?_ | refine t_ret ?_ | refine p_then_ret ?_ | refine p_block_ret ?_ | refine t_block ?_ | refine t_exit ?_ | refine p_then_exit ?_ | refine p_block_exit ?_ | refine p_block ?_ | refine t_skip ?_)
        exact p_round ⟨j + 1, v⟩ (by show 2 - (j + 1) < 2 - j; omega) (by repeat (first | exact trivial | refine ⟨rfl, ?_⟩)) ⟨hj', S, hX⟩
    · have hj' : j = 2 := by have := of_decide_eq_false hb; omega
      subst hj'
      repeat (first | refine t_seq ?_ | refine t_region ?_ | refine s_nil ?_ | refine p_then ?_ | refine t_ret ?_ | refine p_then_ret ?_ | refine p_block_ret ?_ | refine t_block ?_ | refine t_exit ?_ | refine p_then_exit ?_ | refine p_block_exit ?_ | refine p_block ?_ | refine t_skip ?_)
      exact p_cut v (by repeat (first | exact trivial | refine ⟨rfl, ?_⟩)) ⟨gx, S⟩
  · clear S0
    rintro v wR ⟨gx, S⟩
    have h25 := outs_length (hkOf k s b) q
    repeat (first | refine t_seq ?_ | refine t_region ?_ | refine s_nil ?_ | refine p_then ?_ | refine t_ret ?_ | refine p_then_ret ?_ | refine p_block_ret ?_ | refine t_block ?_ | refine t_exit ?_ | refine p_then_exit ?_ | refine p_block_exit ?_ | refine p_block ?_ | refine t_skip ?_)
    refine t_weak [(10, .ex v), (2, .ex (pt w.heap.size 0)), (3, .ex (pt w1.heap.size 0)), (7, .ex (.slice A7 (master (hkOf k s b) q.psk.l q.shared.l).length m7))] (by repeat (first | exact trivial | refine ⟨rfl, ?_⟩)) ?_
    refine t_drawO 13 (by kernel_rfl) rfl ?_
    refine fk_val (Only.refl _) (fun wF hR => v_move rfl) ?_
    refine fk_val Only.refl' (fun wF hR => v_load rfl (S.pure hR).ld) ?_
    refine fk_val Only.refl' (fun wF hR => v_load rfl (S.pure hR).ld) ?_
    refine fk_val (Only.refl _) (fun wF hR => v_move rfl) ?_
    refine fk_val Only.refl' (fun wF hR => v_load rfl (S.pure hR).ldc) ?_
    refine fk_op st_s (fun wF hR => f13 rfl (S.pure hR).at_ hx.ok (by decide)) ?_
    refine fk_op st_s (fun wF hR => o_callM (pre := [.tmp 144, .tmp 145, .const (.string { data := #[101, 120, 112, 32, 109, 97, 115, 116, 101, 114] })]) (post := []) rfl rfl rfl (en rfl) (fun A c _ hr => (S.pure hR).k30 [101, 120, 112, 32, 109, 97, 115, 116, 101, 114] (by decide) ((S.pure hR).ks ⟨A7, m7, master (hkOf k s b) q.psk.l q.shared.l⟩ (by simp)) ml hr (up_le S.toSt0 5))) ?_
    refine fk_val (Only.refl _) (fun wF hR => v_fieldAddr rfl (fo rfl)) ?_
    refine fk_val (Only.refl _) (fun wF hR => v_load1 rfl (sc rfl) (by first | exact (S.pure hR).c.cell _ rfl | assumption)) ?_
    refine fk_val (Only.refl _) (fun wF hR => v_fieldAddr rfl (fo rfl)) ?_
    refine fk_val (Only.refl _) (fun wF hR => v_load1 rfl (sc rfl) (by first | exact (S.pure hR).c.cell _ rfl | assumption)) ?_
    refine fk_op st_s (fun wF hR => o_callM (pre := [.tmp 143]) (post := [.tmp 150, .tmp 152, .const (.int .i64 32)]) rfl rfl rfl (en rfl) (fun A c _ hr => (S.pure hR).k32 hr (dl _ _ _ _ _ _))) ?_
    refine fk_op st_jp (fun wF hR => o_parts (ls := [expOf (hkOf k s b) q]) rt30 rfl rfl (by show 0 < 1; decide) (by show 1 ≤ 1000; decide) (fun a ha => ⟨ha.get (.tmp 153) (by simp [Op.operands]) _ rfl, trivial⟩)) ?_
    refine fk_nil (fun wA hwA => ?_)
    replace S := S.pure hwA
    refine x_open 154 rfl (fun u hu => ?_)
    refine x_weak [(142, .ex v), (154, .ex u), (2, .ex (pt w.heap.size 0)), (3, .ex (pt w1.heap.size 0)), (7, .ex (.slice A7 (master (hkOf k s b) q.psk.l q.shared.l).length m7))] (by repeat (first | exact trivial | refine ⟨rfl, ?_⟩)) ?_
    refine s_op (o_appZ rfl rfl S.row hu (by simp [keysOf, outs_length] <;> omega) S.newZ) rfl rfl ?_
    rintro v wB hwB hB
    replace S := S.appd hwB hB
    clear hB
    refine s_val (v_assign rfl) rfl ?_
    repeat (first | refine t_seq ?_ | refine t_region ?_ | refine s_nil ?_ | refine p_then ?_ | refine t_ret ?_ | refine p_then_ret ?_ | refine p_block_ret ?_ | refine t_block ?_ | refine t_exit ?_ | refine p_then_exit ?_ | refine p_block_exit ?_ | refine p_block ?_ | refine t_skip ?_)
    refine t_weak [(10, .ex v), (2, .ex (pt w.heap.size 0)), (3, .ex (pt w1.heap.size 0)), (7, .ex (.slice A7 (master (hkOf k s b) q.psk.l q.shared.l).length m7))] (by repeat (first | exact trivial | refine ⟨rfl, ?_⟩)) ?_
    refine t_drawO 10 (by kernel_rfl) rfl ?_
    refine fk_val (Only.refl _) (fun wF hR => v_move rfl) ?_
    refine fk_val Only.refl' (fun wF hR => v_load rfl (S.pure hR).ld) ?_
    refine fk_val (Only.refl _) (fun wF hR => v_move rfl) ?_
    refine fk_val Only.refl' (fun wF hR => v_load rfl (S.pure hR).ldc) ?_
    refine fk_op st_s (fun wF hR => f13 rfl (S.pure hR).at_ hx.ok (by decide)) ?_
    refine fk_op st_s (fun wF hR => o_callM (pre := [.tmp 157, .tmp 158, .const (.string { data := #[114, 101, 115, 32, 109, 97, 115, 116, 101, 114] })]) (post := []) rfl rfl rfl (en rfl) (fun A c _ hr => (S.pure hR).k30 [114, 101, 115, 32, 109, 97, 115, 116, 101, 114] (by decide) ((S.pure hR).ks ⟨A7, m7, master (hkOf k s b) q.psk.l q.shared.l⟩ (by simp)) ml hr (up_le S.toSt0 7))) ?_
    refine fk_val Only.refl' (fun wF hR => v_load rfl (S.pure hR).ld) ?_
    refine fk_val Only.refl' (fun wF hR => v_load rfl (S.pure hR).ldc) ?_
    refine fk_op st_s (fun wF hR => o_call rfl (en rfl) (S.pure hR).k11) ?_
    refine fk_op st_jp (fun wF hR => o_parts (ls := [resOf (hkOf k s b) q, ticketOf (hkOf k s b) q]) rt30 rfl rfl (by show 0 < 2; decide) (by show 2 ≤ 1000; decide) (fun a ha => ⟨ha.get (.tmp 161) (by simp [Op.operands]) _ rfl, ha.get (.tmp 164) (by simp [Op.operands]) _ rfl, trivial⟩)) ?_
    refine fk_nil (fun wA hwA => ?_)
    replace S := S.pure hwA
    refine x_open 165 rfl (fun u hu => ?_)
    refine x_weak [(156, .ex v), (165, .ex u), (2, .ex (pt w.heap.size 0)), (3, .ex (pt w1.heap.size 0)), (7, .ex (.slice A7 (master (hkOf k s b) q.psk.l q.shared.l).length m7))] (by repeat (first | exact trivial | refine ⟨rfl, ?_⟩)) ?_
    refine s_op (o_appZ rfl rfl S.row hu (by simp [keysOf, outs_length] <;> omega) S.newZ) rfl rfl ?_
    rintro v wB hwB hB
    replace S := S.appd hwB hB
    clear hB
    refine s_val (v_assign rfl) rfl ?_
    repeat (first | refine t_seq ?_ | refine t_region ?_ | refine s_nil ?_ | refine p_then ?_ | refine t_ret ?_ | refine p_then_ret ?_ | refine p_block_ret ?_ | refine t_block ?_ | refine t_exit ?_ | refine p_then_exit ?_ | refine p_block_exit ?_ | refine p_block ?_ | refine t_skip ?_)
    exact ret1 rfl rfl ⟨_, rfl, S.z, S.row.jq⟩
end Go.Proofs.YtnaefgnjdmmmcaaGreatDoor
/- zzFits2, zzFits1: they give some truth value. -/
namespace Go.Proofs.YtnaefgnjdmmmcaaGreatDoor
open Go.RowKit
set_option linter.unusedSimpArgs false
set_option linter.unusedVariables false
theorem sizeIs_map {P : Program} {t : TypeId} {n : Nat} (h : sizeIs P t n = true) : (P.info? t).map (·.size) = some n := by
  unfold sizeIs at h
  cases hinf : P.info? t with
  | none => rw [hinf] at h; cases h
  | some i => rw [hinf] at h; simp at h; simp [h]
theorem ld25 {q : Conn} {w : World} {g : Nat} (hB : Blk w g 27 q.cells) : (loadVar 25 ⟨g, 2, none⟩).run Tryz.prog w = .ok (.agg (q.ms.map Pt.val).toArray) w :=
  run_loadVar_mid w g 2 25 (q.ms.map Pt.val) _ (fun j v hj => by
    rw [List.getElem?_map] at hj
    cases hp : q.ms[j]? with
    | none => rw [hp] at hj; cases hj
    | some p => rw [hp] at hj; cases hj; exact hB.cell _ (by have := q.cell_m j p hp; rwa [Nat.zero_add] at this)) ua25 rfl (sizeIs_map (si rfl))
attribute [local irreducible] ValAt OpAt RunX Tr Post FlowK
set_option maxHeartbeats 1000000 in
/-- zzFits2 -/
theorem c12 (ms : List Pt) (hm : ms.length = 7) (w : World) : Calls Tryz.prog 12 #[.agg (ms.map Pt.val).toArray] w (Ret [] w fun v _ => ∃ b, v = .bool b) := by
  have hsz : sizeIs Tryz.prog 25 (ms.map Pt.val).toArray.size = true := by rw [show (ms.map Pt.val).toArray.size = 7 from by simp [hm]]; exact si rfl
  refine enter (Γ := [(0, .ex (.agg (ms.map Pt.val).toArray))]) Tryz.func12 rfl rfl rfl ⟨⟨_, rfl, rfl⟩, trivial⟩ ?_
  repeat (first | refine t_seq ?_ | refine t_region ?_ | refine s_nil ?_ | refine p_then ?_ | refine t_ret ?_ | refine p_then_ret ?_ | refine p_block_ret ?_ | refine t_block ?_ | refine t_exit ?_ | refine p_then_exit ?_ | refine p_block_exit ?_ | refine p_block ?_ | refine t_skip ?_)
  refine s_op (o_box rfl) rfl rfl ?_
  rintro _ w1 hw1 ⟨rfl, hB1⟩
  refine s_val (v_assign rfl) rfl ?_
  refine s_nil (p_then ?_)
  refine t_cut (fun _ : Unit => []) (fun _ w' => Only [] w w') ?_ ?_
  · repeat (first | refine t_seq ?_ | refine t_region ?_ | refine s_nil ?_ | refine p_then ?_ | refine t_ret ?_ | refine p_then_ret ?_ | refine p_block_ret ?_ | refine t_block ?_ | refine t_exit ?_ | refine p_then_exit ?_ | refine p_block_exit ?_ | refine p_block ?_ | refine t_skip ?_)
    refine s_val (v_load rfl (loadVar_whole ua25 rfl hsz hB1)) rfl ?_
    refine s_val (v_move rfl) rfl ?_
    repeat (first | refine t_seq ?_ | refine t_region ?_ | refine s_nil ?_ | refine p_then ?_ | refine t_ret ?_ | refine p_then_ret ?_ | refine p_block_ret ?_ | refine t_block ?_ | refine t_exit ?_ | refine p_then_exit ?_ | refine p_block_exit ?_ | refine p_block ?_ | refine t_skip ?_)
    refine t_loop (fun i : Nat => [(6, .ex (I i)), (5, .ex (.agg (ms.map Pt.val).toArray))]) (fun i w' => i ≤ 7 ∧ Only [] w w') (fun i => 7 - i) 0 (by repeat (first | exact trivial | refine ⟨rfl, ?_⟩)) ⟨Nat.zero_le _, hw1⟩ ?_
    rintro i w2 ⟨hi, hz2⟩
    repeat (first | refine t_seq ?_ | refine t_region ?_ | refine s_nil ?_ | refine p_then ?_ | refine t_ret ?_ | refine p_then_ret ?_ | refine p_block_ret ?_ | refine t_block ?_ | refine t_exit ?_ | refine p_then_exit ?_ | refine p_block_exit ?_ | refine p_block ?_ | refine t_skip ?_)
    refine s_val (v_ltI rfl rfl) rfl ?_
    repeat (first | refine t_seq ?_ | refine t_region ?_ | refine s_nil ?_ | refine p_then ?_ | refine t_ret ?_ | refine p_then_ret ?_ | refine p_block_ret ?_ | refine t_block ?_ | refine t_exit ?_ | refine p_then_exit ?_ | refine p_block_exit ?_ | refine p_block ?_ | refine t_skip ?_)
    refine t_if rfl (fun hb => ?_) (fun hb => ?_)
    · have hi' : i < 7 := by have := of_decide_eq_true hb; omega
      clear hb
      obtain ⟨p, hp⟩ : ∃ p, ms[i]? = some p := ⟨_, List.getElem?_eq_getElem (by omega)⟩
      have hc : (ms.map Pt.val).toArray[i]? = some p.val := by simp [hp]
      refine t_skip (p_then ?_)
      refine t_cut (fun _ : Unit => [(6, .ex (I i)), (5, .ex (.agg (ms.map Pt.val).toArray))]) (fun _ w' => Only [] w w') ?_ ?_
      · repeat (first | refine t_seq ?_ | refine t_region ?_ | refine s_nil ?_ | refine p_then ?_ | refine t_ret ?_ | refine p_then_ret ?_ | refine p_block_ret ?_ | refine t_block ?_ | refine t_exit ?_ | refine p_then_exit ?_ | refine p_block_exit ?_ | refine p_block ?_ | refine t_skip ?_)
        refine s_val (v_indexAgg rfl rfl ua25 (sc rfl) (si rfl) hi' hc) rfl ?_
        refine s_val (v_assign rfl) rfl ?_
        repeat (first | refine t_seq ?_ | refine t_region ?_ | refine s_nil ?_ | refine p_then ?_ | refine t_ret ?_ | refine p_then_ret ?_ | refine p_block_ret ?_ | refine t_block ?_ | refine t_exit ?_ | refine p_then_exit ?_ | refine p_block_exit ?_ | refine p_block ?_ | refine t_skip ?_)
        refine s_val (v_move rfl) rfl ?_
        refine s_val (v_len (A := p.A) (n := p.l.length) (c := p.c) rfl (so rfl) rfl) rfl ?_
        refine s_val (v_gtI rfl rfl) rfl ?_
        repeat (first | refine t_seq ?_ | refine t_region ?_ | refine s_nil ?_ | refine p_then ?_ | refine t_ret ?_ | refine p_then_ret ?_ | refine p_block_ret ?_ | refine t_block ?_ | refine t_exit ?_ | refine p_then_exit ?_ | refine p_block_exit ?_ | refine p_block ?_ | refine t_skip ?_)
        refine t_if rfl (fun hb => ?_) (fun hb => ?_)
        · repeat (first | refine t_seq ?_ | refine t_region ?_ | refine s_nil ?_ | refine p_then ?_ | refine t_ret ?_ | refine p_then_ret ?_ | refine p_block_ret ?_ | refine t_block ?_ | refine t_exit ?_ | refine p_then_exit ?_ | refine p_block_exit ?_ | refine p_block ?_ | refine t_skip ?_)
          refine s_val (v_assign rfl) rfl ?_
          repeat (first | refine t_seq ?_ | refine t_region ?_ | refine s_nil ?_ | refine p_then ?_ | refine t_ret ?_ | refine p_then_ret ?_ | refine p_block_ret ?_ | refine t_block ?_ | refine t_exit ?_ | refine p_then_exit ?_ | refine p_block_exit ?_ | refine p_block ?_ | refine t_skip ?_)
          exact ret1 rfl rfl ⟨_, rfl, hz2, _, rfl⟩
        · refine t_skip ?_
          repeat (first | refine t_seq ?_ | refine t_region ?_ | refine s_nil ?_ | refine p_then ?_ | refine t_ret ?_ | refine p_then_ret ?_ | refine p_block_ret ?_ | refine t_block ?_ | refine t_exit ?_ | refine p_then_exit ?_ | refine p_block_exit ?_ | refine p_block ?_ | refine t_skip ?_)
          exact p_cut () (by repeat (first | exact trivial | refine ⟨rfl, ?_⟩)) hz2
      · rintro _ w3 hz3
        repeat (first | refine t_seq ?_ | refine t_region ?_ | refine s_nil ?_ | refine p_then ?_ | refine t_ret ?_ | refine p_then_ret ?_ | refine p_block_ret ?_ | refine t_block ?_ | refine t_exit ?_ | refine p_then_exit ?_ | refine p_block_exit ?_ | refine p_block ?_ | refine t_skip ?_)
        refine s_val (v_addI rfl opc (by omega)) rfl ?_
        refine s_val (v_move rfl) rfl ?_
        repeat (first | refine t_seq ?_ | refine t_region ?_ | refine s_nil ?_ | refine p_then ?_ | refine t_ret ?_ | refine p_then_ret ?_ | refine p_block_ret ?_ | refine t_block ?_ | refine t_exit ?_ | refine p_then_exit ?_ | refine p_block_exit ?_ | refine p_block ?_ | refine t_skip ?_)
        exact p_round (i + 1) (by show 7 - (i + 1) < 7 - i; omega) (by repeat (first | exact trivial | refine ⟨rfl, ?_⟩)) ⟨hi', hz3⟩
    · repeat (first | refine t_seq ?_ | refine t_region ?_ | refine s_nil ?_ | refine p_then ?_ | refine t_ret ?_ | refine p_then_ret ?_ | refine p_block_ret ?_ | refine t_block ?_ | refine t_exit ?_ | refine p_then_exit ?_ | refine p_block_exit ?_ | refine p_block ?_ | refine t_skip ?_)
      exact p_cut () trivial hz2
  · rintro _ w2 hz2
    repeat (first | refine t_seq ?_ | refine t_region ?_ | refine s_nil ?_ | refine p_then ?_ | refine t_ret ?_ | refine p_then_ret ?_ | refine p_block_ret ?_ | refine t_block ?_ | refine t_exit ?_ | refine p_then_exit ?_ | refine p_block_exit ?_ | refine p_block ?_ | refine t_skip ?_)
    refine s_val (v_assign rfl) rfl ?_
    repeat (first | refine t_seq ?_ | refine t_region ?_ | refine s_nil ?_ | refine p_then ?_ | refine t_ret ?_ | refine p_then_ret ?_ | refine p_block_ret ?_ | refine t_block ?_ | refine t_exit ?_ | refine p_then_exit ?_ | refine p_block_exit ?_ | refine p_block ?_ | refine t_skip ?_)
    exact ret1 rfl rfl ⟨_, rfl, hz2, _, rfl⟩
set_option maxHeartbeats 1000000 in
/-- zzFits1 -/
theorem c5 (q : Conn) (w : World) : Calls Tryz.prog 5 #[.agg q.cells] w (Ret [] w fun v _ => ∃ b, v = .bool b) := by
  refine enter (Γ := [(0, .ex (.agg q.cells))]) Tryz.func5 rfl rfl rfl ⟨⟨_, rfl, rfl⟩, trivial⟩ ?_
  repeat (first | refine t_seq ?_ | refine t_region ?_ | refine s_nil ?_ | refine p_then ?_ | refine t_ret ?_ | refine p_then_ret ?_ | refine p_block_ret ?_ | refine t_block ?_ | refine t_exit ?_ | refine p_then_exit ?_ | refine p_block_exit ?_ | refine p_block ?_ | refine t_skip ?_)
  refine s_op (o_box rfl) rfl rfl ?_
  rintro _ w1 hw1 ⟨rfl, hB1⟩
  refine s_val (v_assign rfl) rfl ?_
  have hC : Blk w1 w.heap.size 27 q.cells := hB1
  repeat (first | refine t_seq ?_ | refine t_region ?_ | refine s_nil ?_ | refine p_then ?_ | refine t_ret ?_ | refine p_then_ret ?_ | refine p_block_ret ?_ | refine t_block ?_ | refine t_exit ?_ | refine p_then_exit ?_ | refine p_block_exit ?_ | refine p_block ?_ | refine t_skip ?_)
  refine s_val (v_fieldAddr rfl (fo rfl)) rfl ?_
  refine s_val (v_load1 rfl (sc rfl) (by first | exact hB1.cell _ rfl | assumption)) rfl ?_
  refine s_val (v_len rfl (so rfl) rfl) rfl ?_
  refine s_val (v_gtI rfl rfl) rfl ?_
  repeat (first | refine t_seq ?_ | refine t_region ?_ | refine s_nil ?_ | refine p_then ?_ | refine t_ret ?_ | refine p_then_ret ?_ | refine p_block_ret ?_ | refine t_block ?_ | refine t_exit ?_ | refine p_then_exit ?_ | refine p_block_exit ?_ | refine p_block ?_ | refine t_skip ?_)
  refine t_if rfl (fun hb => ?_) (fun hb => ?_)
  · repeat (first | refine t_seq ?_ | refine t_region ?_ | refine s_nil ?_ | refine p_then ?_ | refine t_ret ?_ | refine p_then_ret ?_ | refine p_block_ret ?_ | refine t_block ?_ | refine t_exit ?_ | refine p_then_exit ?_ | refine p_block_exit ?_ | refine p_block ?_ | refine t_skip ?_)
    refine s_val (v_assign rfl) rfl ?_
    repeat (first | refine t_seq ?_ | refine t_region ?_ | refine s_nil ?_ | refine p_then ?_ | refine t_ret ?_ | refine p_then_ret ?_ | refine p_block_ret ?_ | refine t_block ?_ | refine t_exit ?_ | refine p_then_exit ?_ | refine p_block_exit ?_ | refine p_block ?_ | refine t_skip ?_)
    exact ret1 rfl rfl ⟨_, rfl, hw1, _, rfl⟩
  refine t_skip ?_
  clear hb
  repeat (first | refine t_seq ?_ | refine t_region ?_ | refine s_nil ?_ | refine p_then ?_ | refine t_ret ?_ | refine p_then_ret ?_ | refine p_block_ret ?_ | refine t_block ?_ | refine t_exit ?_ | refine p_then_exit ?_ | refine p_block_exit ?_ | refine p_block ?_ | refine t_skip ?_)
  refine s_val (v_fieldAddr rfl (fo rfl)) rfl ?_
  refine s_val (v_load1 rfl (sc rfl) (by first | exact hB1.cell _ rfl | assumption)) rfl ?_
  refine s_val (v_len rfl (so rfl) rfl) rfl ?_
  refine s_val (v_gtI rfl rfl) rfl ?_
  repeat (first | refine t_seq ?_ | refine t_region ?_ | refine s_nil ?_ | refine p_then ?_ | refine t_ret ?_ | refine p_then_ret ?_ | refine p_block_ret ?_ | refine t_block ?_ | refine t_exit ?_ | refine p_then_exit ?_ | refine p_block_exit ?_ | refine p_block ?_ | refine t_skip ?_)
  refine t_if rfl (fun hb => ?_) (fun hb => ?_)
  · repeat (first | refine t_seq ?_ | refine t_region ?_ | refine s_nil ?_ | refine p_then ?_ | refine t_ret ?_ | refine p_then_ret ?_ | refine p_block_ret ?_ | refine t_block ?_ | refine t_exit ?_ | refine p_then_exit ?_ | refine p_block_exit ?_ | refine p_block ?_ | refine t_skip ?_)
    refine s_val (v_assign rfl) rfl ?_
    repeat (first | refine t_seq ?_ | refine t_region ?_ | refine s_nil ?_ | refine p_then ?_ | refine t_ret ?_ | refine p_then_ret ?_ | refine p_block_ret ?_ | refine t_block ?_ | refine t_exit ?_ | refine p_then_exit ?_ | refine p_block_exit ?_ | refine p_block ?_ | refine t_skip ?_)
    exact ret1 rfl rfl ⟨_, rfl, hw1, _, rfl⟩
  refine t_skip ?_
  clear hb
  repeat (first | refine t_seq ?_ | refine t_region ?_ | refine s_nil ?_ | refine p_then ?_ | refine t_ret ?_ | refine p_then_ret ?_ | refine p_block_ret ?_ | refine t_block ?_ | refine t_exit ?_ | refine p_then_exit ?_ | refine p_block_exit ?_ | refine p_block ?_ | refine t_skip ?_)
  refine s_val (v_fieldAddr rfl (fo rfl)) rfl ?_
  refine s_val (v_load rfl (ld25 hC)) rfl ?_
  refine s_op (o_call rfl (en rfl) (c12 q.ms rfl w1)) rfl rfl ?_
  rintro _ w2 hw2 ⟨b, rfl⟩
  refine s_val (v_bool_not rfl) rfl ?_
  have hz2 := hw1.trans hw2
  replace hB1 := hC.only hw2 (by simp)
  repeat (first | refine t_seq ?_ | refine t_region ?_ | refine s_nil ?_ | refine p_then ?_ | refine t_ret ?_ | refine p_then_ret ?_ | refine p_block_ret ?_ | refine t_block ?_ | refine t_exit ?_ | refine p_then_exit ?_ | refine p_block_exit ?_ | refine p_block ?_ | refine t_skip ?_)
  refine t_if rfl (fun hb => ?_) (fun hb => ?_)
  · repeat (first | refine t_seq ?_ | refine t_region ?_ | refine s_nil ?_ | refine p_then ?_ | refine t_ret ?_ | refine p_then_ret ?_ | refine p_block_ret ?_ | refine t_block ?_ | refine t_exit ?_ | refine p_then_exit ?_ | refine p_block_exit ?_ | refine p_block ?_ | refine t_skip ?_)
    refine s_val (v_assign rfl) rfl ?_
    repeat (first | refine t_seq ?_ | refine t_region ?_ | refine s_nil ?_ | refine p_then ?_ | refine t_ret ?_ | refine p_then_ret ?_ | refine p_block_ret ?_ | refine t_block ?_ | refine t_exit ?_ | refine p_then_exit ?_ | refine p_block_exit ?_ | refine p_block ?_ | refine t_skip ?_)
    exact ret1 rfl rfl ⟨_, rfl, hz2, _, rfl⟩
  refine t_skip ?_
  clear hb
  repeat (first | refine t_seq ?_ | refine t_region ?_ | refine s_nil ?_ | refine p_then ?_ | refine t_ret ?_ | refine p_then_ret ?_ | refine p_block_ret ?_ | refine t_block ?_ | refine t_exit ?_ | refine p_then_exit ?_ | refine p_block_exit ?_ | refine p_block ?_ | refine t_skip ?_)
  refine s_val (v_fieldAddr rfl (fo rfl)) rfl ?_
  refine s_val (v_load1 rfl (sc rfl) (by first | exact hB1.cell _ rfl | assumption)) rfl ?_
  refine s_val (v_lenS rfl u9) rfl ?_
  refine s_val (v_gtI rfl rfl) rfl ?_
  repeat (first | refine t_seq ?_ | refine t_region ?_ | refine s_nil ?_ | refine p_then ?_ | refine t_ret ?_ | refine p_then_ret ?_ | refine p_block_ret ?_ | refine t_block ?_ | refine t_exit ?_ | refine p_then_exit ?_ | refine p_block_exit ?_ | refine p_block ?_ | refine t_skip ?_)
  refine t_if rfl (fun hb => ?_) (fun hb => ?_)
  · repeat (first | refine t_seq ?_ | refine t_region ?_ | refine s_nil ?_ | refine p_then ?_ | refine t_ret ?_ | refine p_then_ret ?_ | refine p_block_ret ?_ | refine t_block ?_ | refine t_exit ?_ | refine p_then_exit ?_ | refine p_block_exit ?_ | refine p_block ?_ | refine t_skip ?_)
    refine s_val (v_assign rfl) rfl ?_
    repeat (first | refine t_seq ?_ | refine t_region ?_ | refine s_nil ?_ | refine p_then ?_ | refine t_ret ?_ | refine p_then_ret ?_ | refine p_block_ret ?_ | refine t_block ?_ | refine t_exit ?_ | refine p_then_exit ?_ | refine p_block_exit ?_ | refine p_block ?_ | refine t_skip ?_)
    exact ret1 rfl rfl ⟨_, rfl, hz2, _, rfl⟩
  refine t_skip ?_
  clear hb
  repeat (first | refine t_seq ?_ | refine t_region ?_ | refine s_nil ?_ | refine p_then ?_ | refine t_ret ?_ | refine p_then_ret ?_ | refine p_block_ret ?_ | refine t_block ?_ | refine t_exit ?_ | refine p_then_exit ?_ | refine p_block_exit ?_ | refine p_block ?_ | refine t_skip ?_)
  refine s_val (v_fieldAddr rfl (fo rfl)) rfl ?_
  refine s_val (v_load1 rfl (sc rfl) (by first | exact hB1.cell _ rfl | assumption)) rfl ?_
  refine s_val (v_len rfl (so rfl) rfl) rfl ?_
  refine s_val (v_gtI rfl rfl) rfl ?_
  repeat (first | refine t_seq ?_ | refine t_region ?_ | refine s_nil ?_ | refine p_then ?_ | refine t_ret ?_ | refine p_then_ret ?_ | refine p_block_ret ?_ | refine t_block ?_ | refine t_exit ?_ | refine p_then_exit ?_ | refine p_block_exit ?_ | refine p_block ?_ | refine t_skip ?_)
  refine t_if rfl (fun hb => ?_) (fun hb => ?_)
  · repeat (first | refine t_seq ?_ | refine t_region ?_ | refine s_nil ?_ | refine p_then ?_ | refine t_ret ?_ | refine p_then_ret ?_ | refine p_block_ret ?_ | refine t_block ?_ | refine t_exit ?_ | refine p_then_exit ?_ | refine p_block_exit ?_ | refine p_block ?_ | refine t_skip ?_)
    refine s_val (v_assign rfl) rfl ?_
    repeat (first | refine t_seq ?_ | refine t_region ?_ | refine s_nil ?_ | refine p_then ?_ | refine t_ret ?_ | refine p_then_ret ?_ | refine p_block_ret ?_ | refine t_block ?_ | refine t_exit ?_ | refine p_then_exit ?_ | refine p_block_exit ?_ | refine p_block ?_ | refine t_skip ?_)
    exact ret1 rfl rfl ⟨_, rfl, hz2, _, rfl⟩
  refine t_skip ?_
  clear hb
  repeat (first | refine t_seq ?_ | refine t_region ?_ | refine s_nil ?_ | refine p_then ?_ | refine t_ret ?_ | refine p_then_ret ?_ | refine p_block_ret ?_ | refine t_block ?_ | refine t_exit ?_ | refine p_then_exit ?_ | refine p_block_exit ?_ | refine p_block ?_ | refine t_skip ?_)
  refine s_val (v_fieldAddr rfl (fo rfl)) rfl ?_
  refine s_val (v_load1 rfl (sc rfl) (by first | exact hB1.cell _ rfl | assumption)) rfl ?_
  refine s_val (v_len rfl (so rfl) rfl) rfl ?_
  refine s_val (v_gtI rfl rfl) rfl ?_
  repeat (first | refine t_seq ?_ | refine t_region ?_ | refine s_nil ?_ | refine p_then ?_ | refine t_ret ?_ | refine p_then_ret ?_ | refine p_block_ret ?_ | refine t_block ?_ | refine t_exit ?_ | refine p_then_exit ?_ | refine p_block_exit ?_ | refine p_block ?_ | refine t_skip ?_)
  refine t_if rfl (fun hb => ?_) (fun hb => ?_)
  · repeat (first | refine t_seq ?_ | refine t_region ?_ | refine s_nil ?_ | refine p_then ?_ | refine t_ret ?_ | refine p_then_ret ?_ | refine p_block_ret ?_ | refine t_block ?_ | refine t_exit ?_ | refine p_then_exit ?_ | refine p_block_exit ?_ | refine p_block ?_ | refine t_skip ?_)
    refine s_val (v_assign rfl) rfl ?_
    repeat (first | refine t_seq ?_ | refine t_region ?_ | refine s_nil ?_ | refine p_then ?_ | refine t_ret ?_ | refine p_then_ret ?_ | refine p_block_ret ?_ | refine t_block ?_ | refine t_exit ?_ | refine p_then_exit ?_ | refine p_block_exit ?_ | refine p_block ?_ | refine t_skip ?_)
    exact ret1 rfl rfl ⟨_, rfl, hz2, _, rfl⟩
  refine t_skip ?_
  clear hb
  repeat (first | refine t_seq ?_ | refine t_region ?_ | refine s_nil ?_ | refine p_then ?_ | refine t_ret ?_ | refine p_then_ret ?_ | refine p_block_ret ?_ | refine t_block ?_ | refine t_exit ?_ | refine p_then_exit ?_ | refine p_block_exit ?_ | refine p_block ?_ | refine t_skip ?_)
  refine s_val (v_assign rfl) rfl ?_
  repeat (first | refine t_seq ?_ | refine t_region ?_ | refine s_nil ?_ | refine p_then ?_ | refine t_ret ?_ | refine p_then_ret ?_ | refine p_block_ret ?_ | refine t_block ?_ | refine t_exit ?_ | refine p_then_exit ?_ | refine p_block_exit ?_ | refine p_block ?_ | refine t_skip ?_)
  exact ret1 rfl rfl ⟨_, rfl, hz2, _, rfl⟩
end Go.Proofs.YtnaefgnjdmmmcaaGreatDoor
/- spec.IsConnection: what it says of lengths. -/
namespace Go.Proofs.YtnaefgnjdmmmcaaGreatDoor
open Go.RowKit
set_option linter.unusedSimpArgs false
set_option linter.unusedVariables false
def lens (ps : List Pt) : Nat := (ps.map fun p => p.l.length).sum
theorem lens_snoc (ps : List Pt) (p : Pt) : lens (ps ++ [p]) = lens ps + p.l.length := by simp [lens]
theorem lens_take {ps : List Pt} {i : Nat} {p : Pt} (h : ps[i]? = some p) : lens (ps.take (i + 1)) = lens (ps.take i) + p.l.length := by
  rw [List.take_add_one, h, ← lens_snoc]; rfl
theorem lens_le (ps : List Pt) (i : Nat) : lens (ps.take i) ≤ lens ps := by
  have e : lens ps = lens (ps.take i) + lens (ps.drop i) := by
    conv => lhs; rw [← List.take_append_drop i ps]
    simp only [lens, List.map_append, List.sum_append]
  omega
/-- What IsConnection asks. -/
structure Conn.Fit (q : Conn) : Prop where
  tot : q.psk.l.length + lens (q.shared :: q.ms) ≤ 4096
  lab1 : 1 ≤ q.label.length
  lab : q.label.length ≤ 249
  ctx : q.ctx.l.length ≤ 255
  nonce : q.nonce.l.length ≤ 255
  upd0 : 0 ≤ q.upd
  upd : q.upd ≤ 5
theorem Conn.Fit.ok {q : Conn} (h : q.Fit) : q.Ok := by
  have hl : q.msgs.flatten.length = lens q.ms := by rw [List.length_flatten]; simp [Conn.msgs, lens]; rfl
  have e : lens (q.shared :: q.ms) = q.shared.l.length + lens q.ms := rfl
  have ht := h.tot
  exact ⟨by omega, by omega, by omega, h.lab1, h.lab, h.ctx, h.nonce, h.upd0, h.upd⟩
section
variable {P : Program} {N : Nat} {Γ : Env} {w : World} {d : Option Tmp} {ty : TypeId} {pos : String} {af : Array Edge} {gd : Option (Nat × Bool)} {x y : Operand} {t t' : TypeId} {m n : Int}
theorem v_leT (hx : Γ.op x = some (.ex (.int .i64 m))) (hy : Γ.op y = some (.ex (.int .i64 n))) (h : m ≤ n) : ValAt P N Γ w ⟨d, .binOp .leq t x y t', ty, pos, af, gd⟩ (.bool true) := by have := v_leI (P := P) (N := N) (w := w) (d := d) (t := t) (t' := t') (ty := ty) (pos := pos) (af := af) (gd := gd) hx hy; rwa [decide_eq_true h] at this
theorem v_leF (hx : Γ.op x = some (.ex (.int .i64 m))) (hy : Γ.op y = some (.ex (.int .i64 n))) (h : ¬ m ≤ n) : ValAt P N Γ w ⟨d, .binOp .leq t x y t', ty, pos, af, gd⟩ (.bool false) := by have := v_leI (P := P) (N := N) (w := w) (d := d) (t := t) (t' := t') (ty := ty) (pos := pos) (af := af) (gd := gd) hx hy; rwa [decide_eq_false h] at this
theorem v_geT (hx : Γ.op x = some (.ex (.int .i64 m))) (hy : Γ.op y = some (.ex (.int .i64 n))) (h : m ≥ n) : ValAt P N Γ w ⟨d, .binOp .geq t x y t', ty, pos, af, gd⟩ (.bool true) := by have := v_geI (P := P) (N := N) (w := w) (d := d) (t := t) (t' := t') (ty := ty) (pos := pos) (af := af) (gd := gd) hx hy; rwa [decide_eq_true h] at this
theorem v_geF (hx : Γ.op x = some (.ex (.int .i64 m))) (hy : Γ.op y = some (.ex (.int .i64 n))) (h : ¬ m ≥ n) : ValAt P N Γ w ⟨d, .binOp .geq t x y t', ty, pos, af, gd⟩ (.bool false) := by have := v_geI (P := P) (N := N) (w := w) (d := d) (t := t) (t' := t') (ty := ty) (pos := pos) (af := af) (gd := gd) hx hy; rwa [decide_eq_false h] at this
theorem v_gtT (hx : Γ.op x = some (.ex (.int .i64 m))) (hy : Γ.op y = some (.ex (.int .i64 n))) (h : m > n) : ValAt P N Γ w ⟨d, .binOp .gtr t x y t', ty, pos, af, gd⟩ (.bool true) := by have := v_gtI (P := P) (N := N) (w := w) (d := d) (t := t) (t' := t') (ty := ty) (pos := pos) (af := af) (gd := gd) hx hy; rwa [decide_eq_true h] at this
theorem v_gtF (hx : Γ.op x = some (.ex (.int .i64 m))) (hy : Γ.op y = some (.ex (.int .i64 n))) (h : ¬ m > n) : ValAt P N Γ w ⟨d, .binOp .gtr t x y t', ty, pos, af, gd⟩ (.bool false) := by have := v_gtI (P := P) (N := N) (w := w) (d := d) (t := t) (t' := t') (ty := ty) (pos := pos) (af := af) (gd := gd) hx hy; rwa [decide_eq_false h] at this
end
/-- A row of the call's own, cell for cell. -/
def RowV (ps : List Pt) (v : Value) (w : World) : Prop := ∃ g c, v = .slice (some ⟨g, 0, none⟩) ps.length c ∧ RowIs w g c ps
theorem st_rowv {ps : List Pt} : ∀ (v : Value) (w w' : World), RowV ps v w → Only [] w w' → RowV ps v w' := fun _ _ _ ⟨g, c, h1, h2⟩ k => ⟨g, c, h1, h2.len, h2.cap, h2.blk.only k (by simp)⟩
theorem st_onep {b : Nat} {p : Pt} : ∀ (v : Value) (w w' : World), OneP b p v w → Only [] w w' → OneP b p v w' := fun _ _ _ ⟨g, h1, h2, h3⟩ k => ⟨g, h1, h2.only k (by simp), h3⟩
section
variable {N : Nat} {Γ : Env} {w : World} {d : Option Tmp} {ty : TypeId} {pos : String} {af : Array Edge} {gd : Option (Nat × Bool)}
/-- append to a full literal: a new row. -/
theorem o_appNew {x y : Operand} {b : Nat} {p : Pt} {u : Value} {qs : List Pt} (hx : Γ.op x = some (.ab (OneP b p))) (hy : Γ.op y = some (.ex u)) (hs : Src Tryz.prog 1 30 u qs.length (qs.map Pt.val) w) (h1 : 1 ≤ qs.length) (h2 : qs.length ≤ 1000) :
    OpAt Tryz.prog N Γ w ⟨d, .call ⟨.builtin .append, #[x, y], #[30, 30]⟩, ty, pos, af, gd⟩ (Only []) (RowV (p :: qs)) :=
  opAt_val fun a ha => by
    have e2 := ha.val (x := y) (by simp [Op.operands, Call.operands]) hy
    obtain ⟨g, e1, hB, _⟩ : OneP b p (a.eval x) w := ha.get x (by simp [Op.operands, Call.operands]) _ hx
    have hr : RowIs w g 1 [p] := ⟨by simp, by simp [maxLen], by simpa [cellsOf] using hB⟩
    rcases run_append_pts (tr := ty) rt30' hr hs (by simp; omega) (by decide) with ⟨h3, _, _⟩ | ⟨_, w', c', h3, h4, h5⟩
    · simp at h3; omega
    · refine ⟨.slice (some ⟨w.heap.size, 0, none⟩) (1 + qs.length) c', w', ?_, h4, w.heap.size, c', by simp [Nat.add_comm], h5⟩
      simp only [List.length_cons, List.length_nil, Nat.zero_add] at h3
      simp only [execOp, resolve, invoke, builtin, Sem.run_bind, Sem.run_pure, Result.andThen_ok, List.map_toArray, List.map_cons, List.map_nil, e1, e2, h3]
theorem o_lenV {x : Operand} {ps : List Pt} (hx : Γ.op x = some (.ab (RowV ps))) : OpAt Tryz.prog N Γ w ⟨d, .call ⟨.builtin .len, #[x], #[30]⟩, ty, pos, af, gd⟩ (Only []) (fun v _ => v = I ps.length) :=
  o_lenP hx (fun v h => by obtain ⟨g, c, rfl, _⟩ := h; exact ⟨_, c, rfl⟩) (so rfl)
end
attribute [local irreducible] ValAt OpAt RunX Tr Post FlowK
structure CSt where
  i : Nat
  n : Nat
set_option maxHeartbeats 4000000 in
/-- spec.IsConnection -/
theorem c6 (q : Conn) (w : World) : Calls Tryz.prog 6 #[.agg q.cells] w (Ret [] w fun v _ => ∃ b, v = .bool b ∧ (b = true ↔ q.Fit)) := by
  refine enter (Γ := [(0, .ex (.agg q.cells))]) Tryz.func6 rfl rfl rfl ⟨⟨_, rfl, rfl⟩, trivial⟩ ?_
  repeat (first | refine t_seq ?_ | refine t_region ?_ | refine s_nil ?_ | refine p_then ?_ | refine t_ret ?_ | refine p_then_ret ?_ | refine p_block_ret ?_ | refine t_block ?_ | refine t_exit ?_ | refine p_then_exit ?_ | refine p_block_exit ?_ | refine p_block ?_ | refine t_skip ?_)
  refine s_op (o_box rfl) rfl rfl ?_
  rintro _ w1 hw1 ⟨rfl, hB1⟩
  refine s_val (v_assign rfl) rfl ?_
  have hC1 : Blk w1 w.heap.size 27 q.cells := hB1
  repeat (first | refine t_seq ?_ | refine t_region ?_ | refine s_nil ?_ | refine p_then ?_ | refine t_ret ?_ | refine p_then_ret ?_ | refine p_block_ret ?_ | refine t_block ?_ | refine t_exit ?_ | refine p_then_exit ?_ | refine p_block_exit ?_ | refine p_block ?_ | refine t_skip ?_)
  refine s_val (v_fieldAddr rfl (fo rfl)) rfl ?_
  refine s_val (v_load1 rfl (sc rfl) (by first | exact hC1.cell _ rfl | assumption)) rfl ?_
  refine s_val (v_len rfl (so rfl) rfl) rfl ?_
  refine s_val (v_assign rfl) rfl ?_
  refine s_nil (p_then ?_)
  refine t_cut (fun _ : Unit => [(1, .ex (pt w.heap.size 0)), (3, .ex (I (q.psk.l.length + lens (q.shared :: q.ms))))]) (fun _ w' => Only [] w w' ∧ Blk w' w.heap.size 27 q.cells) ?_ ?_
  · repeat (first | refine t_seq ?_ | refine t_region ?_ | refine s_nil ?_ | refine p_then ?_ | refine t_ret ?_ | refine p_then_ret ?_ | refine p_block_ret ?_ | refine t_block ?_ | refine t_exit ?_ | refine p_then_exit ?_ | refine p_block_exit ?_ | refine p_block ?_ | refine t_skip ?_)
    refine t_weak [(1, .ex (pt w.heap.size 0)), (3, .ex (I q.psk.l.length))] (by repeat (first | exact trivial | refine ⟨rfl, ?_⟩)) ?_
    refine t_drawO 8 (by kernel_rfl) rfl ?_
    refine fk_val (Only.refl _) (fun wF hR => v_fieldAddr rfl (fo rfl)) ?_
    refine fk_val (Only.refl _) (fun wF hR => v_load1 rfl (sc rfl) (by first | exact (hC1.only hR (by simp)).cell _ rfl | assumption)) ?_
    refine fk_op st_onep (fun wF hR => o_one (p := q.shared) hR.size rfl) ?_
    refine fk_val (Only.refl _) (fun wF hR => v_fieldAddr rfl (fo rfl)) ?_
    refine fk_val (Only.refl _) (fun wF hR => v_sliceArr rfl (al rfl)) ?_
    refine fk_op st_rowv (fun wF hR => o_appNew (qs := q.ms) rfl rfl (Src.ofSlice wF Tryz.underlying30 ⟨w.heap.size, 2, none⟩ 7 7 (q.ms.map Pt.val) rfl (fun j u hu => by rw [add_lit]; rw [List.getElem?_map] at hu; cases hp : q.ms[j]? with | none => rw [hp] at hu; cases hu | some p => rw [hp] at hu; cases hu; exact (hC1.only hR (by simp)).cell _ (by have := q.cell_m j p hp; rwa [Nat.zero_add] at this)) (fun u hu => by obtain ⟨p, _, rfl⟩ := List.mem_map.1 hu; rfl)) (by show 1 ≤ 7; decide) (by show 7 ≤ 1000; decide)) ?_
    refine fk_ex (fun wF hR => o_lenV rfl) ?_
    refine fk_val (Only.refl _) (fun wF hR => v_move rfl) ?_
    refine fk_nil (fun wA hwA => ?_)
    refine x_open 14 rfl (fun u hu => ?_)
    obtain ⟨gx, cx, rfl, hrx⟩ := hu
    refine x_weak [(16, .ex (I 0)), (15, .ex (I 8)), (14, .ex (.slice (some ⟨gx, 0, none⟩) 8 cx)), (1, .ex (pt w.heap.size 0)), (3, .ex (I q.psk.l.length))] (by repeat (first | exact trivial | refine ⟨rfl, ?_⟩)) ?_
    repeat (first | refine t_seq ?_ | refine t_region ?_ | refine s_nil ?_ | refine p_then ?_ | refine t_ret ?_ | refine p_then_ret ?_ | refine p_block_ret ?_ | refine t_block ?_ | refine t_exit ?_ | refine p_then_exit ?_ | refine p_block_exit ?_ | refine p_block ?_ | refine t_skip ?_)
    refine t_loop (fun o : CSt => [(16, .ex (I o.i)), (15, .ex (I 8)), (14, .ex (.slice (some ⟨gx, 0, none⟩) 8 cx)), (1, .ex (pt w.heap.size 0)), (3, .ex (I o.n))]) (fun o w' => o.i ≤ 8 ∧ o.n = q.psk.l.length + lens ((q.shared :: q.ms).take o.i) ∧ Only [] wA w') (fun o => 8 - o.i) ⟨0, q.psk.l.length⟩ (by repeat (first | exact trivial | refine ⟨rfl, ?_⟩)) ⟨Nat.zero_le _, rfl, Only.refl _ _⟩ ?_
    rintro ⟨i, n⟩ w2 ⟨hi, hn, hz2⟩
    simp only at hi hn
    refine t_weak [(16, .ex (I i)), (15, .ex (I 8)), (14, .ex (.slice (some ⟨gx, 0, none⟩) 8 cx)), (1, .ex (pt w.heap.size 0)), (3, .ex (I n))] (by repeat (first | exact trivial | refine ⟨rfl, ?_⟩)) ?_
    repeat (first | refine t_seq ?_ | refine t_region ?_ | refine s_nil ?_ | refine p_then ?_ | refine t_ret ?_ | refine p_then_ret ?_ | refine p_block_ret ?_ | refine t_block ?_ | refine t_exit ?_ | refine p_then_exit ?_ | refine p_block_exit ?_ | refine p_block ?_ | refine t_skip ?_)
    refine s_val (v_ltI rfl rfl) rfl ?_
    repeat (first | refine t_seq ?_ | refine t_region ?_ | refine s_nil ?_ | refine p_then ?_ | refine t_ret ?_ | refine p_then_ret ?_ | refine p_block_ret ?_ | refine t_block ?_ | refine t_exit ?_ | refine p_then_exit ?_ | refine p_block_exit ?_ | refine p_block ?_ | refine t_skip ?_)
    refine t_if rfl (fun hb => ?_) (fun hb => ?_)
    · have hi' : i < 8 := by have := of_decide_eq_true hb; omega
      clear hb
      obtain ⟨p, hp⟩ : ∃ p, (q.shared :: q.ms)[i]? = some p := ⟨_, List.getElem?_eq_getElem (by show i < 8; exact hi')⟩
      have hc : (cellsOf (q.shared :: q.ms) cx)[0 + i]? = some p.val := by
        rw [Nat.zero_add, cellsOf, List.getElem?_toArray, List.getElem?_append_left (by show i < 8; exact hi'), List.getElem?_map, hp]; rfl
      have hz := hw1.trans (hwA.trans hz2)
      refine t_skip (p_then ?_)
      refine t_cut (fun m : Nat => [(16, .ex (I i)), (15, .ex (I 8)), (14, .ex (.slice (some ⟨gx, 0, none⟩) 8 cx)), (1, .ex (pt w.heap.size 0)), (3, .ex (I m))]) (fun m w' => m = n + p.l.length ∧ Only [] wA w') ?_ ?_
      · repeat (first | refine t_seq ?_ | refine t_region ?_ | refine s_nil ?_ | refine p_then ?_ | refine t_ret ?_ | refine p_then_ret ?_ | refine p_block_ret ?_ | refine t_block ?_ | refine t_exit ?_ | refine p_then_exit ?_ | refine p_block_exit ?_ | refine p_block ?_ | refine t_skip ?_)
        refine s_val (v_indexSlice rfl rfl (so rfl) (by omega)) rfl ?_
        refine s_val (v_load1 rfl (sc rfl) (by first | exact (hrx.blk.only hz2 (by simp)).cell _ hc | assumption)) rfl ?_
        refine s_val (v_assign rfl) rfl ?_
        repeat (first | refine t_seq ?_ | refine t_region ?_ | refine s_nil ?_ | refine p_then ?_ | refine t_ret ?_ | refine p_then_ret ?_ | refine p_block_ret ?_ | refine t_block ?_ | refine t_exit ?_ | refine p_then_exit ?_ | refine p_block_exit ?_ | refine p_block ?_ | refine t_skip ?_)
        by_cases h1 : (n : Int) > 4096
        case pos =>
          refine s_val (v_move rfl) rfl ?_
          refine s_val (v_gtT rfl rfl h1) rfl ?_
          refine s_val (v_move rfl) rfl ?_
          first | refine s_yes rfl rfl (v_move rfl) rfl ?_ | refine s_no rfl rfl rfl rfl ?_ | refine s_no_undef rfl rfl rfl ?_
          refine s_no rfl rfl rfl rfl ?_
          first | refine s_no rfl rfl rfl rfl ?_ | refine s_no_undef rfl rfl rfl ?_
          refine s_val (v_pick rfl rfl rfl) rfl ?_
          repeat (first | refine t_seq ?_ | refine t_region ?_ | refine s_nil ?_ | refine p_then ?_ | refine t_ret ?_ | refine p_then_ret ?_ | refine p_block_ret ?_ | refine t_block ?_ | refine t_exit ?_ | refine p_then_exit ?_ | refine p_block_exit ?_ | refine p_block ?_ | refine t_skip ?_)
          refine t_true rfl ?_
          repeat (first | refine t_seq ?_ | refine t_region ?_ | refine s_nil ?_ | refine p_then ?_ | refine t_ret ?_ | refine p_then_ret ?_ | refine p_block_ret ?_ | refine t_block ?_ | refine t_exit ?_ | refine p_then_exit ?_ | refine p_block_exit ?_ | refine p_block ?_ | refine t_skip ?_)
          refine s_val (v_assign rfl) rfl ?_
          repeat (first | refine t_seq ?_ | refine t_region ?_ | refine s_nil ?_ | refine p_then ?_ | refine t_ret ?_ | refine p_then_ret ?_ | refine p_block_ret ?_ | refine t_block ?_ | refine t_exit ?_ | refine p_then_exit ?_ | refine p_block_exit ?_ | refine p_block ?_ | refine t_skip ?_)
          exact ret1 rfl rfl ⟨_, rfl, hz, false, rfl, fun h => (by cases h), fun h => (by have h3 := h.tot; have h4 := lens_le (q.shared :: q.ms) (i + 1); rw [lens_take hp] at h4; omega)⟩
        by_cases h2 : (p.l.length : Int) > 4096
        case pos =>
          refine s_val (v_move rfl) rfl ?_
          refine s_val (v_gtF rfl rfl h1) rfl ?_
          refine s_val (v_move rfl) rfl ?_
          first | refine s_yes rfl rfl (v_move rfl) rfl ?_ | refine s_no rfl rfl rfl rfl ?_ | refine s_no_undef rfl rfl rfl ?_
          refine s_yes rfl rfl (v_len (A := p.A) (n := p.l.length) (c := p.c) rfl (so rfl) rfl) rfl ?_
          refine s_yes rfl rfl (v_gtT rfl rfl h2) rfl ?_
          refine s_val (v_pick rfl rfl rfl) rfl ?_
          repeat (first | refine t_seq ?_ | refine t_region ?_ | refine s_nil ?_ | refine p_then ?_ | refine t_ret ?_ | refine p_then_ret ?_ | refine p_block_ret ?_ | refine t_block ?_ | refine t_exit ?_ | refine p_then_exit ?_ | refine p_block_exit ?_ | refine p_block ?_ | refine t_skip ?_)
          refine t_true rfl ?_
          repeat (first | refine t_seq ?_ | refine t_region ?_ | refine s_nil ?_ | refine p_then ?_ | refine t_ret ?_ | refine p_then_ret ?_ | refine p_block_ret ?_ | refine t_block ?_ | refine t_exit ?_ | refine p_then_exit ?_ | refine p_block_exit ?_ | refine p_block ?_ | refine t_skip ?_)
          refine s_val (v_assign rfl) rfl ?_
          repeat (first | refine t_seq ?_ | refine t_region ?_ | refine s_nil ?_ | refine p_then ?_ | refine t_ret ?_ | refine p_then_ret ?_ | refine p_block_ret ?_ | refine t_block ?_ | refine t_exit ?_ | refine p_then_exit ?_ | refine p_block_exit ?_ | refine p_block ?_ | refine t_skip ?_)
          exact ret1 rfl rfl ⟨_, rfl, hz, false, rfl, fun h => (by cases h), fun h => (by have h3 := h.tot; have h4 := lens_le (q.shared :: q.ms) (i + 1); rw [lens_take hp] at h4; omega)⟩
        refine s_val (v_move rfl) rfl ?_
        refine s_val (v_gtF rfl rfl h1) rfl ?_
        refine s_val (v_move rfl) rfl ?_
        first | refine s_yes rfl rfl (v_move rfl) rfl ?_ | refine s_no rfl rfl rfl rfl ?_ | refine s_no_undef rfl rfl rfl ?_
        refine s_yes rfl rfl (v_len (A := p.A) (n := p.l.length) (c := p.c) rfl (so rfl) rfl) rfl ?_
        refine s_yes rfl rfl (v_gtF rfl rfl h2) rfl ?_
        refine s_val (v_pick rfl rfl rfl) rfl ?_
        repeat (first | refine t_seq ?_ | refine t_region ?_ | refine s_nil ?_ | refine p_then ?_ | refine t_ret ?_ | refine p_then_ret ?_ | refine p_block_ret ?_ | refine t_block ?_ | refine t_exit ?_ | refine p_then_exit ?_ | refine p_block_exit ?_ | refine p_block ?_ | refine t_skip ?_)
        refine t_false rfl ?_
        refine t_skip ?_
        repeat (first | refine t_seq ?_ | refine t_region ?_ | refine s_nil ?_ | refine p_then ?_ | refine t_ret ?_ | refine p_then_ret ?_ | refine p_block_ret ?_ | refine t_block ?_ | refine t_exit ?_ | refine p_then_exit ?_ | refine p_block_exit ?_ | refine p_block ?_ | refine t_skip ?_)
        refine s_val (v_move rfl) rfl ?_
        refine s_val (v_move rfl) rfl ?_
        refine s_val (v_len (A := p.A) (n := p.l.length) (c := p.c) rfl (so rfl) rfl) rfl ?_
        refine s_val (v_addI rfl rfl (by omega)) rfl ?_
        refine s_val (v_assign rfl) rfl ?_
        repeat (first | refine t_seq ?_ | refine t_region ?_ | refine s_nil ?_ | refine p_then ?_ | refine t_ret ?_ | refine p_then_ret ?_ | refine p_block_ret ?_ | refine t_block ?_ | refine t_exit ?_ | refine p_then_exit ?_ | refine p_block_exit ?_ | refine p_block ?_ | refine t_skip ?_)
        exact p_cut (n + p.l.length) (by repeat (first | exact trivial | refine ⟨rfl, ?_⟩)) ⟨rfl, hz2⟩
      · rintro m w3 ⟨rfl, hz3⟩
        repeat (first | refine t_seq ?_ | refine t_region ?_ | refine s_nil ?_ | refine p_then ?_ | refine t_ret ?_ | refine p_then_ret ?_ | refine p_block_ret ?_ | refine t_block ?_ | refine t_exit ?_ | refine p_then_exit ?_ | refine p_block_exit ?_ | refine p_block ?_ | refine t_skip ?_)
        refine s_val (v_addI rfl opc (by omega)) rfl ?_
        refine s_val (v_move rfl) rfl ?_
        repeat (first | refine t_seq ?_ | refine t_region ?_ | refine s_nil ?_ | refine p_then ?_ | refine t_ret ?_ | refine p_then_ret ?_ | refine p_block_ret ?_ | refine t_block ?_ | refine t_exit ?_ | refine p_then_exit ?_ | refine p_block_exit ?_ | refine p_block ?_ | refine t_skip ?_)
        exact p_round ⟨i + 1, n + p.l.length⟩ (by show 8 - (i + 1) < 8 - i; omega) (by repeat (first | exact trivial | refine ⟨rfl, ?_⟩)) ⟨hi', by show n + p.l.length = _ + lens ((q.shared :: q.ms).take (i + 1)); rw [lens_take hp, hn, Nat.add_assoc], hz3⟩
    · have hi' : i = 8 := by have := of_decide_eq_false hb; omega
      subst hi'
      have hn' : n = q.psk.l.length + lens (q.shared :: q.ms) := hn
      subst hn'
      repeat (first | refine t_seq ?_ | refine t_region ?_ | refine s_nil ?_ | refine p_then ?_ | refine t_ret ?_ | refine p_then_ret ?_ | refine p_block_ret ?_ | refine t_block ?_ | refine t_exit ?_ | refine p_then_exit ?_ | refine p_block_exit ?_ | refine p_block ?_ | refine t_skip ?_)
      exact p_cut () (by repeat (first | exact trivial | refine ⟨rfl, ?_⟩)) ⟨hw1.trans (hwA.trans hz2), hC1.only (hwA.trans hz2) (by simp)⟩
  · rintro _ w2 ⟨hz, hC⟩
    repeat (first | refine t_seq ?_ | refine t_region ?_ | refine s_nil ?_ | refine p_then ?_ | refine t_ret ?_ | refine p_then_ret ?_ | refine p_block_ret ?_ | refine t_block ?_ | refine t_exit ?_ | refine p_then_exit ?_ | refine p_block_exit ?_ | refine p_block ?_ | refine t_skip ?_)
    by_cases ht : ((q.psk.l.length + lens (q.shared :: q.ms) : Nat) : Int) ≤ 4096
    case neg =>
      refine s_val (v_move rfl) rfl ?_
      refine s_val (v_leF rfl rfl ht) rfl ?_
      refine s_val (v_move rfl) rfl ?_
      first | refine s_yes rfl rfl (v_fieldAddr rfl (fo rfl)) rfl ?_ | refine s_no rfl rfl rfl rfl ?_ | refine s_no_undef rfl rfl rfl ?_
      first | refine s_yes rfl rfl (v_load1 rfl (sc rfl) (by first | exact hC.cell _ rfl | assumption)) rfl ?_ | refine s_no rfl rfl rfl rfl ?_ | refine s_no_undef rfl rfl rfl ?_
      first | refine s_no rfl rfl rfl rfl ?_ | refine s_no_undef rfl rfl rfl ?_
      first | refine s_yes rfl rfl (v_geI rfl rfl) rfl ?_ | refine s_no rfl rfl rfl rfl ?_ | refine s_no_undef rfl rfl rfl ?_
      refine s_val (v_pick rfl rfl rfl) rfl ?_
      refine s_val (v_move rfl) rfl ?_
      first | refine s_yes rfl rfl (v_fieldAddr rfl (fo rfl)) rfl ?_ | refine s_no rfl rfl rfl rfl ?_ | refine s_no_undef rfl rfl rfl ?_
      first | refine s_yes rfl rfl (v_load1 rfl (sc rfl) (by first | exact hC.cell _ rfl | assumption)) rfl ?_ | refine s_no rfl rfl rfl rfl ?_ | refine s_no_undef rfl rfl rfl ?_
      first | refine s_no rfl rfl rfl rfl ?_ | refine s_no_undef rfl rfl rfl ?_
      first | refine s_yes rfl rfl (v_leI rfl rfl) rfl ?_ | refine s_no rfl rfl rfl rfl ?_ | refine s_no_undef rfl rfl rfl ?_
      refine s_val (v_pick rfl rfl rfl) rfl ?_
      refine s_val (v_move rfl) rfl ?_
      first | refine s_yes rfl rfl (v_fieldAddr rfl (fo rfl)) rfl ?_ | refine s_no rfl rfl rfl rfl ?_ | refine s_no_undef rfl rfl rfl ?_
      first | refine s_yes rfl rfl (v_load1 rfl (sc rfl) (by first | exact hC.cell _ rfl | assumption)) rfl ?_ | refine s_no rfl rfl rfl rfl ?_ | refine s_no_undef rfl rfl rfl ?_
      first | refine s_no rfl rfl rfl rfl ?_ | refine s_no_undef rfl rfl rfl ?_
      first | refine s_yes rfl rfl (v_leI rfl rfl) rfl ?_ | refine s_no rfl rfl rfl rfl ?_ | refine s_no_undef rfl rfl rfl ?_
      refine s_val (v_pick rfl rfl rfl) rfl ?_
      refine s_val (v_move rfl) rfl ?_
      first | refine s_yes rfl rfl (v_fieldAddr rfl (fo rfl)) rfl ?_ | refine s_no rfl rfl rfl rfl ?_ | refine s_no_undef rfl rfl rfl ?_
      first | refine s_yes rfl rfl (v_load1 rfl (sc rfl) (by first | exact hC.cell _ rfl | assumption)) rfl ?_ | refine s_no rfl rfl rfl rfl ?_ | refine s_no_undef rfl rfl rfl ?_
      first | refine s_no rfl rfl rfl rfl ?_ | refine s_no_undef rfl rfl rfl ?_
      first | refine s_yes rfl rfl (v_leI rfl rfl) rfl ?_ | refine s_no rfl rfl rfl rfl ?_ | refine s_no_undef rfl rfl rfl ?_
      refine s_val (v_pick rfl rfl rfl) rfl ?_
      refine s_val (v_move rfl) rfl ?_
      first | refine s_yes rfl rfl (v_fieldAddr rfl (fo rfl)) rfl ?_ | refine s_no rfl rfl rfl rfl ?_ | refine s_no_undef rfl rfl rfl ?_
      first | refine s_yes rfl rfl (v_load1 rfl (sc rfl) (by first | exact hC.cell _ rfl | assumption)) rfl ?_ | refine s_no rfl rfl rfl rfl ?_ | refine s_no_undef rfl rfl rfl ?_
      first | refine s_yes rfl rfl (v_geI rfl rfl) rfl ?_ | refine s_no rfl rfl rfl rfl ?_ | refine s_no_undef rfl rfl rfl ?_
      refine s_val (v_pick rfl rfl rfl) rfl ?_
      refine s_val (v_move rfl) rfl ?_
      first | refine s_yes rfl rfl (v_fieldAddr rfl (fo rfl)) rfl ?_ | refine s_no rfl rfl rfl rfl ?_ | refine s_no_undef rfl rfl rfl ?_
      first | refine s_yes rfl rfl (v_load1 rfl (sc rfl) (by first | exact hC.cell _ rfl | assumption)) rfl ?_ | refine s_no rfl rfl rfl rfl ?_ | refine s_no_undef rfl rfl rfl ?_
      first | refine s_yes rfl rfl (v_leI rfl rfl) rfl ?_ | refine s_no rfl rfl rfl rfl ?_ | refine s_no_undef rfl rfl rfl ?_
      refine s_val (v_pick rfl rfl rfl) rfl ?_
      refine s_val (v_assign rfl) rfl ?_
      repeat (first | refine t_seq ?_ | refine t_region ?_ | refine s_nil ?_ | refine p_then ?_ | refine t_ret ?_ | refine p_then_ret ?_ | refine p_block_ret ?_ | refine t_block ?_ | refine t_exit ?_ | refine p_then_exit ?_ | refine p_block_exit ?_ | refine p_block ?_ | refine t_skip ?_)
      exact ret1 rfl rfl ⟨_, rfl, hz, false, rfl, fun h => (by cases h), fun h => (by have := h.tot; have := h.lab1; have := h.lab; have := h.ctx; have := h.nonce; have := h.upd0; have := h.upd; omega)⟩
    by_cases h1 : (q.label.length : Int) ≥ 1
    case neg =>
      refine s_val (v_move rfl) rfl ?_
      refine s_val (v_leT rfl rfl ht) rfl ?_
      refine s_val (v_move rfl) rfl ?_
      first | refine s_yes rfl rfl (v_fieldAddr rfl (fo rfl)) rfl ?_ | refine s_no rfl rfl rfl rfl ?_ | refine s_no_undef rfl rfl rfl ?_
      first | refine s_yes rfl rfl (v_load1 rfl (sc rfl) (by first | exact hC.cell _ rfl | assumption)) rfl ?_ | refine s_no rfl rfl rfl rfl ?_ | refine s_no_undef rfl rfl rfl ?_
      refine s_yes rfl rfl (v_lenS rfl u9) rfl ?_
      refine s_yes rfl rfl (v_geF rfl rfl h1) rfl ?_
      refine s_val (v_pick rfl rfl rfl) rfl ?_
      refine s_val (v_move rfl) rfl ?_
      first | refine s_yes rfl rfl (v_fieldAddr rfl (fo rfl)) rfl ?_ | refine s_no rfl rfl rfl rfl ?_ | refine s_no_undef rfl rfl rfl ?_
      first | refine s_yes rfl rfl (v_load1 rfl (sc rfl) (by first | exact hC.cell _ rfl | assumption)) rfl ?_ | refine s_no rfl rfl rfl rfl ?_ | refine s_no_undef rfl rfl rfl ?_
      first | refine s_no rfl rfl rfl rfl ?_ | refine s_no_undef rfl rfl rfl ?_
      first | refine s_yes rfl rfl (v_leI rfl rfl) rfl ?_ | refine s_no rfl rfl rfl rfl ?_ | refine s_no_undef rfl rfl rfl ?_
      refine s_val (v_pick rfl rfl rfl) rfl ?_
      refine s_val (v_move rfl) rfl ?_
      first | refine s_yes rfl rfl (v_fieldAddr rfl (fo rfl)) rfl ?_ | refine s_no rfl rfl rfl rfl ?_ | refine s_no_undef rfl rfl rfl ?_
      first | refine s_yes rfl rfl (v_load1 rfl (sc rfl) (by first | exact hC.cell _ rfl | assumption)) rfl ?_ | refine s_no rfl rfl rfl rfl ?_ | refine s_no_undef rfl rfl rfl ?_
      first | refine s_no rfl rfl rfl rfl ?_ | refine s_no_undef rfl rfl rfl ?_
      first | refine s_yes rfl rfl (v_leI rfl rfl) rfl ?_ | refine s_no rfl rfl rfl rfl ?_ | refine s_no_undef rfl rfl rfl ?_
      refine s_val (v_pick rfl rfl rfl) rfl ?_
      refine s_val (v_move rfl) rfl ?_
      first | refine s_yes rfl rfl (v_fieldAddr rfl (fo rfl)) rfl ?_ | refine s_no rfl rfl rfl rfl ?_ | refine s_no_undef rfl rfl rfl ?_
      first | refine s_yes rfl rfl (v_load1 rfl (sc rfl) (by first | exact hC.cell _ rfl | assumption)) rfl ?_ | refine s_no rfl rfl rfl rfl ?_ | refine s_no_undef rfl rfl rfl ?_
      first | refine s_no rfl rfl rfl rfl ?_ | refine s_no_undef rfl rfl rfl ?_
      first | refine s_yes rfl rfl (v_leI rfl rfl) rfl ?_ | refine s_no rfl rfl rfl rfl ?_ | refine s_no_undef rfl rfl rfl ?_
      refine s_val (v_pick rfl rfl rfl) rfl ?_
      refine s_val (v_move rfl) rfl ?_
      first | refine s_yes rfl rfl (v_fieldAddr rfl (fo rfl)) rfl ?_ | refine s_no rfl rfl rfl rfl ?_ | refine s_no_undef rfl rfl rfl ?_
      first | refine s_yes rfl rfl (v_load1 rfl (sc rfl) (by first | exact hC.cell _ rfl | assumption)) rfl ?_ | refine s_no rfl rfl rfl rfl ?_ | refine s_no_undef rfl rfl rfl ?_
      first | refine s_yes rfl rfl (v_geI rfl rfl) rfl ?_ | refine s_no rfl rfl rfl rfl ?_ | refine s_no_undef rfl rfl rfl ?_
      refine s_val (v_pick rfl rfl rfl) rfl ?_
      refine s_val (v_move rfl) rfl ?_
      first | refine s_yes rfl rfl (v_fieldAddr rfl (fo rfl)) rfl ?_ | refine s_no rfl rfl rfl rfl ?_ | refine s_no_undef rfl rfl rfl ?_
      first | refine s_yes rfl rfl (v_load1 rfl (sc rfl) (by first | exact hC.cell _ rfl | assumption)) rfl ?_ | refine s_no rfl rfl rfl rfl ?_ | refine s_no_undef rfl rfl rfl ?_
      first | refine s_yes rfl rfl (v_leI rfl rfl) rfl ?_ | refine s_no rfl rfl rfl rfl ?_ | refine s_no_undef rfl rfl rfl ?_
      refine s_val (v_pick rfl rfl rfl) rfl ?_
      refine s_val (v_assign rfl) rfl ?_
      repeat (first | refine t_seq ?_ | refine t_region ?_ | refine s_nil ?_ | refine p_then ?_ | refine t_ret ?_ | refine p_then_ret ?_ | refine p_block_ret ?_ | refine t_block ?_ | refine t_exit ?_ | refine p_then_exit ?_ | refine p_block_exit ?_ | refine p_block ?_ | refine t_skip ?_)
      exact ret1 rfl rfl ⟨_, rfl, hz, false, rfl, fun h => (by cases h), fun h => (by have := h.tot; have := h.lab1; have := h.lab; have := h.ctx; have := h.nonce; have := h.upd0; have := h.upd; omega)⟩
    by_cases h2 : (q.label.length : Int) ≤ 249
    case neg =>
      refine s_val (v_move rfl) rfl ?_
      refine s_val (v_leT rfl rfl ht) rfl ?_
      refine s_val (v_move rfl) rfl ?_
      first | refine s_yes rfl rfl (v_fieldAddr rfl (fo rfl)) rfl ?_ | refine s_no rfl rfl rfl rfl ?_ | refine s_no_undef rfl rfl rfl ?_
      first | refine s_yes rfl rfl (v_load1 rfl (sc rfl) (by first | exact hC.cell _ rfl | assumption)) rfl ?_ | refine s_no rfl rfl rfl rfl ?_ | refine s_no_undef rfl rfl rfl ?_
      refine s_yes rfl rfl (v_lenS rfl u9) rfl ?_
      refine s_yes rfl rfl (v_geT rfl rfl h1) rfl ?_
      refine s_val (v_pick rfl rfl rfl) rfl ?_
      refine s_val (v_move rfl) rfl ?_
      first | refine s_yes rfl rfl (v_fieldAddr rfl (fo rfl)) rfl ?_ | refine s_no rfl rfl rfl rfl ?_ | refine s_no_undef rfl rfl rfl ?_
      first | refine s_yes rfl rfl (v_load1 rfl (sc rfl) (by first | exact hC.cell _ rfl | assumption)) rfl ?_ | refine s_no rfl rfl rfl rfl ?_ | refine s_no_undef rfl rfl rfl ?_
      refine s_yes rfl rfl (v_lenS rfl u9) rfl ?_
      refine s_yes rfl rfl (v_leF rfl rfl h2) rfl ?_
      refine s_val (v_pick rfl rfl rfl) rfl ?_
      refine s_val (v_move rfl) rfl ?_
      first | refine s_yes rfl rfl (v_fieldAddr rfl (fo rfl)) rfl ?_ | refine s_no rfl rfl rfl rfl ?_ | refine s_no_undef rfl rfl rfl ?_
      first | refine s_yes rfl rfl (v_load1 rfl (sc rfl) (by first | exact hC.cell _ rfl | assumption)) rfl ?_ | refine s_no rfl rfl rfl rfl ?_ | refine s_no_undef rfl rfl rfl ?_
      first | refine s_no rfl rfl rfl rfl ?_ | refine s_no_undef rfl rfl rfl ?_
      first | refine s_yes rfl rfl (v_leI rfl rfl) rfl ?_ | refine s_no rfl rfl rfl rfl ?_ | refine s_no_undef rfl rfl rfl ?_
      refine s_val (v_pick rfl rfl rfl) rfl ?_
      refine s_val (v_move rfl) rfl ?_
      first | refine s_yes rfl rfl (v_fieldAddr rfl (fo rfl)) rfl ?_ | refine s_no rfl rfl rfl rfl ?_ | refine s_no_undef rfl rfl rfl ?_
      first | refine s_yes rfl rfl (v_load1 rfl (sc rfl) (by first | exact hC.cell _ rfl | assumption)) rfl ?_ | refine s_no rfl rfl rfl rfl ?_ | refine s_no_undef rfl rfl rfl ?_
      first | refine s_no rfl rfl rfl rfl ?_ | refine s_no_undef rfl rfl rfl ?_
      first | refine s_yes rfl rfl (v_leI rfl rfl) rfl ?_ | refine s_no rfl rfl rfl rfl ?_ | refine s_no_undef rfl rfl rfl ?_
      refine s_val (v_pick rfl rfl rfl) rfl ?_
      refine s_val (v_move rfl) rfl ?_
      first | refine s_yes rfl rfl (v_fieldAddr rfl (fo rfl)) rfl ?_ | refine s_no rfl rfl rfl rfl ?_ | refine s_no_undef rfl rfl rfl ?_
      first | refine s_yes rfl rfl (v_load1 rfl (sc rfl) (by first | exact hC.cell _ rfl | assumption)) rfl ?_ | refine s_no rfl rfl rfl rfl ?_ | refine s_no_undef rfl rfl rfl ?_
      first | refine s_yes rfl rfl (v_geI rfl rfl) rfl ?_ | refine s_no rfl rfl rfl rfl ?_ | refine s_no_undef rfl rfl rfl ?_
      refine s_val (v_pick rfl rfl rfl) rfl ?_
      refine s_val (v_move rfl) rfl ?_
      first | refine s_yes rfl rfl (v_fieldAddr rfl (fo rfl)) rfl ?_ | refine s_no rfl rfl rfl rfl ?_ | refine s_no_undef rfl rfl rfl ?_
      first | refine s_yes rfl rfl (v_load1 rfl (sc rfl) (by first | exact hC.cell _ rfl | assumption)) rfl ?_ | refine s_no rfl rfl rfl rfl ?_ | refine s_no_undef rfl rfl rfl ?_
      first | refine s_yes rfl rfl (v_leI rfl rfl) rfl ?_ | refine s_no rfl rfl rfl rfl ?_ | refine s_no_undef rfl rfl rfl ?_
      refine s_val (v_pick rfl rfl rfl) rfl ?_
      refine s_val (v_assign rfl) rfl ?_
      repeat (first | refine t_seq ?_ | refine t_region ?_ | refine s_nil ?_ | refine p_then ?_ | refine t_ret ?_ | refine p_then_ret ?_ | refine p_block_ret ?_ | refine t_block ?_ | refine t_exit ?_ | refine p_then_exit ?_ | refine p_block_exit ?_ | refine p_block ?_ | refine t_skip ?_)
      exact ret1 rfl rfl ⟨_, rfl, hz, false, rfl, fun h => (by cases h), fun h => (by have := h.tot; have := h.lab1; have := h.lab; have := h.ctx; have := h.nonce; have := h.upd0; have := h.upd; omega)⟩
    by_cases h3 : (q.ctx.l.length : Int) ≤ 255
    case neg =>
      refine s_val (v_move rfl) rfl ?_
      refine s_val (v_leT rfl rfl ht) rfl ?_
      refine s_val (v_move rfl) rfl ?_
      first | refine s_yes rfl rfl (v_fieldAddr rfl (fo rfl)) rfl ?_ | refine s_no rfl rfl rfl rfl ?_ | refine s_no_undef rfl rfl rfl ?_
      first | refine s_yes rfl rfl (v_load1 rfl (sc rfl) (by first | exact hC.cell _ rfl | assumption)) rfl ?_ | refine s_no rfl rfl rfl rfl ?_ | refine s_no_undef rfl rfl rfl ?_
      refine s_yes rfl rfl (v_lenS rfl u9) rfl ?_
      refine s_yes rfl rfl (v_geT rfl rfl h1) rfl ?_
      refine s_val (v_pick rfl rfl rfl) rfl ?_
      refine s_val (v_move rfl) rfl ?_
      first | refine s_yes rfl rfl (v_fieldAddr rfl (fo rfl)) rfl ?_ | refine s_no rfl rfl rfl rfl ?_ | refine s_no_undef rfl rfl rfl ?_
      first | refine s_yes rfl rfl (v_load1 rfl (sc rfl) (by first | exact hC.cell _ rfl | assumption)) rfl ?_ | refine s_no rfl rfl rfl rfl ?_ | refine s_no_undef rfl rfl rfl ?_
      refine s_yes rfl rfl (v_lenS rfl u9) rfl ?_
      refine s_yes rfl rfl (v_leT rfl rfl h2) rfl ?_
      refine s_val (v_pick rfl rfl rfl) rfl ?_
      refine s_val (v_move rfl) rfl ?_
      first | refine s_yes rfl rfl (v_fieldAddr rfl (fo rfl)) rfl ?_ | refine s_no rfl rfl rfl rfl ?_ | refine s_no_undef rfl rfl rfl ?_
      first | refine s_yes rfl rfl (v_load1 rfl (sc rfl) (by first | exact hC.cell _ rfl | assumption)) rfl ?_ | refine s_no rfl rfl rfl rfl ?_ | refine s_no_undef rfl rfl rfl ?_
      refine s_yes rfl rfl (v_len rfl (so rfl) rfl) rfl ?_
      refine s_yes rfl rfl (v_leF rfl rfl h3) rfl ?_
      refine s_val (v_pick rfl rfl rfl) rfl ?_
      refine s_val (v_move rfl) rfl ?_
      first | refine s_yes rfl rfl (v_fieldAddr rfl (fo rfl)) rfl ?_ | refine s_no rfl rfl rfl rfl ?_ | refine s_no_undef rfl rfl rfl ?_
      first | refine s_yes rfl rfl (v_load1 rfl (sc rfl) (by first | exact hC.cell _ rfl | assumption)) rfl ?_ | refine s_no rfl rfl rfl rfl ?_ | refine s_no_undef rfl rfl rfl ?_
      first | refine s_no rfl rfl rfl rfl ?_ | refine s_no_undef rfl rfl rfl ?_
      first | refine s_yes rfl rfl (v_leI rfl rfl) rfl ?_ | refine s_no rfl rfl rfl rfl ?_ | refine s_no_undef rfl rfl rfl ?_
      refine s_val (v_pick rfl rfl rfl) rfl ?_
      refine s_val (v_move rfl) rfl ?_
      first | refine s_yes rfl rfl (v_fieldAddr rfl (fo rfl)) rfl ?_ | refine s_no rfl rfl rfl rfl ?_ | refine s_no_undef rfl rfl rfl ?_
      first | refine s_yes rfl rfl (v_load1 rfl (sc rfl) (by first | exact hC.cell _ rfl | assumption)) rfl ?_ | refine s_no rfl rfl rfl rfl ?_ | refine s_no_undef rfl rfl rfl ?_
      first | refine s_yes rfl rfl (v_geI rfl rfl) rfl ?_ | refine s_no rfl rfl rfl rfl ?_ | refine s_no_undef rfl rfl rfl ?_
      refine s_val (v_pick rfl rfl rfl) rfl ?_
      refine s_val (v_move rfl) rfl ?_
      first | refine s_yes rfl rfl (v_fieldAddr rfl (fo rfl)) rfl ?_ | refine s_no rfl rfl rfl rfl ?_ | refine s_no_undef rfl rfl rfl ?_
      first | refine s_yes rfl rfl (v_load1 rfl (sc rfl) (by first | exact hC.cell _ rfl | assumption)) rfl ?_ | refine s_no rfl rfl rfl rfl ?_ | refine s_no_undef rfl rfl rfl ?_
      first | refine s_yes rfl rfl (v_leI rfl rfl) rfl ?_ | refine s_no rfl rfl rfl rfl ?_ | refine s_no_undef rfl rfl rfl ?_
      refine s_val (v_pick rfl rfl rfl) rfl ?_
      refine s_val (v_assign rfl) rfl ?_
      repeat (first | refine t_seq ?_ | refine t_region ?_ | refine s_nil ?_ | refine p_then ?_ | refine t_ret ?_ | refine p_then_ret ?_ | refine p_block_ret ?_ | refine t_block ?_ | refine t_exit ?_ | refine p_then_exit ?_ | refine p_block_exit ?_ | refine p_block ?_ | refine t_skip ?_)
      exact ret1 rfl rfl ⟨_, rfl, hz, false, rfl, fun h => (by cases h), fun h => (by have := h.tot; have := h.lab1; have := h.lab; have := h.ctx; have := h.nonce; have := h.upd0; have := h.upd; omega)⟩
    by_cases h4 : (q.nonce.l.length : Int) ≤ 255
    case neg =>
      refine s_val (v_move rfl) rfl ?_
      refine s_val (v_leT rfl rfl ht) rfl ?_
      refine s_val (v_move rfl) rfl ?_
      first | refine s_yes rfl rfl (v_fieldAddr rfl (fo rfl)) rfl ?_ | refine s_no rfl rfl rfl rfl ?_ | refine s_no_undef rfl rfl rfl ?_
      first | refine s_yes rfl rfl (v_load1 rfl (sc rfl) (by first | exact hC.cell _ rfl | assumption)) rfl ?_ | refine s_no rfl rfl rfl rfl ?_ | refine s_no_undef rfl rfl rfl ?_
      refine s_yes rfl rfl (v_lenS rfl u9) rfl ?_
      refine s_yes rfl rfl (v_geT rfl rfl h1) rfl ?_
      refine s_val (v_pick rfl rfl rfl) rfl ?_
      refine s_val (v_move rfl) rfl ?_
      first | refine s_yes rfl rfl (v_fieldAddr rfl (fo rfl)) rfl ?_ | refine s_no rfl rfl rfl rfl ?_ | refine s_no_undef rfl rfl rfl ?_
      first | refine s_yes rfl rfl (v_load1 rfl (sc rfl) (by first | exact hC.cell _ rfl | assumption)) rfl ?_ | refine s_no rfl rfl rfl rfl ?_ | refine s_no_undef rfl rfl rfl ?_
      refine s_yes rfl rfl (v_lenS rfl u9) rfl ?_
      refine s_yes rfl rfl (v_leT rfl rfl h2) rfl ?_
      refine s_val (v_pick rfl rfl rfl) rfl ?_
      refine s_val (v_move rfl) rfl ?_
      first | refine s_yes rfl rfl (v_fieldAddr rfl (fo rfl)) rfl ?_ | refine s_no rfl rfl rfl rfl ?_ | refine s_no_undef rfl rfl rfl ?_
      first | refine s_yes rfl rfl (v_load1 rfl (sc rfl) (by first | exact hC.cell _ rfl | assumption)) rfl ?_ | refine s_no rfl rfl rfl rfl ?_ | refine s_no_undef rfl rfl rfl ?_
      refine s_yes rfl rfl (v_len rfl (so rfl) rfl) rfl ?_
      refine s_yes rfl rfl (v_leT rfl rfl h3) rfl ?_
      refine s_val (v_pick rfl rfl rfl) rfl ?_
      refine s_val (v_move rfl) rfl ?_
      first | refine s_yes rfl rfl (v_fieldAddr rfl (fo rfl)) rfl ?_ | refine s_no rfl rfl rfl rfl ?_ | refine s_no_undef rfl rfl rfl ?_
      first | refine s_yes rfl rfl (v_load1 rfl (sc rfl) (by first | exact hC.cell _ rfl | assumption)) rfl ?_ | refine s_no rfl rfl rfl rfl ?_ | refine s_no_undef rfl rfl rfl ?_
      refine s_yes rfl rfl (v_len rfl (so rfl) rfl) rfl ?_
      refine s_yes rfl rfl (v_leF rfl rfl h4) rfl ?_
      refine s_val (v_pick rfl rfl rfl) rfl ?_
      refine s_val (v_move rfl) rfl ?_
      first | refine s_yes rfl rfl (v_fieldAddr rfl (fo rfl)) rfl ?_ | refine s_no rfl rfl rfl rfl ?_ | refine s_no_undef rfl rfl rfl ?_
      first | refine s_yes rfl rfl (v_load1 rfl (sc rfl) (by first | exact hC.cell _ rfl | assumption)) rfl ?_ | refine s_no rfl rfl rfl rfl ?_ | refine s_no_undef rfl rfl rfl ?_
      first | refine s_yes rfl rfl (v_geI rfl rfl) rfl ?_ | refine s_no rfl rfl rfl rfl ?_ | refine s_no_undef rfl rfl rfl ?_
      refine s_val (v_pick rfl rfl rfl) rfl ?_
      refine s_val (v_move rfl) rfl ?_
      first | refine s_yes rfl rfl (v_fieldAddr rfl (fo rfl)) rfl ?_ | refine s_no rfl rfl rfl rfl ?_ | refine s_no_undef rfl rfl rfl ?_
      first | refine s_yes rfl rfl (v_load1 rfl (sc rfl) (by first | exact hC.cell _ rfl | assumption)) rfl ?_ | refine s_no rfl rfl rfl rfl ?_ | refine s_no_undef rfl rfl rfl ?_
      first | refine s_yes rfl rfl (v_leI rfl rfl) rfl ?_ | refine s_no rfl rfl rfl rfl ?_ | refine s_no_undef rfl rfl rfl ?_
      refine s_val (v_pick rfl rfl rfl) rfl ?_
      refine s_val (v_assign rfl) rfl ?_
      repeat (first | refine t_seq ?_ | refine t_region ?_ | refine s_nil ?_ | refine p_then ?_ | refine t_ret ?_ | refine p_then_ret ?_ | refine p_block_ret ?_ | refine t_block ?_ | refine t_exit ?_ | refine p_then_exit ?_ | refine p_block_exit ?_ | refine p_block ?_ | refine t_skip ?_)
      exact ret1 rfl rfl ⟨_, rfl, hz, false, rfl, fun h => (by cases h), fun h => (by have := h.tot; have := h.lab1; have := h.lab; have := h.ctx; have := h.nonce; have := h.upd0; have := h.upd; omega)⟩
    by_cases h5 : q.upd ≥ 0
    case neg =>
      refine s_val (v_move rfl) rfl ?_
      refine s_val (v_leT rfl rfl ht) rfl ?_
      refine s_val (v_move rfl) rfl ?_
      first | refine s_yes rfl rfl (v_fieldAddr rfl (fo rfl)) rfl ?_ | refine s_no rfl rfl rfl rfl ?_ | refine s_no_undef rfl rfl rfl ?_
      first | refine s_yes rfl rfl (v_load1 rfl (sc rfl) (by first | exact hC.cell _ rfl | assumption)) rfl ?_ | refine s_no rfl rfl rfl rfl ?_ | refine s_no_undef rfl rfl rfl ?_
      refine s_yes rfl rfl (v_lenS rfl u9) rfl ?_
      refine s_yes rfl rfl (v_geT rfl rfl h1) rfl ?_
      refine s_val (v_pick rfl rfl rfl) rfl ?_
      refine s_val (v_move rfl) rfl ?_
      first | refine s_yes rfl rfl (v_fieldAddr rfl (fo rfl)) rfl ?_ | refine s_no rfl rfl rfl rfl ?_ | refine s_no_undef rfl rfl rfl ?_
      first | refine s_yes rfl rfl (v_load1 rfl (sc rfl) (by first | exact hC.cell _ rfl | assumption)) rfl ?_ | refine s_no rfl rfl rfl rfl ?_ | refine s_no_undef rfl rfl rfl ?_
      refine s_yes rfl rfl (v_lenS rfl u9) rfl ?_
      refine s_yes rfl rfl (v_leT rfl rfl h2) rfl ?_
      refine s_val (v_pick rfl rfl rfl) rfl ?_
      refine s_val (v_move rfl) rfl ?_
      first | refine s_yes rfl rfl (v_fieldAddr rfl (fo rfl)) rfl ?_ | refine s_no rfl rfl rfl rfl ?_ | refine s_no_undef rfl rfl rfl ?_
      first | refine s_yes rfl rfl (v_load1 rfl (sc rfl) (by first | exact hC.cell _ rfl | assumption)) rfl ?_ | refine s_no rfl rfl rfl rfl ?_ | refine s_no_undef rfl rfl rfl ?_
      refine s_yes rfl rfl (v_len rfl (so rfl) rfl) rfl ?_
      refine s_yes rfl rfl (v_leT rfl rfl h3) rfl ?_
      refine s_val (v_pick rfl rfl rfl) rfl ?_
      refine s_val (v_move rfl) rfl ?_
      first | refine s_yes rfl rfl (v_fieldAddr rfl (fo rfl)) rfl ?_ | refine s_no rfl rfl rfl rfl ?_ | refine s_no_undef rfl rfl rfl ?_
      first | refine s_yes rfl rfl (v_load1 rfl (sc rfl) (by first | exact hC.cell _ rfl | assumption)) rfl ?_ | refine s_no rfl rfl rfl rfl ?_ | refine s_no_undef rfl rfl rfl ?_
      refine s_yes rfl rfl (v_len rfl (so rfl) rfl) rfl ?_
      refine s_yes rfl rfl (v_leT rfl rfl h4) rfl ?_
      refine s_val (v_pick rfl rfl rfl) rfl ?_
      refine s_val (v_move rfl) rfl ?_
      first | refine s_yes rfl rfl (v_fieldAddr rfl (fo rfl)) rfl ?_ | refine s_no rfl rfl rfl rfl ?_ | refine s_no_undef rfl rfl rfl ?_
      first | refine s_yes rfl rfl (v_load1 rfl (sc rfl) (by first | exact hC.cell _ rfl | assumption)) rfl ?_ | refine s_no rfl rfl rfl rfl ?_ | refine s_no_undef rfl rfl rfl ?_
      refine s_yes rfl rfl (v_geF rfl rfl h5) rfl ?_
      refine s_val (v_pick rfl rfl rfl) rfl ?_
      refine s_val (v_move rfl) rfl ?_
      first | refine s_yes rfl rfl (v_fieldAddr rfl (fo rfl)) rfl ?_ | refine s_no rfl rfl rfl rfl ?_ | refine s_no_undef rfl rfl rfl ?_
      first | refine s_yes rfl rfl (v_load1 rfl (sc rfl) (by first | exact hC.cell _ rfl | assumption)) rfl ?_ | refine s_no rfl rfl rfl rfl ?_ | refine s_no_undef rfl rfl rfl ?_
      first | refine s_yes rfl rfl (v_leI rfl rfl) rfl ?_ | refine s_no rfl rfl rfl rfl ?_ | refine s_no_undef rfl rfl rfl ?_
      refine s_val (v_pick rfl rfl rfl) rfl ?_
      refine s_val (v_assign rfl) rfl ?_
      repeat (first | refine t_seq ?_ | refine t_region ?_ | refine s_nil ?_ | refine p_then ?_ | refine t_ret ?_ | refine p_then_ret ?_ | refine p_block_ret ?_ | refine t_block ?_ | refine t_exit ?_ | refine p_then_exit ?_ | refine p_block_exit ?_ | refine p_block ?_ | refine t_skip ?_)
      exact ret1 rfl rfl ⟨_, rfl, hz, false, rfl, fun h => (by cases h), fun h => (by have := h.tot; have := h.lab1; have := h.lab; have := h.ctx; have := h.nonce; have := h.upd0; have := h.upd; omega)⟩
    by_cases h6 : q.upd ≤ 5
    case neg =>
      refine s_val (v_move rfl) rfl ?_
      refine s_val (v_leT rfl rfl ht) rfl ?_
      refine s_val (v_move rfl) rfl ?_
      first | refine s_yes rfl rfl (v_fieldAddr rfl (fo rfl)) rfl ?_ | refine s_no rfl rfl rfl rfl ?_ | refine s_no_undef rfl rfl rfl ?_
      first | refine s_yes rfl rfl (v_load1 rfl (sc rfl) (by first | exact hC.cell _ rfl | assumption)) rfl ?_ | refine s_no rfl rfl rfl rfl ?_ | refine s_no_undef rfl rfl rfl ?_
      refine s_yes rfl rfl (v_lenS rfl u9) rfl ?_
      refine s_yes rfl rfl (v_geT rfl rfl h1) rfl ?_
      refine s_val (v_pick rfl rfl rfl) rfl ?_
      refine s_val (v_move rfl) rfl ?_
      first | refine s_yes rfl rfl (v_fieldAddr rfl (fo rfl)) rfl ?_ | refine s_no rfl rfl rfl rfl ?_ | refine s_no_undef rfl rfl rfl ?_
      first | refine s_yes rfl rfl (v_load1 rfl (sc rfl) (by first | exact hC.cell _ rfl | assumption)) rfl ?_ | refine s_no rfl rfl rfl rfl ?_ | refine s_no_undef rfl rfl rfl ?_
      refine s_yes rfl rfl (v_lenS rfl u9) rfl ?_
      refine s_yes rfl rfl (v_leT rfl rfl h2) rfl ?_
      refine s_val (v_pick rfl rfl rfl) rfl ?_
      refine s_val (v_move rfl) rfl ?_
      first | refine s_yes rfl rfl (v_fieldAddr rfl (fo rfl)) rfl ?_ | refine s_no rfl rfl rfl rfl ?_ | refine s_no_undef rfl rfl rfl ?_
      first | refine s_yes rfl rfl (v_load1 rfl (sc rfl) (by first | exact hC.cell _ rfl | assumption)) rfl ?_ | refine s_no rfl rfl rfl rfl ?_ | refine s_no_undef rfl rfl rfl ?_
      refine s_yes rfl rfl (v_len rfl (so rfl) rfl) rfl ?_
      refine s_yes rfl rfl (v_leT rfl rfl h3) rfl ?_
      refine s_val (v_pick rfl rfl rfl) rfl ?_
      refine s_val (v_move rfl) rfl ?_
      first | refine s_yes rfl rfl (v_fieldAddr rfl (fo rfl)) rfl ?_ | refine s_no rfl rfl rfl rfl ?_ | refine s_no_undef rfl rfl rfl ?_
      first | refine s_yes rfl rfl (v_load1 rfl (sc rfl) (by first | exact hC.cell _ rfl | assumption)) rfl ?_ | refine s_no rfl rfl rfl rfl ?_ | refine s_no_undef rfl rfl rfl ?_
      refine s_yes rfl rfl (v_len rfl (so rfl) rfl) rfl ?_
      refine s_yes rfl rfl (v_leT rfl rfl h4) rfl ?_
      refine s_val (v_pick rfl rfl rfl) rfl ?_
      refine s_val (v_move rfl) rfl ?_
      first | refine s_yes rfl rfl (v_fieldAddr rfl (fo rfl)) rfl ?_ | refine s_no rfl rfl rfl rfl ?_ | refine s_no_undef rfl rfl rfl ?_
      first | refine s_yes rfl rfl (v_load1 rfl (sc rfl) (by first | exact hC.cell _ rfl | assumption)) rfl ?_ | refine s_no rfl rfl rfl rfl ?_ | refine s_no_undef rfl rfl rfl ?_
      refine s_yes rfl rfl (v_geT rfl rfl h5) rfl ?_
      refine s_val (v_pick rfl rfl rfl) rfl ?_
      refine s_val (v_move rfl) rfl ?_
      first | refine s_yes rfl rfl (v_fieldAddr rfl (fo rfl)) rfl ?_ | refine s_no rfl rfl rfl rfl ?_ | refine s_no_undef rfl rfl rfl ?_
      first | refine s_yes rfl rfl (v_load1 rfl (sc rfl) (by first | exact hC.cell _ rfl | assumption)) rfl ?_ | refine s_no rfl rfl rfl rfl ?_ | refine s_no_undef rfl rfl rfl ?_
      refine s_yes rfl rfl (v_leF rfl rfl h6) rfl ?_
      refine s_val (v_pick rfl rfl rfl) rfl ?_
      refine s_val (v_assign rfl) rfl ?_
      repeat (first | refine t_seq ?_ | refine t_region ?_ | refine s_nil ?_ | refine p_then ?_ | refine t_ret ?_ | refine p_then_ret ?_ | refine p_block_ret ?_ | refine t_block ?_ | refine t_exit ?_ | refine p_then_exit ?_ | refine p_block_exit ?_ | refine p_block ?_ | refine t_skip ?_)
      exact ret1 rfl rfl ⟨_, rfl, hz, false, rfl, fun h => (by cases h), fun h => (by have := h.tot; have := h.lab1; have := h.lab; have := h.ctx; have := h.nonce; have := h.upd0; have := h.upd; omega)⟩
    have hok : q.Fit := ⟨by omega, by omega, by omega, by omega, by omega, by omega, by omega⟩
    refine s_val (v_move rfl) rfl ?_
    refine s_val (v_leT rfl rfl ht) rfl ?_
    refine s_val (v_move rfl) rfl ?_
    first | refine s_yes rfl rfl (v_fieldAddr rfl (fo rfl)) rfl ?_ | refine s_no rfl rfl rfl rfl ?_ | refine s_no_undef rfl rfl rfl ?_
    first | refine s_yes rfl rfl (v_load1 rfl (sc rfl) (by first | exact hC.cell _ rfl | assumption)) rfl ?_ | refine s_no rfl rfl rfl rfl ?_ | refine s_no_undef rfl rfl rfl ?_
    refine s_yes rfl rfl (v_lenS rfl u9) rfl ?_
    refine s_yes rfl rfl (v_geT rfl rfl h1) rfl ?_
    refine s_val (v_pick rfl rfl rfl) rfl ?_
    refine s_val (v_move rfl) rfl ?_
    first | refine s_yes rfl rfl (v_fieldAddr rfl (fo rfl)) rfl ?_ | refine s_no rfl rfl rfl rfl ?_ | refine s_no_undef rfl rfl rfl ?_
    first | refine s_yes rfl rfl (v_load1 rfl (sc rfl) (by first | exact hC.cell _ rfl | assumption)) rfl ?_ | refine s_no rfl rfl rfl rfl ?_ | refine s_no_undef rfl rfl rfl ?_
    refine s_yes rfl rfl (v_lenS rfl u9) rfl ?_
    refine s_yes rfl rfl (v_leT rfl rfl h2) rfl ?_
    refine s_val (v_pick rfl rfl rfl) rfl ?_
    refine s_val (v_move rfl) rfl ?_
    first | refine s_yes rfl rfl (v_fieldAddr rfl (fo rfl)) rfl ?_ | refine s_no rfl rfl rfl rfl ?_ | refine s_no_undef rfl rfl rfl ?_
    first | refine s_yes rfl rfl (v_load1 rfl (sc rfl) (by first | exact hC.cell _ rfl | assumption)) rfl ?_ | refine s_no rfl rfl rfl rfl ?_ | refine s_no_undef rfl rfl rfl ?_
    refine s_yes rfl rfl (v_len rfl (so rfl) rfl) rfl ?_
    refine s_yes rfl rfl (v_leT rfl rfl h3) rfl ?_
    refine s_val (v_pick rfl rfl rfl) rfl ?_
    refine s_val (v_move rfl) rfl ?_
    first | refine s_yes rfl rfl (v_fieldAddr rfl (fo rfl)) rfl ?_ | refine s_no rfl rfl rfl rfl ?_ | refine s_no_undef rfl rfl rfl ?_
    first | refine s_yes rfl rfl (v_load1 rfl (sc rfl) (by first | exact hC.cell _ rfl | assumption)) rfl ?_ | refine s_no rfl rfl rfl rfl ?_ | refine s_no_undef rfl rfl rfl ?_
    refine s_yes rfl rfl (v_len rfl (so rfl) rfl) rfl ?_
    refine s_yes rfl rfl (v_leT rfl rfl h4) rfl ?_
    refine s_val (v_pick rfl rfl rfl) rfl ?_
    refine s_val (v_move rfl) rfl ?_
    first | refine s_yes rfl rfl (v_fieldAddr rfl (fo rfl)) rfl ?_ | refine s_no rfl rfl rfl rfl ?_ | refine s_no_undef rfl rfl rfl ?_
    first | refine s_yes rfl rfl (v_load1 rfl (sc rfl) (by first | exact hC.cell _ rfl | assumption)) rfl ?_ | refine s_no rfl rfl rfl rfl ?_ | refine s_no_undef rfl rfl rfl ?_
    refine s_yes rfl rfl (v_geT rfl rfl h5) rfl ?_
    refine s_val (v_pick rfl rfl rfl) rfl ?_
    refine s_val (v_move rfl) rfl ?_
    first | refine s_yes rfl rfl (v_fieldAddr rfl (fo rfl)) rfl ?_ | refine s_no rfl rfl rfl rfl ?_ | refine s_no_undef rfl rfl rfl ?_
    first | refine s_yes rfl rfl (v_load1 rfl (sc rfl) (by first | exact hC.cell _ rfl | assumption)) rfl ?_ | refine s_no rfl rfl rfl rfl ?_ | refine s_no_undef rfl rfl rfl ?_
    refine s_yes rfl rfl (v_leT rfl rfl h6) rfl ?_
    refine s_val (v_pick rfl rfl rfl) rfl ?_
    refine s_val (v_assign rfl) rfl ?_
    repeat (first | refine t_seq ?_ | refine t_region ?_ | refine s_nil ?_ | refine p_then ?_ | refine t_ret ?_ | refine p_then_ret ?_ | refine p_block_ret ?_ | refine t_block ?_ | refine t_exit ?_ | refine p_then_exit ?_ | refine p_block_exit ?_ | refine p_block ?_ | refine t_skip ?_)
    exact ret1 rfl rfl ⟨_, rfl, hz, true, rfl, fun _ => hok, fun _ => rfl⟩
end Go.Proofs.YtnaefgnjdmmmcaaGreatDoor
