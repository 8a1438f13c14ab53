/-
  What is proved here, of the given program in the given model, of every input, with no condition but those that each theorem states ahead of its conclusion: SHA-256's checkSum and Sum in the program. hmac.New's guarded closures: 'marshal' whether the two hashes are one; a deferred function that recovers nothing. A HASH, WHICHEVER, in the program: its state in memory, its methods, through an interface or not; the functions that make one. HMAC in the program: Write, Sum, Reset, MarkAsUsedInKDF. HMAC in the program: Sum. HMAC in the program: Reset, of a hash that cannot be marshalled. HMAC in the program, before its making is done: words and rules for hmac.New. The closures that lay a hash behind an interface.
-/
import Derived.Test.YtnaefgnjdmmmcaaGreatDoorM03
import Derived.Tactics
import Derived.Tactics2
import Derived.Defers
import Derived.Recover
import Derived.Laws.Pointers
import Derived.LaidEqlPtr
import Derived.BigRegion
/- SHA-256's checkSum and Sum in the program. -/
namespace Go.Proofs.YtnaefgnjdmmmcaaGreatDoor
open Go.RowKit
attribute [local irreducible] ValAt OpAt RunX Tr Post FlowK

theorem ua100 : ∃ fs, Tryz.prog.underlying 100 = some (.struct fs) := by
  have h : (match Tryz.prog.underlying 100 with | some (.struct _) => true | _ => false) = true := by kernel_rfl
  cases hu : Tryz.prog.underlying 100 with
  | none => rw [hu] at h; cases h
  | some u => rw [hu] at h; cases u <;> first | exact ⟨_, rfl⟩ | cases h
theorem oneCells {cs : List UInt8} : ∀ v ∈ (cs.map B).toArray.toList, v.oneCell' = true := fun v hv => by
  obtain ⟨b, _, rfl⟩ := List.mem_map.1 hv; rfl
theorem dgs_one (v : Regs) (x : Bytes) (nx len : Nat) : ∀ u ∈ (dgs v x nx len).toArray.toList, u.oneCell' = true := fun u hu => by
  simp only [dgs, List.mem_cons, List.mem_append, List.mem_map] at hu
  rcases hu with rfl | rfl | rfl | rfl | rfl | rfl | rfl | rfl | ⟨b, _, rfl⟩ | rfl | rfl | h
  all_goals first | rfl | skip
  rcases h with rfl | h
  · rfl
  · cases h
theorem pad_bytes (n t : Nat) (ht : t = if n % 64 < 56 then 56 - n % 64 else 120 - n % 64) : (spl ((zeros 72).set 0 0x80) t (be64 (8 * n))).take (t + 8) = padding n := by
  have hl : (be64 (8 * n)).length = 8 := rfl
  have h1 : 1 ≤ t ∧ t ≤ 64 := by rw [ht]; split <;> omega
  have hp : padZeros n = t - 1 := by rw [ht]; unfold padZeros; split <;> omega
  rw [spl, ← List.append_assoc, padding, hp]
  have e1 : ((zeros 72).set 0 0x80).take t = 0x80 :: zeros (t - 1) := by
    obtain ⟨k, rfl⟩ : ∃ k, t = k + 1 := ⟨t - 1, by omega⟩
    show (0x80 :: zeros 71).take (k + 1) = _
    rw [List.take_succ_cons, zeros, List.take_replicate, Nat.min_eq_left (by omega)]; rfl
  rw [e1]
  have e2 : t + 8 = (0x80 :: zeros (t - 1) ++ be64 (8 * n)).length := by simp [zeros, hl]; omega
  rw [e2, List.take_left]
  rfl

def put4 (l : Bytes) (i : Nat) (x : UInt32) : Bytes := (((l.set i (x >>> 24).toUInt8).set (i + 1) (x >>> 16).toUInt8).set (i + 2) (x >>> 8).toUInt8).set (i + 3) x.toUInt8
theorem put4_at (pre : Bytes) (k : Nat) (x : UInt32) (i : Nat) (hi : i = pre.length) : put4 (pre ++ zeros (4 + k)) i x = (pre ++ be32 x) ++ zeros k := by
  subst hi
  rw [show zeros (4 + k) = 0 :: 0 :: 0 :: 0 :: zeros k from by rw [zeros, Nat.add_comm]; rfl]
  have s0 := set_app pre (0 :: 0 :: 0 :: 0 :: zeros k) 0 (x >>> 24).toUInt8
  rw [Nat.add_zero] at s0
  simp only [put4, s0, List.set_cons_zero, set_app, List.set_cons_succ]
  simp [be32]
theorem puts_bytes (v : Regs) : (put4 (put4 (put4 (put4 (put4 (put4 (put4 (put4 (zeros 32) (0 + 0) v.a) (0 + 4) v.b) (0 + 8) v.c) (0 + 12) v.d) (0 + 16) v.e) (0 + 20) v.f) (0 + 24) v.g) (0 + 28) v.h) = v.bytes := by
  rw [show zeros 32 = [] ++ zeros (4 + 28) from rfl, put4_at [] 28 _ (0 + 0) rfl, show zeros 28 = zeros (4 + 24) from rfl, put4_at _ 24 _ _ (by simp [be32]), show zeros 24 = zeros (4 + 20) from rfl, put4_at _ 20 _ _ (by simp [be32]), show zeros 20 = zeros (4 + 16) from rfl, put4_at _ 16 _ _ (by simp [be32]), show zeros 16 = zeros (4 + 12) from rfl, put4_at _ 12 _ _ (by simp [be32]), show zeros 12 = zeros (4 + 8) from rfl, put4_at _ 8 _ _ (by simp [be32]), show zeros 8 = zeros (4 + 4) from rfl, put4_at _ 4 _ _ (by simp [be32]), show zeros 4 = zeros (4 + 0) from rfl, put4_at _ 0 _ _ (by simp [be32])]
  simp [zeros, Regs.bytes]
set_option maxHeartbeats 1000000 in
/-- (*sha256.Digest).checkSum -/
theorem c88 (g : Nat) (data : Bytes) (w : World) (hS : ShaAt w g data) (hK : KT w) (h0 : g ≠ 0) (hn : data.length < 900000000) :
    Calls Tryz.prog 88 #[pt g 0] w (Ret [g] w fun v w' => v = .agg ((sha data).map B).toArray ∧ ShaAt w' g (data ++ padding data.length)) := by
  obtain ⟨body, pend, x, hd, hS0⟩ := id hS
  have hx := hS0.len
  have hB := hS0.blk
  have hg := hB.lt
  refine enter (Γ := [(0, .ex (pt g 0))]) Tryz.func88 rfl rfl rfl ⟨⟨_, rfl, rfl⟩, trivial⟩ ?_
  repeat (first | refine t_seq ?_ | refine t_region ?_ | refine s_nil ?_ | refine p_then ?_ | refine t_ret ?_ | refine p_then_ret ?_ | refine p_block_ret ?_ | refine t_block ?_ | refine t_exit ?_ | refine p_then_exit ?_ | refine p_block_exit ?_ | refine p_block ?_ | refine t_skip ?_)
  refine s_op (o_alloc zc108) rfl rfl ?_
  rintro _ w1 hw1 ⟨rfl, hB1⟩
  repeat (first | refine t_seq ?_ | refine t_region ?_ | refine s_nil ?_ | refine p_then ?_ | refine t_ret ?_ | refine p_then_ret ?_ | refine p_block_ret ?_ | refine t_block ?_ | refine t_exit ?_ | refine p_then_exit ?_ | refine p_block_exit ?_ | refine p_block ?_ | refine t_skip ?_)
  refine s_val (v_move rfl) rfl ?_
  first | refine s_val (v_nilCheck rfl) rfl ?_ | refine s_val (v_nilCheck_iface rfl) rfl ?_
  refine s_val (v_fieldAddr rfl (fo rfl)) rfl ?_
  refine s_val (v_load1 rfl (sc rfl) (by first | exact (hB.only hw1 (by simp)).cell _ (dgs_len _ hx _ _) | assumption)) rfl ?_
  refine s_val (v_assign rfl) rfl ?_
  repeat (first | refine t_seq ?_ | refine t_region ?_ | refine s_nil ?_ | refine p_then ?_ | refine t_ret ?_ | refine p_then_ret ?_ | refine p_block_ret ?_ | refine t_block ?_ | refine t_exit ?_ | refine p_then_exit ?_ | refine p_block_exit ?_ | refine p_block ?_ | refine t_skip ?_)
  refine s_op (o_alloc zc115) rfl rfl ?_
  rintro _ w2 hw2 ⟨rfl, hB2⟩
  have hB2' : Blk w2 w1.heap.size 115 ((zeros 72).map B).toArray := by simpa [zeros] using hB2
  repeat (first | refine t_seq ?_ | refine t_region ?_ | refine s_nil ?_ | refine p_then ?_ | refine t_ret ?_ | refine p_then_ret ?_ | refine p_block_ret ?_ | refine t_block ?_ | refine t_exit ?_ | refine p_then_exit ?_ | refine p_block_exit ?_ | refine p_block ?_ | refine t_skip ?_)
  refine s_val (v_indexArr rfl opc (al rfl) (by omega)) rfl ?_
  refine s_storeB rfl (opb (c := 128) rfl) (si rfl) hB2' (by simp [zeros]) rfl (fun w3 hw3 hB3 => ?_)
  repeat (first | refine t_seq ?_ | refine t_region ?_ | refine s_nil ?_ | refine p_then ?_ | refine t_ret ?_ | refine p_then_ret ?_ | refine p_block_ret ?_ | refine t_block ?_ | refine t_exit ?_ | refine p_then_exit ?_ | refine p_block_exit ?_ | refine p_block ?_ | refine t_skip ?_)
  refine s_val (v_assign rfl) rfl ?_
  refine s_nil (p_then ?_)
  refine t_cut (fun t : Nat => [(0, .ex (pt g 0)), (2, .ex (pt w.heap.size 0)), (3, .ex (L data.length)), (4, .ex (pt w1.heap.size 0)), (5, .ex (L t))])
    (fun t w' => w3 = w' ∧ t = if data.length % 64 < 56 then 56 - data.length % 64 else 120 - data.length % 64) ?_ ?_
  · repeat (first | refine t_seq ?_ | refine t_region ?_ | refine s_nil ?_ | refine p_then ?_ | refine t_ret ?_ | refine p_then_ret ?_ | refine p_block_ret ?_ | refine t_block ?_ | refine t_exit ?_ | refine p_then_exit ?_ | refine p_block_exit ?_ | refine p_block ?_ | refine t_skip ?_)
    refine s_val (v_move rfl) rfl ?_
    refine s_val (v_remL rfl opc (by omega)) rfl ?_
    refine s_val (v_ltK rfl rfl) rfl ?_
    repeat (first | refine t_seq ?_ | refine t_region ?_ | refine s_nil ?_ | refine p_then ?_ | refine t_ret ?_ | refine p_then_ret ?_ | refine p_block_ret ?_ | refine t_block ?_ | refine t_exit ?_ | refine p_then_exit ?_ | refine p_block_exit ?_ | refine p_block ?_ | refine t_skip ?_)
    refine t_if rfl (fun hb => ?_) (fun hb => ?_)
    · have h56 : data.length % 64 < 56 := by have := of_decide_eq_true hb; omega
      repeat (first | refine t_seq ?_ | refine t_region ?_ | refine s_nil ?_ | refine p_then ?_ | refine t_ret ?_ | refine p_then_ret ?_ | refine p_block_ret ?_ | refine t_block ?_ | refine t_exit ?_ | refine p_then_exit ?_ | refine p_block_exit ?_ | refine p_block ?_ | refine t_skip ?_)
      refine s_val (v_move rfl) rfl ?_
      refine s_val (v_remL rfl opc (by omega)) rfl ?_
      refine s_val (v_subL opc rfl (by omega) (by omega)) rfl ?_
      refine s_val (v_assign rfl) rfl ?_
      repeat (first | refine t_seq ?_ | refine t_region ?_ | refine s_nil ?_ | refine p_then ?_ | refine t_ret ?_ | refine p_then_ret ?_ | refine p_block_ret ?_ | refine t_block ?_ | refine t_exit ?_ | refine p_then_exit ?_ | refine p_block_exit ?_ | refine p_block ?_ | refine t_skip ?_)
      exact p_cut (56 - data.length % 64) ⟨rfl, rfl, rfl, rfl, rfl, trivial⟩ ⟨rfl, by rw [if_pos h56]⟩
    · have h56 : ¬ data.length % 64 < 56 := by have := of_decide_eq_false hb; omega
      repeat (first | refine t_seq ?_ | refine t_region ?_ | refine s_nil ?_ | refine p_then ?_ | refine t_ret ?_ | refine p_then_ret ?_ | refine p_block_ret ?_ | refine t_block ?_ | refine t_exit ?_ | refine p_then_exit ?_ | refine p_block_exit ?_ | refine p_block ?_ | refine t_skip ?_)
      refine s_val (v_move rfl) rfl ?_
      refine s_val (v_remL rfl opc (by omega)) rfl ?_
      refine s_val (v_subL opc rfl (by omega) (by omega)) rfl ?_
      refine s_val (v_assign rfl) rfl ?_
      repeat (first | refine t_seq ?_ | refine t_region ?_ | refine s_nil ?_ | refine p_then ?_ | refine t_ret ?_ | refine p_then_ret ?_ | refine p_block_ret ?_ | refine t_block ?_ | refine t_exit ?_ | refine p_then_exit ?_ | refine p_block_exit ?_ | refine p_block ?_ | refine t_skip ?_)
      exact p_cut (120 - data.length % 64) ⟨rfl, rfl, rfl, rfl, rfl, trivial⟩ ⟨rfl, by rw [if_neg h56]⟩
  rintro t _ ⟨rfl, ht⟩
  have ht64 : 1 ≤ t ∧ t ≤ 64 := by rw [ht]; split <;> omega
  repeat (first | refine t_seq ?_ | refine t_region ?_ | refine s_nil ?_ | refine p_then ?_ | refine t_ret ?_ | refine p_then_ret ?_ | refine p_block_ret ?_ | refine t_block ?_ | refine t_exit ?_ | refine p_then_exit ?_ | refine p_block_exit ?_ | refine p_block ?_ | refine t_skip ?_)
  refine s_val (v_move rfl) rfl ?_
  refine s_val (v_shlL rfl opc (by omega) (by omega)) rfl ?_
  refine s_val (v_assign rfl) rfl ?_
  repeat (first | refine t_seq ?_ | refine t_region ?_ | refine s_nil ?_ | refine p_then ?_ | refine t_ret ?_ | refine p_then_ret ?_ | refine p_block_ret ?_ | refine t_block ?_ | refine t_exit ?_ | refine p_then_exit ?_ | refine p_block_exit ?_ | refine p_block ?_ | refine t_skip ?_)
  refine s_val (v_move rfl) rfl ?_
  refine s_val (v_addL rfl opc (by omega)) rfl ?_
  refine s_val (v_sliceArrHi rfl rfl (al rfl) (by omega)) rfl ?_
  refine s_val (v_assign rfl) rfl ?_
  have hs1 := hB1.lt
  have hs2 := hB2.lt
  have hs3 := hw3.size
  have ho1 : Only [g] w w1 := hw1.mono (by simp)
  have ho3 := (ho1.trans_new hw2 (by simp)).trans_new hw3 (by simp; omega)
  have hz3 : Only [] w w3 := (hw1.trans hw2).trans_new hw3 (by simp; omega)
  have hR3 := (hB1.only hw2 (by simp)).only hw3 (by simp; omega)
  have hl3 : ((zeros 72).set (0 + 0) (UInt8.ofNat 128)).length = 72 := by simp [zeros]
  repeat (first | refine t_seq ?_ | refine t_region ?_ | refine s_nil ?_ | refine p_then ?_ | refine t_ret ?_ | refine p_then_ret ?_ | refine p_block_ret ?_ | refine t_block ?_ | refine t_exit ?_ | refine p_then_exit ?_ | refine p_block_exit ?_ | refine p_block ?_ | refine t_skip ?_)
  refine s_val (v_move rfl) rfl ?_
  refine s_val (v_move rfl) rfl ?_
  refine s_val (v_addL rfl opc (by omega)) rfl ?_
  refine s_val (v_sliceLoA rfl rfl (so rfl) (by omega) (by omega)) rfl ?_
  refine s_val (v_move rfl) rfl ?_
  refine s_op (o_call rfl (en rfl) (c101 w1.heap.size _ _ _ 115 _ _ w3 hB3 (by omega) (by rw [hl3]; omega))) rfl rfl ?_
  rintro _ w4 hw4 hB4
  have hs4 := hw4.size
  have hpb := pad_bytes data.length t ht
  have hpl : (padding data.length).length = t + 8 := by
    have := congrArg List.length hpb
    rw [← this, List.length_take, spl_length (by simp [zeros, be64]; omega)]
    simp [zeros]; omega
  have hrd : Rd w4 (some ⟨w1.heap.size, 0, none⟩) (padding data.length) := by
    have := hB4.rd 0 (t + 8)
    rw [List.drop_zero, show 0 + (t + 0) = t from by omega, show data.length * 2 ^ 3 = 8 * data.length from by omega] at this
    exact hpb ▸ this
  have hz4 : Only [] w w4 := hz3.trans_new hw4 (by simp; omega)
  have hS4 := hS.only hz4 (by simp)
  have ho4 := ho3.trans_new hw4 (by simp; omega)
  have hR4 := hR3.only hw4 (by simp; omega)
  have hcall := c66 g data (some ⟨w1.heap.size, 0, none⟩) 72 (padding data.length) w4 hS4 hrd (fun _ => Off.pt (by simp; omega)) (by omega) (hK.only hz4 (by simp)) h0 (by omega) (by omega)
  rw [hpl] at hcall
  repeat (first | refine t_seq ?_ | refine t_region ?_ | refine s_nil ?_ | refine p_then ?_ | refine t_ret ?_ | refine p_then_ret ?_ | refine p_block_ret ?_ | refine t_block ?_ | refine t_exit ?_ | refine p_then_exit ?_ | refine p_block_exit ?_ | refine p_block ?_ | refine t_skip ?_)
  refine s_val (v_move rfl) rfl ?_
  refine s_val (v_move rfl) rfl ?_
  refine s_op (o_call rfl (en rfl) hcall) rfl rfl ?_
  rintro _ w5 hw5 ⟨rfl, body5, pend5, x5, hd5, hS5⟩
  have hs5 := hw5.size
  have hpe : pend5 = [] := by
    have h1 := congrArg List.length hd5
    have h2 := padding_length data.length
    have h3 := hS5.whole
    have h4 := hS5.part
    simp only [List.length_append] at h1
    exact List.eq_nil_of_length_eq_zero (by omega)
  subst hpe
  rw [List.append_nil] at hd5
  subst hd5
  have hx5 := hS5.len
  have hD5 := hS5.blk
  have ho5 := ho4.trans hw5
  have hR5 := hR4.only hw5 (by simp; omega)
  repeat (first | refine t_seq ?_ | refine t_region ?_ | refine s_nil ?_ | refine p_then ?_ | refine t_ret ?_ | refine p_then_ret ?_ | refine p_block_ret ?_ | refine t_block ?_ | refine t_exit ?_ | refine p_then_exit ?_ | refine p_block_exit ?_ | refine p_block ?_ | refine t_skip ?_)
  refine s_val (v_move rfl) rfl ?_
  first | refine s_val (v_nilCheck rfl) rfl ?_ | refine s_val (v_nilCheck_iface rfl) rfl ?_
  refine s_val (v_fieldAddr rfl (fo rfl)) rfl ?_
  refine s_val (v_load1 rfl (sc rfl) (by first | exact hD5.cell _ (dgs_nx _ hx5 _ _) | assumption)) rfl ?_
  refine s_val (v_neI rfl rfl) rfl ?_
  repeat (first | refine t_seq ?_ | refine t_region ?_ | refine s_nil ?_ | refine p_then ?_ | refine t_ret ?_ | refine p_then_ret ?_ | refine p_block_ret ?_ | refine t_block ?_ | refine t_exit ?_ | refine p_then_exit ?_ | refine p_block_exit ?_ | refine p_block ?_ | refine t_skip ?_)
  refine t_false rfl ?_
  repeat (first | refine t_seq ?_ | refine t_region ?_ | refine s_nil ?_ | refine p_then ?_ | refine t_ret ?_ | refine p_then_ret ?_ | refine p_block_ret ?_ | refine t_block ?_ | refine t_exit ?_ | refine p_then_exit ?_ | refine p_block_exit ?_ | refine p_block ?_ | refine t_skip ?_)
  refine s_op (o_alloc zc108) rfl rfl ?_
  rintro _ w6 hw6 ⟨rfl, hB6⟩
  have hB6 : Blk w6 w5.heap.size 108 ((zeros 32).map B).toArray := by simpa [zeros] using hB6
  have hD6 := hD5.only hw6 (by simp)
  have hR6 := hR5.only hw6 (by simp)
  have ho6 := ho5.trans_new hw6 (by simp)
  repeat (first | refine t_seq ?_ | refine t_region ?_ | refine s_nil ?_ | refine p_then ?_ | refine t_ret ?_ | refine p_then_ret ?_ | refine p_block_ret ?_ | refine t_block ?_ | refine t_exit ?_ | refine p_then_exit ?_ | refine p_block_exit ?_ | refine p_block ?_ | refine t_skip ?_)
  refine t_drawO 6 (by kernel_rfl) rfl ?_
  refine fk_val (Only.refl _) (fun wF hR => v_sliceArrLo rfl opc (al rfl) (by omega)) ?_
  refine fk_val (Only.refl _) (fun wF hR => v_move rfl) ?_
  first | refine fk_val (Only.refl _) (fun wF hR => v_nilCheck rfl) ?_ | refine fk_val (Only.refl _) (fun wF hR => v_nilCheck_iface rfl) ?_
  refine fk_val (Only.refl _) (fun wF hR => v_fieldAddr rfl (fo rfl)) ?_
  refine fk_val (Only.refl _) (fun wF hR => v_indexArr rfl opc (al rfl) (by omega)) ?_
  refine fk_val (Only.refl _) (fun wF hR => v_load1 rfl (sc rfl) (by first | exact (hD6.only hR (by simp)).cell _ rfl | assumption)) ?_
  refine fk_nil (fun u7 hu7 => ?_)
  refine s_op (o_call rfl (en rfl) (c102 w5.heap.size _ _ _ 108 _ _ u7 (hB6.only hu7 (by simp)) (by omega) (by simp [zeros]))) rfl rfl ?_
  rintro _ w7 hw7 hB7
  have hD7 := (hD6.only hu7 (by simp)).only hw7 (by simp; omega)
  have hR7 := (hR6.only hu7 (by simp)).only hw7 (by simp; omega)
  have ho7 := (ho6.trans_new hu7 (by simp)).trans_new hw7 (by simp; omega)
  repeat (first | refine t_seq ?_ | refine t_region ?_ | refine s_nil ?_ | refine p_then ?_ | refine t_ret ?_ | refine p_then_ret ?_ | refine p_block_ret ?_ | refine t_block ?_ | refine t_exit ?_ | refine p_then_exit ?_ | refine p_block_exit ?_ | refine p_block ?_ | refine t_skip ?_)
  refine t_drawO 6 (by kernel_rfl) rfl ?_
  refine fk_val (Only.refl _) (fun wF hR => v_sliceArrLo rfl opc (al rfl) (by omega)) ?_
  refine fk_val (Only.refl _) (fun wF hR => v_move rfl) ?_
  first | refine fk_val (Only.refl _) (fun wF hR => v_nilCheck rfl) ?_ | refine fk_val (Only.refl _) (fun wF hR => v_nilCheck_iface rfl) ?_
  refine fk_val (Only.refl _) (fun wF hR => v_fieldAddr rfl (fo rfl)) ?_
  refine fk_val (Only.refl _) (fun wF hR => v_indexArr rfl opc (al rfl) (by omega)) ?_
  refine fk_val (Only.refl _) (fun wF hR => v_load1 rfl (sc rfl) (by first | exact (hD7.only hR (by simp)).cell _ rfl | assumption)) ?_
  refine fk_nil (fun u8 hu8 => ?_)
  refine s_op (o_call rfl (en rfl) (c102 w5.heap.size _ _ _ 108 _ _ u8 (hB7.only hu8 (by simp)) (by omega) (by simp [zeros]))) rfl rfl ?_
  rintro _ w8 hw8 hB8
  have hD8 := (hD7.only hu8 (by simp)).only hw8 (by simp; omega)
  have hR8 := (hR7.only hu8 (by simp)).only hw8 (by simp; omega)
  have ho8 := (ho7.trans_new hu8 (by simp)).trans_new hw8 (by simp; omega)
  repeat (first | refine t_seq ?_ | refine t_region ?_ | refine s_nil ?_ | refine p_then ?_ | refine t_ret ?_ | refine p_then_ret ?_ | refine p_block_ret ?_ | refine t_block ?_ | refine t_exit ?_ | refine p_then_exit ?_ | refine p_block_exit ?_ | refine p_block ?_ | refine t_skip ?_)
  refine t_drawO 6 (by kernel_rfl) rfl ?_
  refine fk_val (Only.refl _) (fun wF hR => v_sliceArrLo rfl opc (al rfl) (by omega)) ?_
  refine fk_val (Only.refl _) (fun wF hR => v_move rfl) ?_
  first | refine fk_val (Only.refl _) (fun wF hR => v_nilCheck rfl) ?_ | refine fk_val (Only.refl _) (fun wF hR => v_nilCheck_iface rfl) ?_
  refine fk_val (Only.refl _) (fun wF hR => v_fieldAddr rfl (fo rfl)) ?_
  refine fk_val (Only.refl _) (fun wF hR => v_indexArr rfl opc (al rfl) (by omega)) ?_
  refine fk_val (Only.refl _) (fun wF hR => v_load1 rfl (sc rfl) (by first | exact (hD8.only hR (by simp)).cell _ rfl | assumption)) ?_
  refine fk_nil (fun u9 hu9 => ?_)
  refine s_op (o_call rfl (en rfl) (c102 w5.heap.size _ _ _ 108 _ _ u9 (hB8.only hu9 (by simp)) (by omega) (by simp [zeros]))) rfl rfl ?_
  rintro _ w9 hw9 hB9
  have hD9 := (hD8.only hu9 (by simp)).only hw9 (by simp; omega)
  have hR9 := (hR8.only hu9 (by simp)).only hw9 (by simp; omega)
  have ho9 := (ho8.trans_new hu9 (by simp)).trans_new hw9 (by simp; omega)
  repeat (first | refine t_seq ?_ | refine t_region ?_ | refine s_nil ?_ | refine p_then ?_ | refine t_ret ?_ | refine p_then_ret ?_ | refine p_block_ret ?_ | refine t_block ?_ | refine t_exit ?_ | refine p_then_exit ?_ | refine p_block_exit ?_ | refine p_block ?_ | refine t_skip ?_)
  refine t_drawO 6 (by kernel_rfl) rfl ?_
  refine fk_val (Only.refl _) (fun wF hR => v_sliceArrLo rfl opc (al rfl) (by omega)) ?_
  refine fk_val (Only.refl _) (fun wF hR => v_move rfl) ?_
  first | refine fk_val (Only.refl _) (fun wF hR => v_nilCheck rfl) ?_ | refine fk_val (Only.refl _) (fun wF hR => v_nilCheck_iface rfl) ?_
  refine fk_val (Only.refl _) (fun wF hR => v_fieldAddr rfl (fo rfl)) ?_
  refine fk_val (Only.refl _) (fun wF hR => v_indexArr rfl opc (al rfl) (by omega)) ?_
  refine fk_val (Only.refl _) (fun wF hR => v_load1 rfl (sc rfl) (by first | exact (hD9.only hR (by simp)).cell _ rfl | assumption)) ?_
  refine fk_nil (fun u10 hu10 => ?_)
  refine s_op (o_call rfl (en rfl) (c102 w5.heap.size _ _ _ 108 _ _ u10 (hB9.only hu10 (by simp)) (by omega) (by simp [zeros]))) rfl rfl ?_
  rintro _ w10 hw10 hB10
  have hD10 := (hD9.only hu10 (by simp)).only hw10 (by simp; omega)
  have hR10 := (hR9.only hu10 (by simp)).only hw10 (by simp; omega)
  have ho10 := (ho9.trans_new hu10 (by simp)).trans_new hw10 (by simp; omega)
  repeat (first | refine t_seq ?_ | refine t_region ?_ | refine s_nil ?_ | refine p_then ?_ | refine t_ret ?_ | refine p_then_ret ?_ | refine p_block_ret ?_ | refine t_block ?_ | refine t_exit ?_ | refine p_then_exit ?_ | refine p_block_exit ?_ | refine p_block ?_ | refine t_skip ?_)
  refine t_drawO 6 (by kernel_rfl) rfl ?_
  refine fk_val (Only.refl _) (fun wF hR => v_sliceArrLo rfl opc (al rfl) (by omega)) ?_
  refine fk_val (Only.refl _) (fun wF hR => v_move rfl) ?_
  first | refine fk_val (Only.refl _) (fun wF hR => v_nilCheck rfl) ?_ | refine fk_val (Only.refl _) (fun wF hR => v_nilCheck_iface rfl) ?_
  refine fk_val (Only.refl _) (fun wF hR => v_fieldAddr rfl (fo rfl)) ?_
  refine fk_val (Only.refl _) (fun wF hR => v_indexArr rfl opc (al rfl) (by omega)) ?_
  refine fk_val (Only.refl _) (fun wF hR => v_load1 rfl (sc rfl) (by first | exact (hD10.only hR (by simp)).cell _ rfl | assumption)) ?_
  refine fk_nil (fun u11 hu11 => ?_)
  refine s_op (o_call rfl (en rfl) (c102 w5.heap.size _ _ _ 108 _ _ u11 (hB10.only hu11 (by simp)) (by omega) (by simp [zeros]))) rfl rfl ?_
  rintro _ w11 hw11 hB11
  have hD11 := (hD10.only hu11 (by simp)).only hw11 (by simp; omega)
  have hR11 := (hR10.only hu11 (by simp)).only hw11 (by simp; omega)
  have ho11 := (ho10.trans_new hu11 (by simp)).trans_new hw11 (by simp; omega)
  repeat (first | refine t_seq ?_ | refine t_region ?_ | refine s_nil ?_ | refine p_then ?_ | refine t_ret ?_ | refine p_then_ret ?_ | refine p_block_ret ?_ | refine t_block ?_ | refine t_exit ?_ | refine p_then_exit ?_ | refine p_block_exit ?_ | refine p_block ?_ | refine t_skip ?_)
  refine t_drawO 6 (by kernel_rfl) rfl ?_
  refine fk_val (Only.refl _) (fun wF hR => v_sliceArrLo rfl opc (al rfl) (by omega)) ?_
  refine fk_val (Only.refl _) (fun wF hR => v_move rfl) ?_
  first | refine fk_val (Only.refl _) (fun wF hR => v_nilCheck rfl) ?_ | refine fk_val (Only.refl _) (fun wF hR => v_nilCheck_iface rfl) ?_
  refine fk_val (Only.refl _) (fun wF hR => v_fieldAddr rfl (fo rfl)) ?_
  refine fk_val (Only.refl _) (fun wF hR => v_indexArr rfl opc (al rfl) (by omega)) ?_
  refine fk_val (Only.refl _) (fun wF hR => v_load1 rfl (sc rfl) (by first | exact (hD11.only hR (by simp)).cell _ rfl | assumption)) ?_
  refine fk_nil (fun u12 hu12 => ?_)
  refine s_op (o_call rfl (en rfl) (c102 w5.heap.size _ _ _ 108 _ _ u12 (hB11.only hu12 (by simp)) (by omega) (by simp [zeros]))) rfl rfl ?_
  rintro _ w12 hw12 hB12
  have hD12 := (hD11.only hu12 (by simp)).only hw12 (by simp; omega)
  have hR12 := (hR11.only hu12 (by simp)).only hw12 (by simp; omega)
  have ho12 := (ho11.trans_new hu12 (by simp)).trans_new hw12 (by simp; omega)
  repeat (first | refine t_seq ?_ | refine t_region ?_ | refine s_nil ?_ | refine p_then ?_ | refine t_ret ?_ | refine p_then_ret ?_ | refine p_block_ret ?_ | refine t_block ?_ | refine t_exit ?_ | refine p_then_exit ?_ | refine p_block_exit ?_ | refine p_block ?_ | refine t_skip ?_)
  refine t_drawO 6 (by kernel_rfl) rfl ?_
  refine fk_val (Only.refl _) (fun wF hR => v_sliceArrLo rfl opc (al rfl) (by omega)) ?_
  refine fk_val (Only.refl _) (fun wF hR => v_move rfl) ?_
  first | refine fk_val (Only.refl _) (fun wF hR => v_nilCheck rfl) ?_ | refine fk_val (Only.refl _) (fun wF hR => v_nilCheck_iface rfl) ?_
  refine fk_val (Only.refl _) (fun wF hR => v_fieldAddr rfl (fo rfl)) ?_
  refine fk_val (Only.refl _) (fun wF hR => v_indexArr rfl opc (al rfl) (by omega)) ?_
  refine fk_val (Only.refl _) (fun wF hR => v_load1 rfl (sc rfl) (by first | exact (hD12.only hR (by simp)).cell _ rfl | assumption)) ?_
  refine fk_nil (fun u13 hu13 => ?_)
  refine s_op (o_call rfl (en rfl) (c102 w5.heap.size _ _ _ 108 _ _ u13 (hB12.only hu13 (by simp)) (by omega) (by simp [zeros]))) rfl rfl ?_
  rintro _ w13 hw13 hB13
  have hD13 := (hD12.only hu13 (by simp)).only hw13 (by simp; omega)
  have hR13 := (hR12.only hu13 (by simp)).only hw13 (by simp; omega)
  have ho13 := (ho12.trans_new hu13 (by simp)).trans_new hw13 (by simp; omega)
  refine s_nil (p_then ?_)
  refine t_cut (fun _ : Unit => [(0, .ex (pt g 0)), (2, .ex (pt w.heap.size 0)), (7, .ex (pt w5.heap.size 0))]) (fun _ w' => Only [g] w w' ∧ Blk w' w.heap.size 108 ((zeros 32).map B).toArray ∧ Blk w' w5.heap.size 108 ((sha data).map B).toArray ∧ ShaAt w' g (data ++ padding data.length)) ?_ ?_
  · repeat (first | refine t_seq ?_ | refine t_region ?_ | refine s_nil ?_ | refine p_then ?_ | refine t_ret ?_ | refine p_then_ret ?_ | refine p_block_ret ?_ | refine t_block ?_ | refine t_exit ?_ | refine p_then_exit ?_ | refine p_block_exit ?_ | refine p_block ?_ | refine t_skip ?_)
    refine s_val (v_move rfl) rfl ?_
    first | refine s_val (v_nilCheck rfl) rfl ?_ | refine s_val (v_nilCheck_iface rfl) rfl ?_
    refine s_val (v_fieldAddr rfl (fo rfl)) rfl ?_
    refine s_val (v_load1 rfl (sc rfl) (by first | exact hD13.cell _ (dgs_224 _ hx5 _ _) | assumption)) rfl ?_
    refine s_val (v_bool_not rfl) rfl ?_
    repeat (first | refine t_seq ?_ | refine t_region ?_ | refine s_nil ?_ | refine p_then ?_ | refine t_ret ?_ | refine p_then_ret ?_ | refine p_block_ret ?_ | refine t_block ?_ | refine t_exit ?_ | refine p_then_exit ?_ | refine p_block_exit ?_ | refine p_block ?_ | refine t_skip ?_)
    refine t_true rfl ?_
    repeat (first | refine t_seq ?_ | refine t_region ?_ | refine s_nil ?_ | refine p_then ?_ | refine t_ret ?_ | refine p_then_ret ?_ | refine p_block_ret ?_ | refine t_block ?_ | refine t_exit ?_ | refine p_then_exit ?_ | refine p_block_exit ?_ | refine p_block ?_ | refine t_skip ?_)
    refine t_drawO 6 (by kernel_rfl) rfl ?_
    refine fk_val (Only.refl _) (fun wF hR => v_sliceArrLo rfl opc (al rfl) (by omega)) ?_
    refine fk_val (Only.refl _) (fun wF hR => v_move rfl) ?_
    first | refine fk_val (Only.refl _) (fun wF hR => v_nilCheck rfl) ?_ | refine fk_val (Only.refl _) (fun wF hR => v_nilCheck_iface rfl) ?_
    refine fk_val (Only.refl _) (fun wF hR => v_fieldAddr rfl (fo rfl)) ?_
    refine fk_val (Only.refl _) (fun wF hR => v_indexArr rfl opc (al rfl) (by omega)) ?_
    refine fk_val (Only.refl _) (fun wF hR => v_load1 rfl (sc rfl) (by first | exact (hD13.only hR (by simp)).cell _ rfl | assumption)) ?_
    refine fk_nil (fun u14 hu14 => ?_)
    refine s_op (o_call rfl (en rfl) (c102 w5.heap.size _ _ _ 108 _ _ u14 (hB13.only hu14 (by simp)) (by omega) (by simp [zeros]))) rfl rfl ?_
    rintro _ w14 hw14 hB14
    have hD14 := (hD13.only hu14 (by simp)).only hw14 (by simp; omega)
    have hR14 := (hR13.only hu14 (by simp)).only hw14 (by simp; omega)
    have ho14 := (ho13.trans_new hu14 (by simp)).trans_new hw14 (by simp; omega)
    repeat (first | refine t_seq ?_ | refine t_region ?_ | refine s_nil ?_ | refine p_then ?_ | refine t_ret ?_ | refine p_then_ret ?_ | refine p_block_ret ?_ | refine t_block ?_ | refine t_exit ?_ | refine p_then_exit ?_ | refine p_block_exit ?_ | refine p_block ?_ | refine t_skip ?_)
    obtain ⟨v, hv⟩ : ∃ v, v = blocks shaIV (data ++ padding data.length) := ⟨_, rfl⟩
    rw [← hv] at hB14
    have hB14' : Blk w14 w5.heap.size 108 ((put4 (put4 (put4 (put4 (put4 (put4 (put4 (put4 (zeros 32) (0 + 0) v.a) (0 + 4) v.b) (0 + 8) v.c) (0 + 12) v.d) (0 + 16) v.e) (0 + 20) v.f) (0 + 24) v.g) (0 + 28) v.h).map B).toArray := hB14
    rw [puts_bytes, hv] at hB14'
    exact p_cut () ⟨rfl, rfl, rfl, trivial⟩ ⟨ho14, by simpa [zeros] using hR14, hB14', data ++ padding data.length, [], x5, by simp, hS5.whole, hS5.part, hx5, hS5.has, hD14⟩
  rintro _ w15 ⟨ho15, hR15, hB15, hS15⟩
  have hsz : sizeIs Tryz.prog 108 ((sha data).map B).toArray.size = true := by
    rw [show ((sha data).map B).toArray.size = 32 from by simp [sha_length]]; exact si rfl
  repeat (first | refine t_seq ?_ | refine t_region ?_ | refine s_nil ?_ | refine p_then ?_ | refine t_ret ?_ | refine p_then_ret ?_ | refine p_block_ret ?_ | refine t_block ?_ | refine t_exit ?_ | refine p_then_exit ?_ | refine p_block_exit ?_ | refine p_block ?_ | refine t_skip ?_)
  refine s_val (v_load rfl (loadVar_whole ua108 rfl hsz hB15)) rfl ?_
  refine s_storeAgg rfl rfl hsz hR15 (by simp [sha_length, zeros]) oneCells rfl (fun w16 hw16 hB16 => ?_)
  repeat (first | refine t_seq ?_ | refine t_region ?_ | refine s_nil ?_ | refine p_then ?_ | refine t_ret ?_ | refine p_then_ret ?_ | refine p_block_ret ?_ | refine t_block ?_ | refine t_exit ?_ | refine p_then_exit ?_ | refine p_block_exit ?_ | refine p_block ?_ | refine t_skip ?_)
  exact retc rfl rfl (loadVar_whole ua108 rfl hsz hB16) ⟨_, rfl, ho15.trans_new hw16 (by simp), rfl, hS15.only hw16 (by simp; omega)⟩

/-- (*sha256.Digest).Sum -/
theorem c71 (g : Nat) (data : Bytes) (v : Value) (l : Bytes) (w : World) (hS : ShaAt w g data) (hK : KT w) (hn : data.length < 900000000) (hv : Own w v l) (hl : l.length < 1000000000) :
    Calls Tryz.prog 71 #[pt g 0, v] w (Ret v.ownBlock.toList w (App w v (l ++ sha data))) := by
  obtain ⟨body, pend, x, hd, hS0⟩ := id hS
  have hx := hS0.len
  have hB := hS0.blk
  have hlen := dgs_length (blocks shaIV body) hx pend.length data.length
  obtain ⟨fs, hu⟩ := ua100
  have hsz : sizeIs Tryz.prog 100 (dgs (blocks shaIV body) x pend.length data.length).toArray.size = true := by
    rw [List.size_toArray, hlen]; exact si rfl
  refine enter (Γ := [(0, .ex (pt g 0)), (1, .ex v)]) Tryz.func71 rfl rfl rfl ⟨⟨_, rfl, rfl⟩, ⟨_, rfl, rfl⟩, trivial⟩ ?_
  repeat (first | refine t_seq ?_ | refine t_region ?_ | refine s_nil ?_ | refine p_then ?_ | refine t_ret ?_ | refine p_then_ret ?_ | refine p_block_ret ?_ | refine t_block ?_ | refine t_exit ?_ | refine p_then_exit ?_ | refine p_block_exit ?_ | refine p_block ?_ | refine t_skip ?_)
  refine s_val (v_assign rfl) rfl ?_
  repeat (first | refine t_seq ?_ | refine t_region ?_ | refine s_nil ?_ | refine p_then ?_ | refine t_ret ?_ | refine p_then_ret ?_ | refine p_block_ret ?_ | refine t_block ?_ | refine t_exit ?_ | refine p_then_exit ?_ | refine p_block_exit ?_ | refine p_block ?_ | refine t_skip ?_)
  refine s_val (v_move rfl) rfl ?_
  first | refine s_val (v_nilCheck rfl) rfl ?_ | refine s_val (v_nilCheck_iface rfl) rfl ?_
  refine s_val (v_load rfl (loadVar_whole hu rfl hsz hB)) rfl ?_
  refine s_op (o_alloc zc100) rfl rfl ?_
  rintro _ w1 hw1 ⟨rfl, hB1⟩
  refine s_storeAgg rfl rfl hsz hB1 (by simp [hlen]) (dgs_one _ _ _ _) rfl (fun w2 hw2 hB2 => ?_)
  have hz2 : Only [] w w2 := hw1.trans_new hw2 (by simp)
  have hS2 : ShaAt w2 w.heap.size data := ⟨body, pend, x, hd, hS0.whole, hS0.part, hx, hS0.has, hB2⟩
  have hg0 : w.heap.size ≠ 0 := by have := hB.lt; omega
  repeat (first | refine t_seq ?_ | refine t_region ?_ | refine s_nil ?_ | refine p_then ?_ | refine t_ret ?_ | refine p_then_ret ?_ | refine p_block_ret ?_ | refine t_block ?_ | refine t_exit ?_ | refine p_then_exit ?_ | refine p_block_exit ?_ | refine p_block ?_ | refine t_skip ?_)
  refine s_op (o_call rfl (en rfl) (c88 w.heap.size data w2 hS2 (hK.only hz2 (by simp)) hg0 hn)) rfl rfl ?_
  rintro _ w3 hw3 ⟨rfl, hS3⟩
  refine s_op (o_alloc zc108) rfl rfl ?_
  rintro _ w4 hw4 ⟨rfl, hB4⟩
  refine s_storeAgg rfl rfl (by rw [show ((sha data).map B).toArray.size = 32 from by simp [sha_length]]; exact si rfl) hB4 (by simp [sha_length]) oneCells rfl (fun w5 hw5 hB5 => ?_)
  have hz3 : Only [] w w3 := hz2.trans_new hw3 (by simp)
  have hz5 : Only [] w w5 := (hz3.trans hw4).trans_new hw5 (by simp; exact hz3.size)
  have hlt : w.heap.size < w3.heap.size := hS3.lt
  obtain ⟨body3, pend3, x3, hd3, hT3⟩ := (hS3.only hw4 (by simp)).only hw5 (by simp; omega)
  repeat (first | refine t_seq ?_ | refine t_region ?_ | refine s_nil ?_ | refine p_then ?_ | refine t_ret ?_ | refine p_then_ret ?_ | refine p_block_ret ?_ | refine t_block ?_ | refine t_exit ?_ | refine p_then_exit ?_ | refine p_block_exit ?_ | refine p_block ?_ | refine t_skip ?_)
  refine s_val (v_fieldAddr rfl (fo rfl)) rfl ?_
  refine s_val (v_load1 rfl (sc rfl) (by first | exact hT3.blk.cell _ (dgs_224 _ hT3.len _ _) | assumption)) rfl ?_
  repeat (first | refine t_seq ?_ | refine t_region ?_ | refine s_nil ?_ | refine p_then ?_ | refine t_ret ?_ | refine p_then_ret ?_ | refine p_block_ret ?_ | refine t_block ?_ | refine t_exit ?_ | refine p_then_exit ?_ | refine p_block_exit ?_ | refine p_block ?_ | refine t_skip ?_)
  refine t_false rfl ?_
  have hv5 := hv.only hz5 (by simp [Nots])
  repeat (first | refine t_seq ?_ | refine t_region ?_ | refine s_nil ?_ | refine p_then ?_ | refine t_ret ?_ | refine p_then_ret ?_ | refine p_block_ret ?_ | refine t_block ?_ | refine t_exit ?_ | refine p_then_exit ?_ | refine p_block_exit ?_ | refine p_block ?_ | refine t_skip ?_)
  refine s_val (v_move rfl) rfl ?_
  refine s_val (v_sliceArr rfl (al rfl)) rfl ?_
  refine s_op (o_appB rt24 rfl rfl (by simp [sha_length]) Tryz.underlying24 hv5 (hB5.rd0) (by rw [sha_length]; omega) mem_own) rfl rfl ?_
  rintro v6 w6 hw6 ⟨hv6, hk6⟩
  refine s_val (v_assign rfl) rfl ?_
  repeat (first | refine t_seq ?_ | refine t_region ?_ | refine s_nil ?_ | refine p_then ?_ | refine t_ret ?_ | refine p_then_ret ?_ | refine p_block_ret ?_ | refine t_block ?_ | refine t_exit ?_ | refine p_then_exit ?_ | refine p_block_exit ?_ | refine p_block ?_ | refine t_skip ?_)
  exact ret1 rfl rfl ⟨_, rfl, (hz5.mono (by simp)).trans hw6, hv6, fun k hk => (hk6 k hk).imp id (fun h => Nat.le_trans hz5.size h)⟩
end Go.Proofs.YtnaefgnjdmmmcaaGreatDoor
/- hmac.New's guarded closures: 'marshal' whether the two hashes are one; a deferred function that recovers nothing. -/
namespace Go.Proofs.YtnaefgnjdmmmcaaGreatDoor
open Go.RowKit
set_option maxRecDepth 100000

theorem up64 : Tryz.prog.underlying 64 = some (.pointer 100) := by kernel_rfl
theorem up67 : Tryz.prog.underlying 67 = some (.pointer 103) := by kernel_rfl
theorem in64 : ∃ i, Tryz.prog.info? 64 = some i ∧ i.comparable = true := by
  have h : (Tryz.prog.info? 64).map (·.comparable) = some true := by kernel_rfl
  cases hi : Tryz.prog.info? 64 with
  | none => rw [hi] at h; cases h
  | some i => rw [hi] at h; exact ⟨i, rfl, by simpa using h⟩
theorem in67 : ∃ i, Tryz.prog.info? 67 = some i ∧ i.comparable = true := by
  have h : (Tryz.prog.info? 67).map (·.comparable) = some true := by kernel_rfl
  cases hi : Tryz.prog.info? 67 with
  | none => rw [hi] at h; cases h
  | some i => rw [hi] at h; exact ⟨i, rfl, by simpa using h⟩
theorem in100 : ∃ i, Tryz.prog.info? 100 = some i ∧ i.size ≠ 0 := by
  have h : (Tryz.prog.info? 100).map (fun i => i.size != 0) = some true := by kernel_rfl
  cases hi : Tryz.prog.info? 100 with
  | none => rw [hi] at h; cases h
  | some i => rw [hi] at h; exact ⟨i, rfl, by simpa using h⟩
theorem in103 : ∃ i, Tryz.prog.info? 103 = some i ∧ i.size ≠ 0 := by
  have h : (Tryz.prog.info? 103).map (fun i => i.size != 0) = some true := by kernel_rfl
  cases hi : Tryz.prog.info? 103 with
  | none => rw [hi] at h; cases h
  | some i => rw [hi] at h; exact ⟨i, rfl, by simpa using h⟩
theorem run_eqIface {P : Program} {t T e : TypeId} {ii ie : TypeInfo} {w : World} {g1 g2 : Nat} {t1 t2 : TypeId} {c1 c2 : Array Value} (ht : isIface P t = true) (hT : P.underlying T = some (.pointer e)) (hi : P.info? T = some ii) (hc : ii.comparable = true)
    (he : P.info? e = some ie) (hs : ie.size ≠ 0) (hne : g1 ≠ g2) (h1 : Blk w g1 t1 c1) (h2 : Blk w g2 t2 c2) :
    (binOp .eql t (.iface T (pt g1 0)) (.iface T (pt g2 0))).run P w = .ok (.bool false) w := by
  obtain ⟨ms, hu⟩ := isIface_some ht
  have hin : ∀ d : Nat, (Op.equalIn (d + 1) T (pt g1 0) (pt g2 0)).run P w = .ok false w := fun d => by
    simp [Op.equalIn, run_underlying hT, sizeOf, typeInfo, he, hs, run_sameAddr_other w (a := ⟨g1, 0, none⟩) (b := ⟨g2, 0, none⟩) (fun e => hne (by injection e)) h1 h2]
  have h : ∀ d : Nat, (Op.equalIn (d + 1 + 1) t (.iface T (pt g1 0)) (.iface T (pt g2 0))).run P w = .ok false w := fun d => by
    have := hin d
    rw [Op.equalIn]
    simp [run_underlying hu, typeInfo, hi, hc, this]
  simp only [binOp]
  simp [Op.equal, Op.maxDepth, h 9998]
theorem run_eq64 {w : World} {g1 g2 : Nat} {t1 t2 : TypeId} {c1 c2 : Array Value} (hne : g1 ≠ g2) (h1 : Blk w g1 t1 c1) (h2 : Blk w g2 t2 c2) : (binOp .eql 75 (.iface 64 (pt g1 0)) (.iface 64 (pt g2 0))).run Tryz.prog w = .ok (.bool false) w := by
  obtain ⟨i, hi, hc⟩ := in64
  obtain ⟨j, hj, hs⟩ := in100
  exact run_eqIface (if_ rfl) up64 hi hc hj hs hne h1 h2
theorem run_eq67 {w : World} {g1 g2 : Nat} {t1 t2 : TypeId} {c1 c2 : Array Value} (hne : g1 ≠ g2) (h1 : Blk w g1 t1 c1) (h2 : Blk w g2 t2 c2) : (binOp .eql 75 (.iface 67 (pt g1 0)) (.iface 67 (pt g2 0))).run Tryz.prog w = .ok (.bool false) w := by
  obtain ⟨i, hi, hc⟩ := in67
  obtain ⟨j, hj, hs⟩ := in103
  exact run_eqIface (if_ rfl) up67 hi hc hj hs hne h1 h2

theorem d105 (w : World) : CallsD Tryz.prog 105 #[] .returning w fun e u' w' => e = .returned (.tuple #[]) ∧ u' = .returning ∧ w' = w := by
  refine callsD_of_wpS Tryz.func105 rfl fun c₀ cs hu => ?_
  apply wpS_region
  simp [wpOpsS, go_sem, recoverD, hu, Tryz.ntmps105]
  cases c₀
  simp_all [bodyPostS, results, Tryz.results105]
theorem c104 (a b hm : Nat) (T : TypeId) (u1 u2 : Value) (w : World) (ha : w.cell? ⟨a, 0, none⟩ = some (pt hm 0)) (h1 : w.cell? ⟨hm, 2, none⟩ = some (.iface T u1)) (h2 : w.cell? ⟨hm, 3, none⟩ = some (.iface T u2))
    (he : ∀ w', Only [] w w' → (binOp .eql 75 (.iface T u1) (.iface T u2)).run Tryz.prog w' = .ok (.bool false) w') :
    Calls Tryz.prog 104 #[pt a 0, pt b 0] w (Ret [] w fun _ _ => True) := by
  have he' := he w.drew (Only.drew [] w)
  go_enter_defers Tryz.func104, Tryz.ntmps104
  go_wp2
  go_region
  go_wp2
  refine leaves_cons (f := 105) (args := #[]) (by simp) (by simp [go_sem]) ?_
  refine (d105 _).mono ?_
  rintro e u' w'' ⟨rfl, rfl, rfl⟩
  simp only [Leaves, settle]
  exact ⟨_, results_none rfl _ _ _, _, rfl, Only.drew [] w, trivial⟩
theorem d107 (w : World) : CallsD Tryz.prog 107 #[] .returning w fun e u' w' => e = .returned (.tuple #[]) ∧ u' = .returning ∧ w' = w := by
  refine callsD_of_wpS Tryz.func107 rfl fun c₀ cs hu => ?_
  apply wpS_region
  simp [wpOpsS, go_sem, recoverD, hu, Tryz.ntmps107]
  cases c₀
  simp_all [bodyPostS, results, Tryz.results107]
theorem c106 (a b hm : Nat) (T : TypeId) (u1 u2 : Value) (w : World) (ha : w.cell? ⟨a, 0, none⟩ = some (pt hm 0)) (h1 : w.cell? ⟨hm, 2, none⟩ = some (.iface T u1)) (h2 : w.cell? ⟨hm, 3, none⟩ = some (.iface T u2))
    (he : ∀ w', Only [] w w' → (binOp .eql 75 (.iface T u1) (.iface T u2)).run Tryz.prog w' = .ok (.bool false) w') :
    Calls Tryz.prog 106 #[pt a 0, pt b 0] w (Ret [] w fun _ _ => True) := by
  have he' := he w.drew (Only.drew [] w)
  go_enter_defers Tryz.func106, Tryz.ntmps106
  go_wp2
  go_region
  go_wp2
  refine leaves_cons (f := 107) (args := #[]) (by simp) (by simp [go_sem]) ?_
  refine (d107 _).mono ?_
  rintro e u' w'' ⟨rfl, rfl, rfl⟩
  simp only [Leaves, settle]
  exact ⟨_, results_none rfl _ _ _, _, rfl, Only.drew [] w, trivial⟩
theorem d112 (w : World) : CallsD Tryz.prog 112 #[] .returning w fun e u' w' => e = .returned (.tuple #[]) ∧ u' = .returning ∧ w' = w := by
  refine callsD_of_wpS Tryz.func112 rfl fun c₀ cs hu => ?_
  apply wpS_region
  simp [wpOpsS, go_sem, recoverD, hu, Tryz.ntmps112]
  cases c₀
  simp_all [bodyPostS, results, Tryz.results112]
theorem c111 (a b hm : Nat) (T : TypeId) (u1 u2 : Value) (w : World) (ha : w.cell? ⟨a, 0, none⟩ = some (pt hm 0)) (h1 : w.cell? ⟨hm, 2, none⟩ = some (.iface T u1)) (h2 : w.cell? ⟨hm, 3, none⟩ = some (.iface T u2))
    (he : ∀ w', Only [] w w' → (binOp .eql 75 (.iface T u1) (.iface T u2)).run Tryz.prog w' = .ok (.bool false) w') :
    Calls Tryz.prog 111 #[pt a 0, pt b 0] w (Ret [] w fun _ _ => True) := by
  have he' := he w.drew (Only.drew [] w)
  go_enter_defers Tryz.func111, Tryz.ntmps111
  go_wp2
  go_region
  go_wp2
  refine leaves_cons (f := 112) (args := #[]) (by simp) (by simp [go_sem]) ?_
  refine (d112 _).mono ?_
  rintro e u' w'' ⟨rfl, rfl, rfl⟩
  simp only [Leaves, settle]
  exact ⟨_, results_none rfl _ _ _, _, rfl, Only.drew [] w, trivial⟩
end Go.Proofs.YtnaefgnjdmmmcaaGreatDoor
/- A HASH, WHICHEVER, in the program: its state in memory, its methods, through an interface or not; the functions that make one. -/
namespace Go.Proofs.YtnaefgnjdmmmcaaGreatDoor
open Go.RowKit
attribute [local irreducible] ValAt OpAt RunX Tr Post FlowK

/-- The hash at g, its blocks fp, has taken in these bytes. -/
def HashAt (H : HK) (w : World) (g : Nat) (fp : List Nat) (data : Bytes) : Prop := match H with
  | .sha => fp = [g] ∧ ShaAt w g data
  | .own s b => ∃ t, fp = [g, t] ∧ OwnAt w g t s b data
section
variable {H : HK} {w w' : World} {g : Nat} {fp fp' : List Nat} {data : Bytes}
theorem HashAt.mem (h : HashAt H w g fp data) : g ∈ fp := by
  cases H with
  | sha => obtain ⟨rfl, _⟩ := h; simp
  | own s b => obtain ⟨t, rfl, _⟩ := h; simp
theorem HashAt.lt (h : HashAt H w g fp data) : ∀ k ∈ fp, k < w.heap.size := by
  cases H with
  | sha => obtain ⟨rfl, h⟩ := h; intro k hk; simp at hk; subst hk; exact h.lt
  | own s b => obtain ⟨t, rfl, h⟩ := h; intro k hk; simp at hk; rcases hk with rfl | rfl; exact h.blk.lt; exact h.st.lt
theorem HashAt.only (h : HashAt H w g fp data) (k : Only fp' w w') (hd : ∀ i ∈ fp, i ∉ fp') : HashAt H w' g fp data := by
  cases H with
  | sha => obtain ⟨rfl, h⟩ := h; exact ⟨rfl, h.only k (hd g (by simp))⟩
  | own s b => obtain ⟨t, rfl, h⟩ := h; exact ⟨t, rfl, h.only k (hd g (by simp)) (hd t (by simp))⟩
theorem HashAt.blk (h : HashAt H w g fp data) : ∃ T cs, Blk w g T cs := by
  cases H with
  | sha => obtain ⟨rfl, _, _, _, _, h⟩ := h; exact ⟨_, _, h.blk⟩
  | own s b => obtain ⟨t, rfl, h⟩ := h; exact ⟨_, _, h.blk⟩
end
def HK.ty : HK → TypeId
  | .sha => 64
  | .own _ _ => 67
def HK.fw : HK → FuncId
  | .sha => 66
  | .own _ _ => 67
def HK.fs : HK → FuncId
  | .sha => 71
  | .own _ _ => 72
def HK.fr : HK → FuncId
  | .sha => 77
  | .own _ _ => 79
def HK.fz : HK → FuncId
  | .sha => 132
  | .own _ _ => 143
def HK.fb : HK → FuncId
  | .sha => 130
  | .own _ _ => 142
abbrev HK.val (H : HK) (g : Nat) : Value := .iface H.ty (pt g 0)
theorem HK.enw (H : HK) : enters Tryz.prog H.fw = true := by cases H <;> exact en rfl
theorem HK.ens (H : HK) : enters Tryz.prog H.fs = true := by cases H <;> exact en rfl
theorem HK.enr (H : HK) : enters Tryz.prog H.fr = true := by cases H <;> exact en rfl
theorem HK.enz (H : HK) : enters Tryz.prog H.fz = true := by cases H <;> exact en rfl
theorem HK.enb (H : HK) : enters Tryz.prog H.fb = true := by cases H <;> exact en rfl
theorem HK.mew (H : HK) (g : Nat) (w : World) : (method (Tryz.prog.types.size + Made.depth) H.ty (pt g 0) "Write").run Tryz.prog w = .ok (H.fw, pt g 0) w := by cases H; exact me64_Write g w; exact me67_Write g w
theorem HK.mes (H : HK) (g : Nat) (w : World) : (method (Tryz.prog.types.size + Made.depth) H.ty (pt g 0) "Sum").run Tryz.prog w = .ok (H.fs, pt g 0) w := by cases H; exact me64_Sum g w; exact me67_Sum g w
theorem HK.mer (H : HK) (g : Nat) (w : World) : (method (Tryz.prog.types.size + Made.depth) H.ty (pt g 0) "Reset").run Tryz.prog w = .ok (H.fr, pt g 0) w := by cases H; exact me64_Reset g w; exact me67_Reset g w
theorem HK.mez (H : HK) (g : Nat) (w : World) : (method (Tryz.prog.types.size + Made.depth) H.ty (pt g 0) "Size").run Tryz.prog w = .ok (H.fz, pt g 0) w := by cases H; exact me64_Size g w; exact me67_Size g w
theorem HK.meb (H : HK) (g : Nat) (w : World) : (method (Tryz.prog.types.size + Made.depth) H.ty (pt g 0) "BlockSize").run Tryz.prog w = .ok (H.fb, pt g 0) w := by cases H; exact me64_BlockSize g w; exact me67_BlockSize g w

section
variable {H : HK} {w : World} {g : Nat} {fp : List Nat} {data : Bytes}
theorem hWrite (hH : H.ok) (h : HashAt H w g fp data) {A : Option Addr} {c : Nat} {p : Bytes} (hp : Rd w A p) (ho : p ≠ [] → Off A fp) (hc : p.length ≤ c) (hn : data.length + p.length ≤ 65536) (hK : KT w) (h0 : 0 ∉ fp) :
    Calls Tryz.prog H.fw #[pt g 0, .slice A p.length c] w (Ret fp w fun v w' => v = .tuple #[I p.length, .nilIface] ∧ HashAt H w' g fp (data ++ p)) := by
  cases H with
  | sha =>
    obtain ⟨rfl, h⟩ := h
    exact (c66 g data A c p w h hp ho hc hK (by rintro rfl; simp at h0) (by omega) (by omega)).mono fun e w' ⟨v, h1, h2, h3, h4⟩ => ⟨v, h1, h2, h3, rfl, h4⟩
  | own s b =>
    obtain ⟨t, rfl, h⟩ := h
    exact (c67 g t s b data A c p w h hp ho (HK.size_pos hH) (by omega)).mono fun e w' ⟨v, h1, h2, h3, h4⟩ => ⟨v, h1, h2, h3, t, rfl, h4⟩
theorem hSum (hH : H.ok) (h : HashAt H w g fp data) {v : Value} {l : Bytes} (hv : Own w v l) (hnv : Nots v fp) (hn : data.length ≤ 200000) (hl : l.length ≤ 65536) (hK : KT w) :
    Calls Tryz.prog H.fs #[pt g 0, v] w (Ret v.ownBlock.toList w (App w v (l ++ H.hash data))) := by
  cases H with
  | sha =>
    obtain ⟨rfl, h⟩ := h
    exact c71 g data v l w h hK (by omega) hv (by omega)
  | own s b =>
    obtain ⟨t, rfl, h⟩ := h
    have := HK.size_le hH
    exact c72 g t s b data v l w h hv hnv (by simp only [HK.size] at this; omega) (by omega)
theorem hReset (hH : H.ok) (h : HashAt H w g fp data) : Calls Tryz.prog H.fr #[pt g 0] w (Ret fp w fun _ w' => HashAt H w' g fp []) := by
  cases H with
  | sha =>
    obtain ⟨rfl, body, pend, x, hd, h⟩ := h
    exact (c77 g _ x _ _ h.len w h.blk).mono fun e w' ⟨v, h1, h2, h3⟩ => ⟨v, h1, h2, rfl, ShaAt.new h.len h3⟩
  | own s b =>
    obtain ⟨t, rfl, h⟩ := h
    have := HK.size_le hH
    exact (c79 g t s b data.length _ w h.blk h.st (ownState_length s data) h.ne (by simp only [HK.size] at this; omega)).mono fun e w' ⟨v, h1, h2, h3⟩ => ⟨v, h1, h2, t, rfl, h3⟩
theorem hSize (h : HashAt H w g fp data) : Calls Tryz.prog H.fz #[pt g 0] w (Ret [] w fun v _ => v = I H.size) := by
  cases H with
  | sha =>
    obtain ⟨rfl, body, pend, x, hd, h⟩ := h
    exact c132 g w (h.blk.cell _ (dgs_224 _ h.len _ _))
  | own s b =>
    obtain ⟨t, rfl, h⟩ := h
    exact c143 g s w (h.blk.cell _ rfl)
theorem hBlock (h : HashAt H w g fp data) : Calls Tryz.prog H.fb #[pt g 0] w (Ret [] w fun v _ => v = I H.block) := by
  cases H with
  | sha =>
    obtain ⟨rfl, body, pend, x, hd, h⟩ := h
    exact c130 g w
  | own s b =>
    obtain ⟨t, rfl, h⟩ := h
    exact c142 g b w (h.blk.cell _ rfl)

/-! ## Functions that make a hash -/
/-- A new hash that has taken in nothing. -/
def Made (H : HK) (b : Nat) (w' : World) (g : Nat) : Prop := ∃ fp, HashAt H w' g fp [] ∧ ∀ k ∈ fp, b ≤ k
/-- sha256.New; (Hash).fresh: they hand back a pointer. -/
def Mk (H : HK) (h : Value) : Prop := match H with
  | .sha => h = .func (.func 52) #[] #[]
  | .own s b => ∃ k s' b', h = .func (.func 54) #[hv k s' b'] #[] ∧ k ≠ 1 ∧ hkOf k s' b' = .own s b
theorem Mk.calls {h : Value} (hm : Mk H h) (w : World) : ∃ f first, h = .func (.func f) first #[] ∧ enters Tryz.prog f = true ∧ Calls Tryz.prog f (first ++ #[] ++ #[]) w (Ret [] w fun v w' => ∃ g, v = pt g 0 ∧ Made H w.heap.size w' g) := by
  cases H with
  | sha =>
    refine ⟨52, #[], hm, en rfl, (c52 w).mono fun e w' ⟨v, h1, h2, h3, h4⟩ => ⟨v, h1, h2, _, h3, [w.heap.size], ⟨rfl, ShaAt.new (by simp [zeros]) h4⟩, by simp⟩⟩
  | own s b =>
    obtain ⟨k, s', b', rfl, hk, he⟩ := hm
    refine ⟨54, #[hv k s' b'], rfl, en rfl, (c54 k s' b' w hk).mono fun e w' ⟨v, h1, h2, g, t, h3, h4, h5⟩ => ⟨v, h1, h2, g, h3, [g, t], ⟨t, rfl, ?_⟩, by simp; omega⟩⟩
    rw [he] at h5; exact h5
end
end Go.Proofs.YtnaefgnjdmmmcaaGreatDoor
/- HMAC in the program: Write, Sum, Reset, MarkAsUsedInKDF. -/
namespace Go.Proofs.YtnaefgnjdmmmcaaGreatDoor
open Go.RowKit
attribute [local irreducible] ValAt OpAt RunX Tr Post FlowK

/-- The blocks of an HMAC. -/
structure HP where
  m : Nat
  o : Nat
  i : Nat
  gO : Nat
  gI : Nat
  fO : List Nat
  fI : List Nat
def HP.fp (q : HP) : List Nat := q.m :: q.o :: q.i :: (q.fO ++ q.fI)
def hmCells (H : HK) (q : HP) (kdf : Bool) (n : Nat) : Array Value :=
  #[.slice (some ⟨q.o, 0, none⟩) H.block H.block, .slice (some ⟨q.i, 0, none⟩) H.block H.block, H.val q.gO, H.val q.gI, .bool false, .bool kdf, I n]
structure HmacAt (H : HK) (w : World) (q : HP) (key data : Bytes) (kdf : Bool) (n : Nat) : Prop where
  blk : Blk w q.m 120 (hmCells H q kdf n)
  opad : Blk w q.o 5 ((padded H key 0x5c).map B).toArray
  ipad : Blk w q.i 5 ((padded H key 0x36).map B).toArray
  outer : ∃ d, HashAt H w q.gO q.fO d
  inner : HashAt H w q.gI q.fI (padded H key 0x36 ++ data)
  nd : q.fp.Nodup
section
variable {H : HK} {w w' : World} {q : HP} {fp' : List Nat} {key data : Bytes} {kdf : Bool} {n : Nat}
theorem HmacAt.only (h : HmacAt H w q key data kdf n) (k : Only fp' w w') (hd : ∀ i ∈ q.fp, i ∉ fp') : HmacAt H w' q key data kdf n := by
  obtain ⟨d, ho⟩ := h.outer
  exact ⟨h.blk.only k (hd _ (by simp [HP.fp])), h.opad.only k (hd _ (by simp [HP.fp])), h.ipad.only k (hd _ (by simp [HP.fp])), ⟨d, ho.only k (fun i hi => hd i (by simp [HP.fp, hi]))⟩,
    h.inner.only k (fun i hi => hd i (by simp [HP.fp, hi])), h.nd⟩
theorem HmacAt.parts (h : HmacAt H w q key data kdf n) : (q.m ∉ q.fI ∧ q.o ∉ q.fI ∧ q.i ∉ q.fI ∧ ∀ k ∈ q.fO, k ∉ q.fI) ∧ (q.m ∉ q.fO ∧ q.o ∉ q.fO ∧ q.i ∉ q.fO ∧ ∀ k ∈ q.fI, k ∉ q.fO) ∧ q.m ≠ q.o ∧ q.m ≠ q.i := by
  have := h.nd
  simp only [HP.fp, List.nodup_cons, List.nodup_append, List.mem_cons, List.mem_append, not_or] at this
  obtain ⟨⟨h1, h2, h3, h4⟩, ⟨h5, h6, h7⟩, ⟨h8, h9⟩, _, _, h10⟩ := this
  exact ⟨⟨h4, h7, h9, fun k hk hi => h10 k hk k hi rfl⟩, ⟨h3, h6, h8, fun k hk ho => h10 k ho k hk rfl⟩, h1, h2⟩
theorem HmacAt.lt (h : HmacAt H w q key data kdf n) : ∀ k ∈ q.fp, k < w.heap.size := by
  intro k hk
  obtain ⟨d, ho⟩ := h.outer
  simp only [HP.fp, List.mem_cons, List.mem_append] at hk
  rcases hk with rfl | rfl | rfl | hk | hk
  · exact h.blk.lt
  · exact h.opad.lt
  · exact h.ipad.lt
  · exact ho.lt k hk
  · exact h.inner.lt k hk
/-- Only the inner hash turns. -/
theorem HmacAt.setInner {data' : Bytes} (h : HmacAt H w q key data kdf n) (k : Only q.fI w w') (hi : HashAt H w' q.gI q.fI (padded H key 0x36 ++ data')) : HmacAt H w' q key data' kdf n := by
  obtain ⟨⟨h1, h2, h3, h4⟩, _⟩ := h.parts
  obtain ⟨d, ho⟩ := h.outer
  exact ⟨h.blk.only k h1, h.opad.only k h2, h.ipad.only k h3, ⟨d, ho.only k h4⟩, hi, h.nd⟩
theorem HmacAt.setOuter {d : Bytes} (h : HmacAt H w q key data kdf n) (k : Only q.fO w w') (ho : HashAt H w' q.gO q.fO d) : HmacAt H w' q key data kdf n := by
  obtain ⟨_, ⟨h1, h2, h3, h4⟩, _⟩ := h.parts
  exact ⟨h.blk.only k h1, h.opad.only k h2, h.ipad.only k h3, ⟨d, ho⟩, h.inner.only k h4, h.nd⟩

/-- (*HMAC).Write -/
theorem c92 (hH : H.ok) (h : HmacAt H w q key data kdf n) {A : Option Addr} {c : Nat} {p : Bytes} (hp : Rd w A p) (ho : p ≠ [] → Off A q.fI) (hc : p.length ≤ c) (hn : data.length + p.length ≤ 60000) (hK : KT w) (h0 : 0 ∉ q.fI) :
    Calls Tryz.prog 92 #[pt q.m 0, .slice A p.length c] w (Ret q.fI w fun _ w' => HmacAt H w' q key (data ++ p) kdf n) := by
  have hpl := padded_length hH key 0x36
  have hbl := HK.block_le hH
  refine enter (Γ := [(0, .ex (pt q.m 0)), (1, .ex (.slice A p.length c))]) Tryz.func92 rfl rfl rfl ⟨⟨_, rfl, rfl⟩, ⟨_, rfl, rfl⟩, trivial⟩ ?_
  repeat (first | refine t_seq ?_ | refine t_region ?_ | refine s_nil ?_ | refine p_then ?_ | refine t_ret ?_ | refine p_then_ret ?_ | refine p_block_ret ?_ | refine t_block ?_ | refine t_exit ?_ | refine p_then_exit ?_ | refine p_block_exit ?_ | refine p_block ?_ | refine t_skip ?_)
  refine s_val (v_assign rfl) rfl ?_
  refine s_val (v_assign rfl) rfl ?_
  repeat (first | refine t_seq ?_ | refine t_region ?_ | refine s_nil ?_ | refine p_then ?_ | refine t_ret ?_ | refine p_then_ret ?_ | refine p_block_ret ?_ | refine t_block ?_ | refine t_exit ?_ | refine p_then_exit ?_ | refine p_block_exit ?_ | refine p_block ?_ | refine t_skip ?_)
  refine s_val (v_move rfl) rfl ?_
  first | refine s_val (v_nilCheck rfl) rfl ?_ | refine s_val (v_nilCheck_iface rfl) rfl ?_
  refine s_val (v_fieldAddr rfl (fo rfl)) rfl ?_
  refine s_val (v_load1 rfl (sc rfl) (by first | exact h.blk.cell _ rfl | assumption)) rfl ?_
  refine s_val (v_move rfl) rfl ?_
  refine s_op (o_invoke rfl rfl (H.mew _ _) H.enw (hWrite hH h.inner hp ho hc (by simp; omega) hK h0)) rfl rfl ?_
  rintro _ w1 hw1 ⟨rfl, h1⟩
  refine s_val (v_extract rfl rfl) rfl ?_
  refine s_val (v_extract rfl rfl) rfl ?_
  refine s_val (v_assign rfl) rfl ?_
  refine s_val (v_assign rfl) rfl ?_
  rw [List.append_assoc] at h1
  repeat (first | refine t_seq ?_ | refine t_region ?_ | refine s_nil ?_ | refine p_then ?_ | refine t_ret ?_ | refine p_then_ret ?_ | refine p_block_ret ?_ | refine t_block ?_ | refine t_exit ?_ | refine p_then_exit ?_ | refine p_block_exit ?_ | refine p_block ?_ | refine t_skip ?_)
  exact ret2 rfl rfl rfl ⟨_, rfl, hw1, h.setInner hw1 h1⟩

/-- hmac.MarkAsUsedInKDF -/
theorem c103 (h : HmacAt H w q key data kdf n) : Calls Tryz.prog 103 #[pt q.m 0] w (Ret [q.m] w fun _ w' => HmacAt H w' q key data true n) := by
  refine enter (Γ := [(0, .ex (pt q.m 0))]) Tryz.func103 rfl rfl rfl ⟨⟨_, rfl, rfl⟩, trivial⟩ ?_
  repeat (first | refine t_seq ?_ | refine t_region ?_ | refine s_nil ?_ | refine p_then ?_ | refine t_ret ?_ | refine p_then_ret ?_ | refine p_block_ret ?_ | refine t_block ?_ | refine t_exit ?_ | refine p_then_exit ?_ | refine p_block_exit ?_ | refine p_block ?_ | refine t_skip ?_)
  refine s_val (v_move rfl) rfl ?_
  first | refine s_val (v_nilCheck rfl) rfl ?_ | refine s_val (v_nilCheck_iface rfl) rfl ?_
  refine s_val (v_fieldAddr rfl (fo rfl)) rfl ?_
  refine s_store (v := .bool true) rfl rfl (si rfl) h.blk (by simp [hmCells]) rfl rfl (fun w1 hw1 hB1 => ?_)
  repeat (first | refine t_seq ?_ | refine t_region ?_ | refine s_nil ?_ | refine p_then ?_ | refine t_ret ?_ | refine p_then_ret ?_ | refine p_block_ret ?_ | refine t_block ?_ | refine t_exit ?_ | refine p_then_exit ?_ | refine p_block_exit ?_ | refine p_block ?_ | refine t_skip ?_)
  obtain ⟨d, ho⟩ := h.outer
  have hnd := h.nd
  simp only [HP.fp, List.nodup_cons, List.mem_cons, List.mem_append, not_or] at hnd
  obtain ⟨⟨n1, n2, n3, n4⟩, _⟩ := hnd
  exact end0 rfl ⟨_, rfl, hw1, hB1, h.opad.only hw1 (by simp; omega), h.ipad.only hw1 (by simp; omega), ⟨d, ho.only hw1 (fun i hi => by simp; rintro rfl; exact n3 hi)⟩, h.inner.only hw1 (fun i hi => by simp; rintro rfl; exact n4 hi), h.nd⟩
end
end Go.Proofs.YtnaefgnjdmmmcaaGreatDoor
/- HMAC in the program: Sum. -/
namespace Go.Proofs.YtnaefgnjdmmmcaaGreatDoor
open Go.RowKit
attribute [local irreducible] ValAt OpAt RunX Tr Post FlowK

theorem own_same (A : Option Addr) (n c m d : Nat) : (Value.slice A n c).ownBlock = (Value.slice A m d).ownBlock := by cases A <;> rfl
/-- The head of a row of the call's own. -/
theorem Own.head' {w : World} {v : Value} {A : Option Addr} {n c : Nat} {l m : Bytes} (h : Own w v (l ++ m)) (hv : v = .slice A n c) : Own w (.slice A l.length c) l := by
  subst hv
  obtain ⟨h1, h2⟩ := id h
  rcases h2 with ⟨h2, h3⟩ | ⟨g, cap, cur, h2, hb, hh, hc, hm, hs, ht⟩
  · injection h2 with e1 e2 e3
    have : l = [] := by simp at h3; exact h3.1
    subst this; subst e1; subst e3
    exact Own.nil w
  · injection h2 with e1 e2 e3
    subst e1; subst e3
    refine ⟨by simp, .inr ⟨g, c, cur, rfl, hb, hh, by simp at hc; omega, hm, hs, ?_⟩⟩
    have := congrArg (List.take l.length) ht
    simp at this
    rw [List.take_take, Nat.min_eq_left (by omega)] at this
    simpa using this
section
variable {H : HK} {w w' : World} {q : HP} {fp' : List Nat} {key data : Bytes} {kdf : Bool} {n : Nat}
/-- (*HMAC).Sum -/
theorem c93 (hH : H.ok) (h : HmacAt H w q key data kdf n) {v : Value} {l : Bytes} (hv : Own w v l) (hnv : Nots v q.fp) (hn : data.length ≤ 60000) (hl : l.length ≤ 60000) (hK : KT w) (h0 : 0 ∉ q.fO) (h0v : Nots v [0]) :
    Calls Tryz.prog 93 #[pt q.m 0, v] w (Ret (q.fO ++ v.ownBlock.toList) w fun v' w' => App w v (l ++ mac H key data) v' w' ∧ HmacAt H w' q key data kdf n) := by
  have hpl := padded_length hH key 0x36
  have hpo := padded_length hH key 0x5c
  have hbl := HK.block_le hH
  have hsl := HK.size_le hH
  obtain ⟨A, c, rfl, hc, hrd, hoff⟩ := hv.slice
  refine enter (Γ := [(0, .ex (pt q.m 0)), (1, .ex (.slice A l.length c))]) Tryz.func93 rfl rfl rfl ⟨⟨_, rfl, rfl⟩, ⟨_, rfl, rfl⟩, trivial⟩ ?_
  repeat (first | refine t_seq ?_ | refine t_region ?_ | refine s_nil ?_ | refine p_then ?_ | refine t_ret ?_ | refine p_then_ret ?_ | refine p_block_ret ?_ | refine t_block ?_ | refine t_exit ?_ | refine p_then_exit ?_ | refine p_block_exit ?_ | refine p_block ?_ | refine t_skip ?_)
  refine s_val (v_assign rfl) rfl ?_
  repeat (first | refine t_seq ?_ | refine t_region ?_ | refine s_nil ?_ | refine p_then ?_ | refine t_ret ?_ | refine p_then_ret ?_ | refine p_block_ret ?_ | refine t_block ?_ | refine t_exit ?_ | refine p_then_exit ?_ | refine p_block_exit ?_ | refine p_block ?_ | refine t_skip ?_)
  refine s_val (v_move rfl) rfl ?_
  refine s_val (v_len rfl (so rfl) rfl) rfl ?_
  refine s_val (v_assign rfl) rfl ?_
  repeat (first | refine t_seq ?_ | refine t_region ?_ | refine s_nil ?_ | refine p_then ?_ | refine t_ret ?_ | refine p_then_ret ?_ | refine p_block_ret ?_ | refine t_block ?_ | refine t_exit ?_ | refine p_then_exit ?_ | refine p_block_exit ?_ | refine p_block ?_ | refine t_skip ?_)
  have hnI : Nots (.slice A l.length c) q.fI := fun k hk hm => hnv k hk (by simp [HP.fp, hm])
  refine s_val (v_move rfl) rfl ?_
  first | refine s_val (v_nilCheck rfl) rfl ?_ | refine s_val (v_nilCheck_iface rfl) rfl ?_
  refine s_val (v_fieldAddr rfl (fo rfl)) rfl ?_
  refine s_val (v_load1 rfl (sc rfl) (by first | exact h.blk.cell _ rfl | assumption)) rfl ?_
  refine s_val (v_move rfl) rfl ?_
  refine s_op (o_invoke rfl rfl (H.mes _ _) H.ens (hSum hH h.inner hv hnI (by simp; omega) (by omega) hK)) rfl rfl ?_
  rintro v1 w1 hw1 ⟨hv1, hk1⟩
  refine s_val (v_assign rfl) rfl ?_
  have hlt := h.lt
  have hdis : ∀ i ∈ q.fp, i ∉ (Value.slice A l.length c).ownBlock.toList := fun i hi hm => by
    simp at hm
    exact hnv i hm hi
  have h1 := h.only hw1 hdis
  have hn1 : Nots v1 q.fp := fun k hk hm => by
    rcases hk1 k hk with e | e
    · exact hnv k e hm
    · have := hlt k hm; omega
  have hK1 : KT w1 := hK.only hw1 (fun hm => by simp at hm; exact h0v 0 hm (by simp))
  obtain ⟨X, hX⟩ : ∃ X, X = H.hash (padded H key 0x36 ++ data) := ⟨_, rfl⟩
  have hXl : X.length = H.size := by rw [hX, H.hash_length]
  rw [← hX] at hv1
  obtain ⟨A1, c1, rfl, hc1, hrd1, hoff1⟩ := hv1.slice
  have hll : (l ++ X).length = l.length + H.size := by simp [hXl]
  rw [hll]
  refine s_nil (p_then ?_)
  refine t_cut (fun _ : Unit => [(0, .ex (pt q.m 0)), (1, .ex (.slice A1 (l.length + H.size) c1)), (5, .ex (I l.length))]) (fun _ w' => Only q.fO w1 w' ∧ HmacAt H w' q key data kdf n ∧ HashAt H w' q.gO q.fO (padded H key 0x5c)) ?_ ?_
  · repeat (first | refine t_seq ?_ | refine t_region ?_ | refine s_nil ?_ | refine p_then ?_ | refine t_ret ?_ | refine p_then_ret ?_ | refine p_block_ret ?_ | refine t_block ?_ | refine t_exit ?_ | refine p_then_exit ?_ | refine p_block_exit ?_ | refine p_block ?_ | refine t_skip ?_)
    refine s_val (v_move rfl) rfl ?_
    first | refine s_val (v_nilCheck rfl) rfl ?_ | refine s_val (v_nilCheck_iface rfl) rfl ?_
    refine s_val (v_fieldAddr rfl (fo rfl)) rfl ?_
    refine s_val (v_load1 rfl (sc rfl) (by first | exact h1.blk.cell _ rfl | assumption)) rfl ?_
    repeat (first | refine t_seq ?_ | refine t_region ?_ | refine s_nil ?_ | refine p_then ?_ | refine t_ret ?_ | refine p_then_ret ?_ | refine p_block_ret ?_ | refine t_block ?_ | refine t_exit ?_ | refine p_then_exit ?_ | refine p_block_exit ?_ | refine p_block ?_ | refine t_skip ?_)
    refine t_false rfl ?_
    obtain ⟨d, hO1⟩ := h1.outer
    repeat (first | refine t_seq ?_ | refine t_region ?_ | refine s_nil ?_ | refine p_then ?_ | refine t_ret ?_ | refine p_then_ret ?_ | refine p_block_ret ?_ | refine t_block ?_ | refine t_exit ?_ | refine p_then_exit ?_ | refine p_block_exit ?_ | refine p_block ?_ | refine t_skip ?_)
    refine s_val (v_move rfl) rfl ?_
    first | refine s_val (v_nilCheck rfl) rfl ?_ | refine s_val (v_nilCheck_iface rfl) rfl ?_
    refine s_val (v_fieldAddr rfl (fo rfl)) rfl ?_
    refine s_val (v_load1 rfl (sc rfl) (by first | exact h1.blk.cell _ rfl | assumption)) rfl ?_
    refine s_op (o_invoke rfl rfl (H.mer _ _) H.enr (hReset hH hO1)) rfl rfl ?_
    rintro _ w2 hw2 hO2
    have h2 := h1.setOuter hw2 hO2
    have hK2 := hK1.only hw2 h0
    repeat (first | refine t_seq ?_ | refine t_region ?_ | refine s_nil ?_ | refine p_then ?_ | refine t_ret ?_ | refine p_then_ret ?_ | refine p_block_ret ?_ | refine t_block ?_ | refine t_exit ?_ | refine p_then_exit ?_ | refine p_block_exit ?_ | refine p_block ?_ | refine t_skip ?_)
    refine t_drawO 10 (by kernel_rfl) rfl ?_
    refine fk_val (Only.refl _) (fun wF hR => v_move rfl) ?_
    first | refine fk_val (Only.refl _) (fun wF hR => v_nilCheck rfl) ?_ | refine fk_val (Only.refl _) (fun wF hR => v_nilCheck_iface rfl) ?_
    refine fk_val (Only.refl _) (fun wF hR => v_fieldAddr rfl (fo rfl)) ?_
    refine fk_val (Only.refl _) (fun wF hR => v_load1 rfl (sc rfl) (by first | exact (h2.blk.only hR (by simp)).cell _ rfl | assumption)) ?_
    refine fk_val (Only.refl _) (fun wF hR => v_move rfl) ?_
    first | refine fk_val (Only.refl _) (fun wF hR => v_nilCheck rfl) ?_ | refine fk_val (Only.refl _) (fun wF hR => v_nilCheck_iface rfl) ?_
    refine fk_val (Only.refl _) (fun wF hR => v_fieldAddr rfl (fo rfl)) ?_
    refine fk_val (Only.refl _) (fun wF hR => v_load1 rfl (sc rfl) (by first | exact (h2.blk.only hR (by simp)).cell _ rfl | assumption)) ?_
    first | refine fk_val (Only.refl _) (fun wF hR => v_nilCheck rfl) ?_ | refine fk_val (Only.refl _) (fun wF hR => v_nilCheck_iface rfl) ?_
    refine fk_val (Only.refl _) (fun wF hR => v_move rfl) ?_
    refine fk_nil (fun w3 hw3 => ?_)
    have h3 := h2.only hw3 (by simp)
    have hO3 := hO2.only hw3 (by simp)
    have hcall := hWrite (c := H.block) hH hO3 h3.opad.rd0 (fun _ => Off.pt h3.parts.2.1.2.1) (by omega) (by simp; omega) (hK2.only hw3 (by simp)) h0
    rw [hpo] at hcall
    refine s_op (o_invoke rfl rfl (H.mew _ _) H.enw hcall) rfl rfl ?_
    rintro _ w4 hw4 ⟨rfl, hO4⟩
    rw [List.nil_append] at hO4
    repeat (first | refine t_seq ?_ | refine t_region ?_ | refine s_nil ?_ | refine p_then ?_ | refine t_ret ?_ | refine p_then_ret ?_ | refine p_block_ret ?_ | refine t_block ?_ | refine t_exit ?_ | refine p_then_exit ?_ | refine p_block_exit ?_ | refine p_block ?_ | refine t_skip ?_)
    exact p_cut () ⟨rfl, rfl, rfl, trivial⟩ ⟨(hw2.trans (hw3.mono (by simp))).trans hw4, h3.setOuter hw4 hO4, hO4⟩
  rintro _ w2 ⟨hw2, h2, hO2⟩
  have hK2 := hK1.only hw2 h0
  have hnO1 : Nots (.slice A1 (l ++ X).length c1) q.fO := fun k hk hm => hn1 k hk (by simp [HP.fp, hm])
  have hv2 := hv1.only hw2 hnO1
  have hrd2 := hrd1.only hw2 (fun _ => hoff1 _ hnO1)
  repeat (first | refine t_seq ?_ | refine t_region ?_ | refine s_nil ?_ | refine p_then ?_ | refine t_ret ?_ | refine p_then_ret ?_ | refine p_block_ret ?_ | refine t_block ?_ | refine t_exit ?_ | refine p_then_exit ?_ | refine p_block_exit ?_ | refine p_block ?_ | refine t_skip ?_)
  refine t_drawO 9 (by kernel_rfl) rfl ?_
  refine fk_val (Only.refl _) (fun wF hR => v_move rfl) ?_
  first | refine fk_val (Only.refl _) (fun wF hR => v_nilCheck rfl) ?_ | refine fk_val (Only.refl _) (fun wF hR => v_nilCheck_iface rfl) ?_
  refine fk_val (Only.refl _) (fun wF hR => v_fieldAddr rfl (fo rfl)) ?_
  refine fk_val (Only.refl _) (fun wF hR => v_load1 rfl (sc rfl) (by first | exact (h2.blk.only hR (by simp)).cell _ rfl | assumption)) ?_
  refine fk_val (Only.refl _) (fun wF hR => v_move rfl) ?_
  refine fk_val (Only.refl _) (fun wF hR => v_move rfl) ?_
  refine fk_val (Only.refl _) (fun wF hR => v_sliceLo rfl rfl (so rfl) (by omega)) ?_
  first | refine fk_val (Only.refl _) (fun wF hR => v_nilCheck rfl) ?_ | refine fk_val (Only.refl _) (fun wF hR => v_nilCheck_iface rfl) ?_
  refine fk_val (Only.refl _) (fun wF hR => v_move rfl) ?_
  refine fk_nil (fun w3 hw3 => ?_)
  have h3 := h2.only hw3 (by simp)
  have hO3 := hO2.only hw3 (by simp)
  have hrd3 := hrd2.pure hw3
  have hcut := hrd3.cut l.length H.size (m := c1) (fun _ _ => by omega) (by omega)
  rw [List.drop_left, List.take_of_length_le (by omega)] at hcut
  have hcall := hWrite (c := c1 - l.length) hH hO3 hcut (fun _ => (hoff1 _ hnO1).cut _ _) (by omega) (by omega) (hK2.only hw3 (by simp)) h0
  rw [show X.length = l.length + H.size - l.length by omega] at hcall
  refine s_op (o_invoke rfl rfl (H.mew _ _) H.enw hcall) rfl rfl ?_
  rintro _ w4 hw4 ⟨rfl, hO4⟩
  have h4 := h3.setOuter hw4 hO4
  have hK4 := (hK2.only hw3 (by simp)).only hw4 h0
  have hv4 := ((hv2.only hw3 (by simp [Nots])).only hw4 hnO1).head' rfl
  repeat (first | refine t_seq ?_ | refine t_region ?_ | refine s_nil ?_ | refine p_then ?_ | refine t_ret ?_ | refine p_then_ret ?_ | refine p_block_ret ?_ | refine t_block ?_ | refine t_exit ?_ | refine p_then_exit ?_ | refine p_block_exit ?_ | refine p_block ?_ | refine t_skip ?_)
  refine t_drawO 9 (by kernel_rfl) rfl ?_
  refine fk_val (Only.refl _) (fun wF hR => v_move rfl) ?_
  first | refine fk_val (Only.refl _) (fun wF hR => v_nilCheck rfl) ?_ | refine fk_val (Only.refl _) (fun wF hR => v_nilCheck_iface rfl) ?_
  refine fk_val (Only.refl _) (fun wF hR => v_fieldAddr rfl (fo rfl)) ?_
  refine fk_val (Only.refl _) (fun wF hR => v_load1 rfl (sc rfl) (by first | exact (h4.blk.only hR (by simp)).cell _ rfl | assumption)) ?_
  refine fk_val (Only.refl _) (fun wF hR => v_move rfl) ?_
  refine fk_val (Only.refl _) (fun wF hR => v_move rfl) ?_
  refine fk_val (Only.refl _) (fun wF hR => v_sliceHi rfl rfl (so rfl) (by omega)) ?_
  first | refine fk_val (Only.refl _) (fun wF hR => v_nilCheck rfl) ?_ | refine fk_val (Only.refl _) (fun wF hR => v_nilCheck_iface rfl) ?_
  refine fk_val (Only.refl _) (fun wF hR => v_move rfl) ?_
  refine fk_nil (fun w5 hw5 => ?_)
  have h5 := h4.only hw5 (by simp)
  have hO5 := hO4.only hw5 (by simp)
  have hv5 := hv4.only hw5 (by simp [Nots])
  have hn5 : Nots (.slice A1 l.length c1) q.fp := fun k hk => hn1 k (by rw [own_same A1 _ _ l.length c1]; exact hk)
  have hnO5 : Nots (.slice A1 l.length c1) q.fO := fun k hk hm => hn5 k hk (by simp [HP.fp, hm])
  refine s_op (o_invoke rfl rfl (H.mes _ _) H.ens (hSum hH hO5 hv5 hnO5 (by simp; omega) (by omega) (hK4.only hw5 (by simp)))) rfl rfl ?_
  rintro v6 w6 hw6 ⟨hv6, hk6⟩
  refine s_val (v_assign rfl) rfl ?_
  have h6 := h5.only hw6 (fun i hi hm => by simp at hm; exact hn5 i hm hi)
  repeat (first | refine t_seq ?_ | refine t_region ?_ | refine s_nil ?_ | refine p_then ?_ | refine t_ret ?_ | refine p_then_ret ?_ | refine p_block_ret ?_ | refine t_block ?_ | refine t_exit ?_ | refine p_then_exit ?_ | refine p_block_exit ?_ | refine p_block ?_ | refine t_skip ?_)
  have hbase : Only q.fO w1 w5 := ((hw2.trans (hw3.mono (by simp))).trans hw4).trans (hw5.mono (by simp))
  refine ret1 rfl rfl ⟨_, rfl, ?_, ⟨?_, ?_⟩, h6⟩
  · refine ((hw1.mono (fp' := q.fO ++ (Value.slice A l.length c).ownBlock.toList) (fun i hi _ => List.mem_append_right _ hi)).trans (hbase.mono (fun i hi _ => List.mem_append_left _ hi))).trans_new hw6 (fun i hi => ?_)
    simp at hi
    rcases hk1 i (by rw [own_same A1 _ _ l.length c1]; exact hi) with e | e
    · left; simp; exact .inr e
    · exact .inr e
  · rw [hX] at hv6; exact hv6
  · intro k hk
    rcases hk6 k hk with e | e
    · exact hk1 k (by rw [own_same A1 _ _ l.length c1]; exact e)
    · exact .inr (Nat.le_trans hw1.size (Nat.le_trans hbase.size e))
end
end Go.Proofs.YtnaefgnjdmmmcaaGreatDoor
/- HMAC in the program: Reset, of a hash that cannot be marshalled. -/
namespace Go.Proofs.YtnaefgnjdmmmcaaGreatDoor
open Go.RowKit

theorem v_typeAssert {P : Program} {N : Nat} {Γ : Env} {w : World} {d : Option Tmp} {ty : TypeId} {pos : String} {af : Array Edge} {gd : Option (Nat × Bool)} {x : Operand} {t t' : TypeId} {b : Bool} {v u : Value} (hx : Γ.op x = some (.ex v)) (h : (Instr.typeAssert v t t' b).run P w = .ok u w) : ValAt P N Γ w ⟨d, .typeAssert x t t' b, ty, pos, af, gd⟩ u := fun a ha => by
  have h1 := ha.val (x := x) (by simp [Op.operands]) hx
  simp only [execOp, h1, Sem.run_bind, h, Result.andThen_ok, Sem.run_pure]
theorem least_some {l : List String} (h : l ≠ []) : ∃ m, Instr.least l = some m := by
  cases l with
  | nil => exact absurd rfl h
  | cons x r => exact ⟨_, rfl⟩
theorem missing_some {want : Array (String × TypeId)} {got : Array Method} (h : (want.toList.filter fun (name, sig) => !got.any fun m => m.name == name && m.sig == sig).isEmpty = false) : ∃ m, Instr.missingMethod want got = some m := by
  unfold Instr.missingMethod
  generalize hl : (want.toList.filter fun (name, sig) => !got.any fun m => m.name == name && m.sig == sig) = l at h ⊢
  cases l with
  | nil => cases h
  | cons x r =>
    simp only [List.map_cons, List.partition_eq_filter_filter]
    by_cases hx : (x.1).contains (Char.ofNat 46) = true
    · cases he : Instr.least (List.filter (not ∘ fun x => String.contains x (Char.ofNat 46)) (x.1 :: r.map (·.1))) with
      | some m => exact ⟨m, rfl⟩
      | none =>
        obtain ⟨m, hm⟩ := least_some (l := (List.filter (fun x => String.contains x (Char.ofNat 46)) (x.1 :: r.map (·.1))).map fun id => (id.splitOn ".").getLastD id) (by rw [List.filter_cons_of_pos (p := fun x : String => String.contains x (Char.ofNat 46)) hx, List.map_cons]; exact List.cons_ne_nil _ _)
        exact ⟨m, by simpa using hm⟩
    · obtain ⟨m, hm⟩ := least_some (l := List.filter (not ∘ fun x => String.contains x (Char.ofNat 46)) (x.1 :: r.map (·.1))) (by
        rw [List.filter_cons_of_pos (by
          show (!(x.1).contains (Char.ofNat 46)) = true
          cases hc : (x.1).contains (Char.ofNat 46) with
          | true => exact absurd hc hx
          | false => rfl)]
        exact List.cons_ne_nil _ _)
      exact ⟨m, by rw [hm]; rfl⟩
theorem ta67 (v : Value) (w : World) : (Instr.typeAssert (.iface 67 v) 75 122 true).run Tryz.prog w = .ok (.tuple #[.nilIface, .bool false]) w := by
  have hz : (Tryz.prog.info? 122).bind (·.zero) = some .nilIface := by kernel_rfl
  have hm : (match Tryz.prog.underlying 122, Tryz.prog.info? 67 with
    | some (.interface want), some i => (want.toList.filter fun (name, sig) => !i.methods.any fun m => m.name == name && m.sig == sig).isEmpty
    | _, _ => true) = false := by kernel_rfl
  cases hu : Tryz.prog.underlying 122 with
  | none => rw [hu] at hm; cases hm
  | some u =>
    rw [hu] at hm
    cases hi : Tryz.prog.info? 67 with
    | none => rw [hi] at hm; cases u <;> cases hm
    | some i =>
      rw [hi] at hm
      cases u <;> first | (cases hm; done) | skip
      rename_i want
      obtain ⟨m, hmm⟩ := missing_some hm
      cases hj : Tryz.prog.info? 122 with
      | none => rw [hj] at hz; cases hz
      | some j =>
        rw [hj] at hz
        simp only [Option.bind_some] at hz
        simp [Instr.typeAssert, run_underlying hu, typeInfo, hi, hmm, zeroValue, hj, hz]
attribute [local irreducible] ValAt OpAt RunX Tr Post FlowK
section
variable {w : World} {q : HP} {key data : Bytes} {kdf : Bool} {n s b : Nat}
/-- (*HMAC).Reset -/
theorem c91 (hH : (HK.own s b).ok) (h : HmacAt (.own s b) w q key data kdf n) (hK : KT w) (h0 : 0 ∉ q.fI) :
    Calls Tryz.prog 91 #[pt q.m 0] w (Ret q.fI w fun _ w' => HmacAt (.own s b) w' q key [] kdf n) := by
  have hpl := padded_length hH key 0x36
  have hbl := HK.block_le hH
  refine enter (Γ := [(0, .ex (pt q.m 0))]) Tryz.func91 rfl rfl rfl ⟨⟨_, rfl, rfl⟩, trivial⟩ ?_
  refine t_cut (fun _ : Unit => [(0, .ex (pt q.m 0))]) (fun _ w' => w = w') ?_ ?_
  · repeat (first | refine t_seq ?_ | refine t_region ?_ | refine s_nil ?_ | refine p_then ?_ | refine t_ret ?_ | refine p_then_ret ?_ | refine p_block_ret ?_ | refine t_block ?_ | refine t_exit ?_ | refine p_then_exit ?_ | refine p_block_exit ?_ | refine p_block ?_ | refine t_skip ?_)
    refine s_val (v_move rfl) rfl ?_
    first | refine s_val (v_nilCheck rfl) rfl ?_ | refine s_val (v_nilCheck_iface rfl) rfl ?_
    refine s_val (v_fieldAddr rfl (fo rfl)) rfl ?_
    refine s_val (v_load1 rfl (sc rfl) (by first | exact h.blk.cell _ rfl | assumption)) rfl ?_
    repeat (first | refine t_seq ?_ | refine t_region ?_ | refine s_nil ?_ | refine p_then ?_ | refine t_ret ?_ | refine p_then_ret ?_ | refine p_block_ret ?_ | refine t_block ?_ | refine t_exit ?_ | refine p_then_exit ?_ | refine p_block_exit ?_ | refine p_block ?_ | refine t_skip ?_)
    refine t_false rfl ?_
    repeat (first | refine t_seq ?_ | refine t_region ?_ | refine s_nil ?_ | refine p_then ?_ | refine t_ret ?_ | refine p_then_ret ?_ | refine p_block_ret ?_ | refine t_block ?_ | refine t_exit ?_ | refine p_then_exit ?_ | refine p_block_exit ?_ | refine p_block ?_ | refine t_skip ?_)
    exact p_cut () ⟨rfl, trivial⟩ rfl
  rintro _ _ rfl
  repeat (first | refine t_seq ?_ | refine t_region ?_ | refine s_nil ?_ | refine p_then ?_ | refine t_ret ?_ | refine p_then_ret ?_ | refine p_block_ret ?_ | refine t_block ?_ | refine t_exit ?_ | refine p_then_exit ?_ | refine p_block_exit ?_ | refine p_block ?_ | refine t_skip ?_)
  refine s_val (v_move rfl) rfl ?_
  first | refine s_val (v_nilCheck rfl) rfl ?_ | refine s_val (v_nilCheck_iface rfl) rfl ?_
  refine s_val (v_fieldAddr rfl (fo rfl)) rfl ?_
  refine s_val (v_load1 rfl (sc rfl) (by first | exact h.blk.cell _ rfl | assumption)) rfl ?_
  refine s_op (o_invoke rfl rfl (HK.mer (.own s b) _ _) (HK.enr (.own s b)) (hReset hH h.inner)) rfl rfl ?_
  rintro _ w1 hw1 h1
  have k1 := hK.only hw1 h0
  obtain ⟨⟨n1, n2, n3, n4⟩, _⟩ := h.parts
  have hb1 := h.blk.only hw1 n1
  have hi1 := h.ipad.only hw1 n3
  repeat (first | refine t_seq ?_ | refine t_region ?_ | refine s_nil ?_ | refine p_then ?_ | refine t_ret ?_ | refine p_then_ret ?_ | refine p_block_ret ?_ | refine t_block ?_ | refine t_exit ?_ | refine p_then_exit ?_ | refine p_block_exit ?_ | refine p_block ?_ | refine t_skip ?_)
  refine t_drawO 10 (by kernel_rfl) rfl ?_
  refine fk_val (Only.refl _) (fun wF hR => v_move rfl) ?_
  first | refine fk_val (Only.refl _) (fun wF hR => v_nilCheck rfl) ?_ | refine fk_val (Only.refl _) (fun wF hR => v_nilCheck_iface rfl) ?_
  refine fk_val (Only.refl _) (fun wF hR => v_fieldAddr rfl (fo rfl)) ?_
  refine fk_val (Only.refl _) (fun wF hR => v_load1 rfl (sc rfl) (by first | exact (hb1.only hR (by simp)).cell _ rfl | assumption)) ?_
  refine fk_val (Only.refl _) (fun wF hR => v_move rfl) ?_
  first | refine fk_val (Only.refl _) (fun wF hR => v_nilCheck rfl) ?_ | refine fk_val (Only.refl _) (fun wF hR => v_nilCheck_iface rfl) ?_
  refine fk_val (Only.refl _) (fun wF hR => v_fieldAddr rfl (fo rfl)) ?_
  refine fk_val (Only.refl _) (fun wF hR => v_load1 rfl (sc rfl) (by first | exact (hb1.only hR (by simp)).cell _ rfl | assumption)) ?_
  first | refine fk_val (Only.refl _) (fun wF hR => v_nilCheck rfl) ?_ | refine fk_val (Only.refl _) (fun wF hR => v_nilCheck_iface rfl) ?_
  refine fk_val (Only.refl _) (fun wF hR => v_move rfl) ?_
  refine fk_nil (fun w2 hw2 => ?_)
  have h2 := h1.only hw2 (by simp)
  have hi2 := hi1.only hw2 (by simp)
  have hcall := hWrite (c := (HK.own s b).block) hH h2 hi2.rd0 (fun _ => Off.pt n3) (by omega) (by simp; omega) (k1.only hw2 (by simp)) h0
  rw [hpl] at hcall
  refine s_op (o_invoke rfl rfl (HK.mew (.own s b) _ _) (HK.enw (.own s b)) hcall) rfl rfl ?_
  rintro _ w3 hw3 ⟨rfl, h3⟩
  have hw03 : Only q.fI w w3 := (hw1.trans (hw2.mono (by simp))).trans hw3
  have h3' := h.setInner (data' := []) hw03 (by simpa using h3)
  repeat (first | refine t_seq ?_ | refine t_region ?_ | refine s_nil ?_ | refine p_then ?_ | refine t_ret ?_ | refine p_then_ret ?_ | refine p_block_ret ?_ | refine t_block ?_ | refine t_exit ?_ | refine p_then_exit ?_ | refine p_block_exit ?_ | refine p_block ?_ | refine t_skip ?_)
  refine s_val (v_move rfl) rfl ?_
  first | refine s_val (v_nilCheck rfl) rfl ?_ | refine s_val (v_nilCheck_iface rfl) rfl ?_
  refine s_val (v_fieldAddr rfl (fo rfl)) rfl ?_
  refine s_val (v_load1 rfl (sc rfl) (by first | exact h3'.blk.cell _ rfl | assumption)) rfl ?_
  refine s_val (v_typeAssert rfl (ta67 _ _)) rfl ?_
  refine s_val (v_move rfl) rfl ?_
  refine s_val (v_extract rfl rfl) rfl ?_
  refine s_val (v_extract rfl rfl) rfl ?_
  refine s_val (v_assign rfl) rfl ?_
  refine s_val (v_assign rfl) rfl ?_
  repeat (first | refine t_seq ?_ | refine t_region ?_ | refine s_nil ?_ | refine p_then ?_ | refine t_ret ?_ | refine p_then_ret ?_ | refine p_block_ret ?_ | refine t_block ?_ | refine t_exit ?_ | refine p_then_exit ?_ | refine p_block_exit ?_ | refine p_block ?_ | refine t_skip ?_)
  refine s_val (v_move rfl) rfl ?_
  refine s_val (v_bool_not rfl) rfl ?_
  repeat (first | refine t_seq ?_ | refine t_region ?_ | refine s_nil ?_ | refine p_then ?_ | refine t_ret ?_ | refine p_then_ret ?_ | refine p_block_ret ?_ | refine t_block ?_ | refine t_exit ?_ | refine p_then_exit ?_ | refine p_block_exit ?_ | refine p_block ?_ | refine t_skip ?_)
  refine t_true rfl ?_
  repeat (first | refine t_seq ?_ | refine t_region ?_ | refine s_nil ?_ | refine p_then ?_ | refine t_ret ?_ | refine p_then_ret ?_ | refine p_block_ret ?_ | refine t_block ?_ | refine t_exit ?_ | refine p_then_exit ?_ | refine p_block_exit ?_ | refine p_block ?_ | refine t_skip ?_)
  exact ret0 rfl ⟨_, rfl, hw03, h3'⟩
end
end Go.Proofs.YtnaefgnjdmmmcaaGreatDoor
/- HMAC in the program, before its making is done: words and rules for hmac.New. -/
namespace Go.Proofs.YtnaefgnjdmmmcaaGreatDoor
open Go.RowKit

/-! ## Rules of operations whose operand is known only by a predicate -/
section
variable {P : Program} {N : Nat} {Γ : Env} {w : World} {d : Option Tmp} {ty : TypeId} {pos : String} {af : Array Edge} {gd : Option (Nat × Bool)}
theorem o_iface_ab {t : TypeId} {x : Operand} {p : Pred} {R : World → World → Prop} (hR : ∀ w, R w w) (hx : Γ.op x = some (.ab p)) (ht : concrete P t = true) : OpAt P N Γ w ⟨d, .makeInterface t x, ty, pos, af, gd⟩ R (fun v w => ∃ u, v = .iface t u ∧ p u w) :=
  opAt_val fun a ha => by
    have h : p (a.eval x) w := ha.get x (by simp [Op.operands]) _ hx
    refine ⟨.iface t (a.eval x), w, ?_, hR w, _, rfl, h⟩
    unfold concrete at ht
    cases hu : P.underlying t with
    | none => rw [hu] at ht; cases ht
    | some u =>
      rw [hu] at ht
      cases u <;> simp at ht <;> simp [execOp, Instr.makeInterface, underlying, hu]
theorem o_make_ab {b : Nat} {x y : Operand} {t e : TypeId} {z : Value} {bytes : Nat} (hT : RowTy P t e z bytes) {n : Nat} (hb0 : b ≤ w.heap.size) (hx : Γ.op x = some (.ex (I n))) (hy : Γ.op y = some (.ex (I n))) (hb : bytes * n ≤ 281474976710656) (h63 : n ≤ 9223372036854775807) :
    OpAt P N Γ w ⟨d, .makeSlice t x y, ty, pos, af, gd⟩ (Only []) (fun v w' => ∃ k, b ≤ k ∧ v = .slice (some ⟨k, 0, none⟩) n n ∧ Blk w' k e (List.replicate n z).toArray) :=
  opAt_mono (o_makeSlice hT hx hy (Nat.le_refl _) hb h63) (fun _ h => h) (fun _ _ _ ⟨h1, h2⟩ => ⟨_, hb0, h1, h2⟩)
theorem o_mk {H : HK} {b : Nat} {x : Operand} {h : Value} (hm : Mk H h) (hx : Γ.op x = some (.ex h)) (hb : b ≤ w.heap.size) : OpAt Tryz.prog N Γ w ⟨d, .call ⟨.value x, #[], #[]⟩, ty, pos, af, gd⟩ (Only []) (fun v w' => ∃ g, v = pt g 0 ∧ Made H b w' g) := by
  obtain ⟨f, first, rfl, he, hc⟩ := hm.calls w
  refine opAt_mono (o_callv (xs := []) hx rfl he hc) (fun _ h => h) (fun v w' _ ⟨g, h1, fp, h2, h3⟩ => ⟨g, h1, fp, h2, fun k hk => Nat.le_trans hb (h3 k hk)⟩)
end
theorem Only.refl' : ∀ w : World, Only [] w w := Only.refl []
theorem Made.only {H : HK} {b g : Nat} {w w' : World} (h : Made H b w g) (k : Only [] w w') : Made H b w' g := let ⟨fp, h1, h2⟩ := h; ⟨fp, h1.only k (by simp), h2⟩
theorem st_ptr {H : HK} {b : Nat} : ∀ (u : Value) (w w' : World), (∃ g, u = pt g 0 ∧ Made H b w g) → Only [] w w' → (∃ g, u = pt g 0 ∧ Made H b w' g) := fun _ _ _ ⟨g, h1, h2⟩ k => ⟨g, h1, h2.only k⟩
theorem st_if {H : HK} {b : Nat} {T : TypeId} : ∀ (v : Value) (w w' : World), (∃ u, v = .iface T u ∧ ∃ g, u = pt g 0 ∧ Made H b w g) → Only [] w w' → (∃ u, v = .iface T u ∧ ∃ g, u = pt g 0 ∧ Made H b w' g) := fun _ _ _ ⟨u, h0, g, h1, h2⟩ k => ⟨u, h0, g, h1, h2.only k⟩
theorem st_mk {b n e : Nat} {cs : Array Value} : ∀ (v : Value) (w w' : World), (∃ k, b ≤ k ∧ v = .slice (some ⟨k, 0, none⟩) n n ∧ Blk w k e cs) → Only [] w w' → (∃ k, b ≤ k ∧ v = .slice (some ⟨k, 0, none⟩) n n ∧ Blk w' k e cs) := fun _ _ _ ⟨k, h1, h2, h3⟩ h => ⟨k, h1, h2, h3.only h (by simp)⟩
theorem HashAt.nodup {H : HK} {w : World} {g : Nat} {fp : List Nat} {data : Bytes} (h : HashAt H w g fp data) : fp.Nodup := by
  cases H with
  | sha => obtain ⟨rfl, _⟩ := h; simp
  | own s b => obtain ⟨t, rfl, h⟩ := h; simpa using h.ne
theorem HashAt.two {H : HK} {w : World} {g1 g2 : Nat} {f1 f2 : List Nat} {d1 d2 : Bytes} (h1 : HashAt H w g1 f1 d1) (h2 : HashAt H w g2 f2 d2) (hne : g1 ≠ g2) : ∀ w', Only [] w w' → (binOp .eql 75 (H.val g1) (H.val g2)).run Tryz.prog w' = .ok (.bool false) w' := fun w' hw => by
  obtain ⟨T1, c1, b1⟩ := h1.blk
  obtain ⟨T2, c2, b2⟩ := h2.blk
  cases H with
  | sha => exact run_eq64 hne (b1.only hw (by simp)) (b2.only hw (by simp))
  | own s b => exact run_eq67 hne (b1.only hw (by simp)) (b2.only hw (by simp))

/-! ## The HMAC while it is made -/
structure HmPre (H : HK) (w : World) (q : HP) (n : Nat) (ob ib di : Bytes) : Prop where
  blk : Blk w q.m 120 (hmCells H q false n)
  opad : Blk w q.o 5 (ob.map B).toArray
  ipad : Blk w q.i 5 (ib.map B).toArray
  outer : ∃ d, HashAt H w q.gO q.fO d
  inner : HashAt H w q.gI q.fI di
  nd : q.fp.Nodup
section
variable {H : HK} {w w' : World} {q : HP} {fp' : List Nat} {n : Nat} {ob ib di : Bytes}
theorem HmPre.only (h : HmPre H w q n ob ib di) (k : Only fp' w w') (hd : ∀ i ∈ q.fp, i ∉ fp') : HmPre H w' q n ob ib di := by
  obtain ⟨d, ho⟩ := h.outer
  exact ⟨h.blk.only k (hd _ (by simp [HP.fp])), h.opad.only k (hd _ (by simp [HP.fp])), h.ipad.only k (hd _ (by simp [HP.fp])), ⟨d, ho.only k (fun i hi => hd i (by simp [HP.fp, hi]))⟩,
    h.inner.only k (fun i hi => hd i (by simp [HP.fp, hi])), h.nd⟩
theorem HmPre.nots (h : HmPre H w q n ob ib di) : (q.m ≠ q.o ∧ q.m ≠ q.i ∧ q.o ≠ q.i) ∧ (q.m ∉ q.fO ∧ q.o ∉ q.fO ∧ q.i ∉ q.fO) ∧ (q.m ∉ q.fI ∧ q.o ∉ q.fI ∧ q.i ∉ q.fI) ∧ (∀ k ∈ q.fO, k ∉ q.fI) ∧ ∀ k ∈ q.fI, k ∉ q.fO := by
  have := h.nd
  simp only [HP.fp, List.nodup_cons, List.nodup_append, List.mem_cons, List.mem_append, not_or] at this
  obtain ⟨⟨h1, h2, h3, h4⟩, ⟨h5, h6, h7⟩, ⟨h8, h9⟩, _, _, h10⟩ := this
  exact ⟨⟨h1, h2, h5⟩, ⟨h3, h6, h8⟩, ⟨h4, h7, h9⟩, fun k hk hi => h10 k hk k hi rfl, fun k hk ho => h10 k ho k hk rfl⟩
theorem HmPre.setI {ib' : Bytes} (h : HmPre H w q n ob ib di) (k : Only [q.i] w w') (hi : Blk w' q.i 5 (ib'.map B).toArray) : HmPre H w' q n ob ib' di := by
  obtain ⟨⟨a1, a2, a3⟩, ⟨b1, b2, b3⟩, ⟨c1, c2, c3⟩, _⟩ := h.nots
  obtain ⟨d, ho⟩ := h.outer
  exact ⟨h.blk.only k (by simpa using a2), h.opad.only k (by simpa using a3), hi, ⟨d, ho.only k (fun j hj => by simp; rintro rfl; exact b3 hj)⟩, h.inner.only k (fun j hj => by simp; rintro rfl; exact c3 hj), h.nd⟩
theorem HmPre.setO {ob' : Bytes} (h : HmPre H w q n ob ib di) (k : Only [q.o] w w') (hi : Blk w' q.o 5 (ob'.map B).toArray) : HmPre H w' q n ob' ib di := by
  obtain ⟨⟨a1, a2, a3⟩, ⟨b1, b2, b3⟩, ⟨c1, c2, c3⟩, _⟩ := h.nots
  obtain ⟨d, ho⟩ := h.outer
  exact ⟨h.blk.only k (by simpa using a1), hi, h.ipad.only k (by simp; exact fun e => a3 e.symm), ⟨d, ho.only k (fun j hj => by simp; rintro rfl; exact b2 hj)⟩, h.inner.only k (fun j hj => by simp; rintro rfl; exact c2 hj), h.nd⟩
theorem HmPre.setOuter {d : Bytes} (h : HmPre H w q n ob ib di) (k : Only q.fO w w') (ho : HashAt H w' q.gO q.fO d) : HmPre H w' q n ob ib di := by
  obtain ⟨⟨a1, a2, a3⟩, ⟨b1, b2, b3⟩, ⟨c1, c2, c3⟩, e1, e2⟩ := h.nots
  exact ⟨h.blk.only k b1, h.opad.only k b2, h.ipad.only k b3, ⟨d, ho⟩, h.inner.only k e2, h.nd⟩
theorem HmPre.lt (h : HmPre H w q n ob ib di) : ∀ k ∈ q.fp, k < w.heap.size := by
  intro k hk
  obtain ⟨d, ho⟩ := h.outer
  simp only [HP.fp, List.mem_cons, List.mem_append] at hk
  rcases hk with rfl | rfl | rfl | hk | hk
  · exact h.blk.lt
  · exact h.opad.lt
  · exact h.ipad.lt
  · exact ho.lt k hk
  · exact h.inner.lt k hk
theorem HmPre.done {key : Bytes} (h : HmPre H w q n (padded H key 0x5c) (padded H key 0x36) di) (k : Only q.fI w w') (hi : HashAt H w' q.gI q.fI (padded H key 0x36)) : HmacAt H w' q key [] false n := by
  obtain ⟨⟨a1, a2, a3⟩, ⟨b1, b2, b3⟩, ⟨c1, c2, c3⟩, e1, e2⟩ := h.nots
  obtain ⟨d, ho⟩ := h.outer
  exact ⟨h.blk.only k c1, h.opad.only k c2, h.ipad.only k c3, ⟨d, ho.only k e1⟩, by simpa using hi, h.nd⟩
end
/-- The key laid over noughts. -/
theorem spl_zeros (n : Nat) (m : Bytes) (h : m.length ≤ n) : spl (zeros n) 0 (m.take n) = m ++ zeros (n - m.length) := by
  rw [List.take_of_length_le h, spl]
  simp [zeros]
theorem padded_eq (H : HK) (key : Bytes) (x : UInt8) : padded H key x = (shortKey H key ++ zeros (H.block - (shortKey H key).length)).map (· ^^^ x) := rfl
theorem map_get (l : Bytes) (x : UInt8) (i : Nat) (h : i < l.length) : (l.map (· ^^^ x))[i]? = some (l.getD i 0 ^^^ x) := by
  simp [List.getD_eq_getElem?_getD, List.getElem?_eq_getElem h]
/-- A byte not reached yet. -/
theorem spl_at (l m : Bytes) (i : Nat) (h : i < l.length) (hm : m.length = l.length) : (spl l 0 (m.take i)).getD i 0 = l.getD i 0 := by
  rw [List.getD_eq_getElem?_getD, spl_get (by simp; omega), if_neg (by simp; omega), List.getD_eq_getElem?_getD]
structure KS where
  A : Option Addr
  c : Nat
  k : Bytes
/-! ## A function that makes a hash, behind an interface -/
def MkI (H : HK) (w : World) (h : Value) : Prop := ∃ q u, Mk H u ∧ match H with
  | .sha => h = .func (.func 83) #[] #[pt q 0] ∧ Blk w q 65 #[u]
  | .own _ _ => h = .func (.func 85) #[] #[pt q 0] ∧ Blk w q 68 #[u]
theorem MkI.only {H : HK} {w w' : World} {h : Value} {b : Nat} {fp : List Nat} (hm : MkI H w h) (k : Only fp w w') (hb : ∀ i ∈ fp, b ≤ i) (hw : w.heap.size ≤ b) : MkI H w' h := by
  obtain ⟨q, u, h1, h2⟩ := hm
  refine ⟨q, u, h1, ?_⟩
  cases H with
  | sha => exact ⟨h2.1, h2.2.only k (fun hm => by have := hb q hm; have := h2.2.lt; omega)⟩
  | own s b => exact ⟨h2.1, h2.2.only k (fun hm => by have := hb q hm; have := h2.2.lt; omega)⟩
end Go.Proofs.YtnaefgnjdmmmcaaGreatDoor
/- The closures that lay a hash behind an interface. -/
namespace Go.Proofs.YtnaefgnjdmmmcaaGreatDoor
open Go.RowKit
section
attribute [local irreducible] ValAt OpAt RunX Tr Post FlowK
theorem c83 (q : Nat) (u : Value) (w : World) (hm : Mk .sha u) (hB : Blk w q 65 #[u]) : Calls Tryz.prog 83 #[pt q 0] w (Ret [] w fun v w' => ∃ g, v = HK.val .sha g ∧ Made .sha w.heap.size w' g) := by
  refine enter (Γ := [(0, .ex (pt q 0))]) Tryz.func83 rfl rfl rfl ⟨⟨_, rfl, rfl⟩, trivial⟩ ?_
  repeat (first | refine t_seq ?_ | refine t_region ?_ | refine s_nil ?_ | refine p_then ?_ | refine t_ret ?_ | refine p_then_ret ?_ | refine p_block_ret ?_ | refine t_block ?_ | refine t_exit ?_ | refine p_then_exit ?_ | refine p_block_exit ?_ | refine p_block ?_ | refine t_skip ?_)
  refine s_val (v_assign rfl) rfl ?_
  repeat (first | refine t_seq ?_ | refine t_region ?_ | refine s_nil ?_ | refine p_then ?_ | refine t_ret ?_ | refine p_then_ret ?_ | refine p_block_ret ?_ | refine t_block ?_ | refine t_exit ?_ | refine p_then_exit ?_ | refine p_block_exit ?_ | refine p_block ?_ | refine t_skip ?_)
  refine s_val (v_load1 rfl (sc rfl) (by first | exact hB.cell _ rfl | assumption)) rfl ?_
  refine s_op (o_mk (b := w.heap.size) hm rfl (Nat.le_refl _)) rfl rfl ?_
  rintro _ w1 hw1 ⟨g, rfl, hg⟩
  refine s_val (v_makeInterface rfl (co rfl)) rfl ?_
  refine s_val (v_assign rfl) rfl ?_
  repeat (first | refine t_seq ?_ | refine t_region ?_ | refine s_nil ?_ | refine p_then ?_ | refine t_ret ?_ | refine p_then_ret ?_ | refine p_block_ret ?_ | refine t_block ?_ | refine t_exit ?_ | refine p_then_exit ?_ | refine p_block_exit ?_ | refine p_block ?_ | refine t_skip ?_)
  exact ret1 rfl rfl ⟨_, rfl, hw1, g, rfl, hg⟩
theorem c85 (s b : Nat) (q : Nat) (u : Value) (w : World) (hm : Mk (.own s b) u) (hB : Blk w q 68 #[u]) : Calls Tryz.prog 85 #[pt q 0] w (Ret [] w fun v w' => ∃ g, v = HK.val (.own s b) g ∧ Made (.own s b) w.heap.size w' g) := by
  refine enter (Γ := [(0, .ex (pt q 0))]) Tryz.func85 rfl rfl rfl ⟨⟨_, rfl, rfl⟩, trivial⟩ ?_
  repeat (first | refine t_seq ?_ | refine t_region ?_ | refine s_nil ?_ | refine p_then ?_ | refine t_ret ?_ | refine p_then_ret ?_ | refine p_block_ret ?_ | refine t_block ?_ | refine t_exit ?_ | refine p_then_exit ?_ | refine p_block_exit ?_ | refine p_block ?_ | refine t_skip ?_)
  refine s_val (v_assign rfl) rfl ?_
  repeat (first | refine t_seq ?_ | refine t_region ?_ | refine s_nil ?_ | refine p_then ?_ | refine t_ret ?_ | refine p_then_ret ?_ | refine p_block_ret ?_ | refine t_block ?_ | refine t_exit ?_ | refine p_then_exit ?_ | refine p_block_exit ?_ | refine p_block ?_ | refine t_skip ?_)
  refine s_val (v_load1 rfl (sc rfl) (by first | exact hB.cell _ rfl | assumption)) rfl ?_
  refine s_op (o_mk (b := w.heap.size) hm rfl (Nat.le_refl _)) rfl rfl ?_
  rintro _ w1 hw1 ⟨g, rfl, hg⟩
  refine s_val (v_makeInterface rfl (co rfl)) rfl ?_
  refine s_val (v_assign rfl) rfl ?_
  repeat (first | refine t_seq ?_ | refine t_region ?_ | refine s_nil ?_ | refine p_then ?_ | refine t_ret ?_ | refine p_then_ret ?_ | refine p_block_ret ?_ | refine t_block ?_ | refine t_exit ?_ | refine p_then_exit ?_ | refine p_block_exit ?_ | refine p_block ?_ | refine t_skip ?_)
  exact ret1 rfl rfl ⟨_, rfl, hw1, g, rfl, hg⟩
end
theorem MkI.calls {H : HK} {w : World} {h : Value} (hm : MkI H w h) : ∃ f cap, h = .func (.func f) #[] cap ∧ enters Tryz.prog f = true ∧ Calls Tryz.prog f (#[] ++ #[] ++ cap) w (Ret [] w fun v w' => ∃ g, v = H.val g ∧ Made H w.heap.size w' g) := by
  obtain ⟨q, u, h1, h2⟩ := hm
  cases H with
  | sha => exact ⟨83, #[pt q 0], h2.1, en rfl, c83 q u w h1 h2.2⟩
  | own s b => exact ⟨85, #[pt q 0], h2.1, en rfl, c85 s b q u w h1 h2.2⟩
theorem o_mkI {N : Nat} {Γ : Env} {w : World} {d : Option Tmp} {ty : TypeId} {pos : String} {af : Array Edge} {gd : Option (Nat × Bool)} {H : HK} {b : Nat} {x : Operand} {h : Value} (hm : MkI H w h) (hx : Γ.op x = some (.ex h)) (hb : b ≤ w.heap.size) : OpAt Tryz.prog N Γ w ⟨d, .call ⟨.value x, #[], #[]⟩, ty, pos, af, gd⟩ (Only []) (fun v w' => ∃ g, v = H.val g ∧ Made H b w' g) := by
  obtain ⟨f, cap, rfl, he, hc⟩ := hm.calls
  refine opAt_mono (o_callv (xs := []) hx rfl he hc) (fun _ h => h) (fun v w' _ ⟨g, h1, fp, h2, h3⟩ => ⟨g, h1, fp, h2, fun k hk => Nat.le_trans hb (h3 k hk)⟩)
theorem st_val {H : HK} {b : Nat} : ∀ (u : Value) (w w' : World), (∃ g, u = H.val g ∧ Made H b w g) → Only [] w w' → (∃ g, u = H.val g ∧ Made H b w' g) := fun _ _ _ ⟨g, h1, h2⟩ k => ⟨g, h1, h2.only k⟩
end Go.Proofs.YtnaefgnjdmmmcaaGreatDoor
