/-
  What is proved here, of the given program in the given model, of every input, with no condition but those that each theorem states ahead of its conclusion: The thin package in the program: early, handshake, Extract, ExpandLabel. The thin package in the program: the secrets of the schedule. The spec in the program: sizes, Size, Block, given, Joined. The spec's SHA-256 in the program: the constants, one block.
-/
import Derived.Test.YtnaefgnjdmmmcaaGreatDoorM07
/- The thin package in the program: early, handshake, Extract, ExpandLabel. -/
namespace Go.Proofs.YtnaefgnjdmmmcaaGreatDoor
open Go.RowKit
attribute [local irreducible] ValAt OpAt RunX Tr Post FlowK
def SlFr (b : Nat) (l : Bytes) : Pred := fun v w => SlAt l v w ∧ From b v
theorem st_slf {b : Nat} {l : Bytes} : ∀ (v : Value) (w w' : World), SlFr b l v w → Only [] w w' → SlFr b l v w' := fun v w w' ⟨h1, h2⟩ k => ⟨st_sl v w w' h1 k, h2⟩
theorem ld23 {k s b : Int} {w : World} {g : Nat} (hB : Blk w g 23 (hv k s b).cells) : (loadVar 23 ⟨g, 0, none⟩).run Tryz.prog w = .ok (hv k s b) w := loadVar_whole (Classical.choose_spec (st (t := 23) rfl)) rfl (oneH k s b) hB
theorem early_length (H : HK) (psk : Bytes) : (early H psk).length = H.size := mac_length _ _ _
set_option maxHeartbeats 1000000 in
/-- impl.early -/
theorem c36 (k s b : Int) (A : Option Addr) (c : Nat) (psk : Bytes) (w : World) (hp : Rd w A psk) (hl : psk.length ≤ 20000) (hK : KT w) (hw0 : 0 < w.heap.size) :
    Calls Tryz.prog 36 #[hv k s b, .slice A psk.length c] w (Ret [] w (SecPt 79 (hkOf k s b) (early (hkOf k s b) psk))) := by
  have hok := hkOf_ok k s b
  refine enter (Γ := [(0, .ex (hv k s b)), (1, .ex (.slice A psk.length c))]) Tryz.func36 rfl rfl rfl ⟨⟨_, rfl, rfl⟩, ⟨_, rfl, rfl⟩, trivial⟩ ?_
  repeat (first | refine t_seq ?_ | refine t_region ?_ | refine s_nil ?_ | refine p_then ?_ | refine t_ret ?_ | refine p_then_ret ?_ | refine p_block_ret ?_ | refine t_block ?_ | refine t_exit ?_ | refine p_then_exit ?_ | refine p_block_exit ?_ | refine p_block ?_ | refine t_skip ?_)
  refine s_op (o_box rfl) rfl rfl ?_
  rintro _ w1 hw1 ⟨rfl, hB1⟩
  refine s_val (v_assign rfl) rfl ?_
  have hs1 := hw1.size
  repeat (first | refine t_seq ?_ | refine t_region ?_ | refine s_nil ?_ | refine p_then ?_ | refine t_ret ?_ | refine p_then_ret ?_ | refine p_block_ret ?_ | refine t_block ?_ | refine t_exit ?_ | refine p_then_exit ?_ | refine p_block_exit ?_ | refine p_block ?_ | refine t_skip ?_)
  refine s_val (v_fieldAddr rfl (fo rfl)) rfl ?_
  refine s_val (v_load1 rfl (sc rfl) (by first | exact hB1.cell _ rfl | assumption)) rfl ?_
  refine s_val (v_eqI rfl rfl) rfl ?_
  repeat (first | refine t_seq ?_ | refine t_region ?_ | refine s_nil ?_ | refine p_then ?_ | refine t_ret ?_ | refine p_then_ret ?_ | refine p_block_ret ?_ | refine t_block ?_ | refine t_exit ?_ | refine p_then_exit ?_ | refine p_block_exit ?_ | refine p_block ?_ | refine t_skip ?_)
  refine t_if rfl (fun hb => ?_) (fun hb => ?_)
  · have hk1 : k = 1 := by simpa using hb
    subst hk1
    rw [hkOf_one]
    clear hb hok
    repeat (first | refine t_seq ?_ | refine t_region ?_ | refine s_nil ?_ | refine p_then ?_ | refine t_ret ?_ | refine p_then_ret ?_ | refine p_block_ret ?_ | refine t_block ?_ | refine t_exit ?_ | refine p_then_exit ?_ | refine p_block_exit ?_ | refine p_block ?_ | refine t_skip ?_)
    refine s_val (v_move rfl) rfl ?_
    refine s_op (o_call rfl (en rfl) (c41 A c psk w1 (hp.pure hw1) (by omega))) rfl rfl ?_
    rintro _ w2 hw2 ⟨⟨A2, c2, rfl, hc2, hr2, hn2⟩, _⟩
    refine s_op (o_call rfl (en rfl) (c63 trivial (.func (.func 52) #[] #[]) A2 c2 psk w2 rfl hr2 hc2 hl hn2 (hK.only (hw1.trans hw2) (by simp)) (by have := hw2.size; omega))) rfl rfl ?_
    rintro v3 w3 hw3 h3
    refine s_val (v_assign rfl) rfl ?_
    repeat (first | refine t_seq ?_ | refine t_region ?_ | refine s_nil ?_ | refine p_then ?_ | refine t_ret ?_ | refine p_then_ret ?_ | refine p_block_ret ?_ | refine t_block ?_ | refine t_exit ?_ | refine p_then_exit ?_ | refine p_block_exit ?_ | refine p_block ?_ | refine t_skip ?_)
    exact ret1 rfl rfl ⟨_, rfl, (hw1.trans hw2).trans hw3, h3⟩
  · have hk1 : k ≠ 1 := by simpa using hb
    clear hb
    obtain ⟨sz, bk, hE⟩ := hkOf_own (s := s) (b := b) hk1
    rw [hE] at hok
    rw [hE]
    repeat (first | refine t_seq ?_ | refine t_region ?_ | refine s_nil ?_ | refine p_then ?_ | refine t_ret ?_ | refine p_then_ret ?_ | refine p_block_ret ?_ | refine t_block ?_ | refine t_exit ?_ | refine p_then_exit ?_ | refine p_block_exit ?_ | refine p_block ?_ | refine t_skip ?_)
    refine t_drawO 4 (by kernel_rfl) rfl ?_
    refine fk_val Only.refl' (fun wF hR => v_load rfl (ld23 (hB1.only hR (by simp)))) ?_
    refine fk_val (Only.refl _) (fun wF hR => v_makeFunc rfl rfl) ?_
    refine fk_val (Only.refl _) (fun wF hR => v_move rfl) ?_
    refine fk_op (st_sl (l := psk)) (fun wF hR => opAt_mono (o_call rfl (en rfl) (c41 A c psk wF (hp.pure (hw1.trans hR)) (by omega))) (fun _ h => h) (fun _ _ _ h => h.1)) ?_
    refine fk_nil (fun w2 hw2 => ?_)
    refine x_open 14 rfl (fun v h => ?_)
    obtain ⟨A2, c2, rfl, hc2, hr2, hn2⟩ := h
    refine x_weak [(12, .ex (.func (.func 54) #[hv k s b] #[])), (14, .ex (.slice A2 psk.length c2))] ⟨rfl, rfl, trivial⟩ ?_
    refine s_op (o_call rfl (en rfl) (c64 sz bk hok (.func (.func 54) #[hv k s b] #[]) A2 c2 psk w2 ⟨k, s, b, rfl, hk1, hE⟩ hr2 hc2 hl hn2 (hK.only (hw1.trans hw2) (by simp)) (by have := hw2.size; omega))) rfl rfl ?_
    rintro v3 w3 hw3 h3
    refine s_val (v_assign rfl) rfl ?_
    repeat (first | refine t_seq ?_ | refine t_region ?_ | refine s_nil ?_ | refine p_then ?_ | refine t_ret ?_ | refine p_then_ret ?_ | refine p_block_ret ?_ | refine t_block ?_ | refine t_exit ?_ | refine p_then_exit ?_ | refine p_block_exit ?_ | refine p_block ?_ | refine t_skip ?_)
    exact ret1 rfl rfl ⟨_, rfl, (hw1.trans hw2).trans hw3, h3⟩

set_option maxHeartbeats 1000000 in
/-- impl.handshake -/
theorem c45 (k s b : Int) (A A' : Option Addr) (c c' : Nat) (psk shared : Bytes) (w : World) (hp : Rd w A psk) (hl : psk.length ≤ 20000) (hp' : Rd w A' shared) (hl' : shared.length ≤ 20000) (hK : KT w) (hw0 : 0 < w.heap.size) :
    Calls Tryz.prog 45 #[hv k s b, .slice A psk.length c, .slice A' shared.length c'] w (Ret [] w (SecPt 89 (hkOf k s b) (handshake (hkOf k s b) psk shared))) := by
  have hok := hkOf_ok k s b
  refine enter (Γ := [(0, .ex (hv k s b)), (1, .ex (.slice A psk.length c)), (2, .ex (.slice A' shared.length c'))]) Tryz.func45 rfl rfl rfl ⟨⟨_, rfl, rfl⟩, ⟨_, rfl, rfl⟩, ⟨_, rfl, rfl⟩, trivial⟩ ?_
  repeat (first | refine t_seq ?_ | refine t_region ?_ | refine s_nil ?_ | refine p_then ?_ | refine t_ret ?_ | refine p_then_ret ?_ | refine p_block_ret ?_ | refine t_block ?_ | refine t_exit ?_ | refine p_then_exit ?_ | refine p_block_exit ?_ | refine p_block ?_ | refine t_skip ?_)
  refine s_op (o_box rfl) rfl rfl ?_
  rintro _ w1 hw1 ⟨rfl, hB1⟩
  refine s_val (v_assign rfl) rfl ?_
  have hs1 := hw1.size
  repeat (first | refine t_seq ?_ | refine t_region ?_ | refine s_nil ?_ | refine p_then ?_ | refine t_ret ?_ | refine p_then_ret ?_ | refine p_block_ret ?_ | refine t_block ?_ | refine t_exit ?_ | refine p_then_exit ?_ | refine p_block_exit ?_ | refine p_block ?_ | refine t_skip ?_)
  refine s_val (v_load rfl (ld23 hB1)) rfl ?_
  refine s_val (v_move rfl) rfl ?_
  refine s_op (o_call rfl (en rfl) (c36 k s b A c psk w1 (hp.pure hw1) hl (hK.only hw1 (by simp)) (by omega))) rfl rfl ?_
  rintro _ w2 hw2 ⟨e, rfl, he⟩
  refine s_val (v_move rfl) rfl ?_
  refine s_op (o_call rfl (en rfl) (c41 A' c' shared w2 (hp'.pure (hw1.trans hw2)) (by omega))) rfl rfl ?_
  rintro _ w3 hw3 ⟨⟨A3, c3, rfl, hc3, hr3, hn3⟩, _⟩
  refine s_op (o_call rfl (en rfl) (c73 _ hok e (early (hkOf k s b) psk) shared A3 c3 w3 (he.pure hw3) (by rw [early_length]; have := HK.size_le hok; omega) hr3 hc3 hl' hn3 (hK.only ((hw1.trans hw2).trans hw3) (by simp)) (by have := hw2.size; have := hw3.size; omega))) rfl rfl ?_
  rintro v4 w4 hw4 h4
  refine s_val (v_assign rfl) rfl ?_
  repeat (first | refine t_seq ?_ | refine t_region ?_ | refine s_nil ?_ | refine p_then ?_ | refine t_ret ?_ | refine p_then_ret ?_ | refine p_block_ret ?_ | refine t_block ?_ | refine t_exit ?_ | refine p_then_exit ?_ | refine p_block_exit ?_ | refine p_block ?_ | refine t_skip ?_)
  exact ret1 rfl rfl ⟨_, rfl, ((hw1.trans hw2).trans hw3).trans hw4, h4⟩

set_option maxHeartbeats 1000000 in
/-- impl.Extract -/
theorem c43 (k s b : Int) (A A' : Option Addr) (c c' : Nat) (secret salt : Bytes) (w : World) (hp : Rd w A secret) (hl : secret.length ≤ 20000) (hp' : Rd w A' salt) (hl' : salt.length ≤ 20000) (hK : KT w) (hw0 : 0 < w.heap.size) :
    Calls Tryz.prog 43 #[hv k s b, .slice A secret.length c, .slice A' salt.length c'] w (Ret [] w (Fresh w (extract (hkOf k s b) (given (hkOf k s b) secret) salt))) := by
  have hok := hkOf_ok k s b
  refine enter (Γ := [(0, .ex (hv k s b)), (1, .ex (.slice A secret.length c)), (2, .ex (.slice A' salt.length c'))]) Tryz.func43 rfl rfl rfl ⟨⟨_, rfl, rfl⟩, ⟨_, rfl, rfl⟩, ⟨_, rfl, rfl⟩, trivial⟩ ?_
  repeat (first | refine t_seq ?_ | refine t_region ?_ | refine s_nil ?_ | refine p_then ?_ | refine t_ret ?_ | refine p_then_ret ?_ | refine p_block_ret ?_ | refine t_block ?_ | refine t_exit ?_ | refine p_then_exit ?_ | refine p_block_exit ?_ | refine p_block ?_ | refine t_skip ?_)
  refine s_op (o_box rfl) rfl rfl ?_
  rintro _ w1 hw1 ⟨rfl, hB1⟩
  refine s_val (v_assign rfl) rfl ?_
  have hs1 := hw1.size
  repeat (first | refine t_seq ?_ | refine t_region ?_ | refine s_nil ?_ | refine p_then ?_ | refine t_ret ?_ | refine p_then_ret ?_ | refine p_block_ret ?_ | refine t_block ?_ | refine t_exit ?_ | refine p_then_exit ?_ | refine p_block_exit ?_ | refine p_block ?_ | refine t_skip ?_)
  refine s_val (v_fieldAddr rfl (fo rfl)) rfl ?_
  refine s_val (v_load1 rfl (sc rfl) (by first | exact hB1.cell _ rfl | assumption)) rfl ?_
  refine s_val (v_eqI rfl rfl) rfl ?_
  repeat (first | refine t_seq ?_ | refine t_region ?_ | refine s_nil ?_ | refine p_then ?_ | refine t_ret ?_ | refine p_then_ret ?_ | refine p_block_ret ?_ | refine t_block ?_ | refine t_exit ?_ | refine p_then_exit ?_ | refine p_block_exit ?_ | refine p_block ?_ | refine t_skip ?_)
  refine t_if rfl (fun hb => ?_) (fun hb => ?_)
  · have hk1 : k = 1 := by simpa using hb
    subst hk1
    rw [hkOf_one]
    clear hb hok
    repeat (first | refine t_seq ?_ | refine t_region ?_ | refine s_nil ?_ | refine p_then ?_ | refine t_ret ?_ | refine p_then_ret ?_ | refine p_block_ret ?_ | refine t_block ?_ | refine t_exit ?_ | refine p_then_exit ?_ | refine p_block_exit ?_ | refine p_block ?_ | refine t_skip ?_)
    refine s_val (v_move rfl) rfl ?_
    refine s_op (o_call rfl (en rfl) (c41 A c secret w1 (hp.pure hw1) (by omega))) rfl rfl ?_
    rintro _ w2 hw2 ⟨⟨A2, c2, rfl, hc2, hr2, hn2⟩, _⟩
    refine s_val (v_move rfl) rfl ?_
    refine s_op (o_call rfl (en rfl) (c41 A' c' salt w2 (hp'.pure (hw1.trans hw2)) (by omega))) rfl rfl ?_
    rintro _ w3 hw3 ⟨⟨A3, c3, rfl, hc3, hr3, hn3⟩, _⟩
    refine s_op (o_call rfl (en rfl) (c69 trivial (.func (.func 52) #[] #[]) A2 A3 c2 c3 secret salt w3 rfl (hr2.pure hw3) hc2 hl hn2 hr3 hc3 hl' hn3 (hK.only ((hw1.trans hw2).trans hw3) (by simp)) (by have := hw2.size; have := hw3.size; omega))) rfl rfl ?_
    rintro v4 w4 hw4 ⟨h4, hf4⟩
    refine s_val (v_assign rfl) rfl ?_
    repeat (first | refine t_seq ?_ | refine t_region ?_ | refine s_nil ?_ | refine p_then ?_ | refine t_ret ?_ | refine p_then_ret ?_ | refine p_block_ret ?_ | refine t_block ?_ | refine t_exit ?_ | refine p_then_exit ?_ | refine p_block_exit ?_ | refine p_block ?_ | refine t_skip ?_)
    exact ret1 rfl rfl ⟨_, rfl, ((hw1.trans hw2).trans hw3).trans hw4, h4, hf4.mono ((hw1.trans hw2).trans hw3).size⟩
  · have hk1 : k ≠ 1 := by simpa using hb
    clear hb
    obtain ⟨sz, bk, hE⟩ := hkOf_own (s := s) (b := b) hk1
    rw [hE] at hok
    rw [hE]
    repeat (first | refine t_seq ?_ | refine t_region ?_ | refine s_nil ?_ | refine p_then ?_ | refine t_ret ?_ | refine p_then_ret ?_ | refine p_block_ret ?_ | refine t_block ?_ | refine t_exit ?_ | refine p_then_exit ?_ | refine p_block_exit ?_ | refine p_block ?_ | refine t_skip ?_)
    refine t_drawO 6 (by kernel_rfl) rfl ?_
    refine fk_val Only.refl' (fun wF hR => v_load rfl (ld23 (hB1.only hR (by simp)))) ?_
    refine fk_val (Only.refl _) (fun wF hR => v_makeFunc rfl rfl) ?_
    refine fk_val (Only.refl _) (fun wF hR => v_move rfl) ?_
    refine fk_op (st_sl (l := secret)) (fun wF hR => opAt_mono (o_call rfl (en rfl) (c41 A c secret wF (hp.pure (hw1.trans hR)) (by omega))) (fun _ h => h) (fun _ _ _ h => h.1)) ?_
    refine fk_val (Only.refl _) (fun wF hR => v_move rfl) ?_
    refine fk_op (st_sl (l := salt)) (fun wF hR => opAt_mono (o_call rfl (en rfl) (c41 A' c' salt wF (hp'.pure (hw1.trans hR)) (by omega))) (fun _ h => h) (fun _ _ _ h => h.1)) ?_
    refine fk_nil (fun w2 hw2 => ?_)
    refine x_open 18 rfl (fun v h => ?_)
    obtain ⟨A2, c2, rfl, hc2, hr2, hn2⟩ := h
    refine x_open 20 rfl (fun v h => ?_)
    obtain ⟨A3, c3, rfl, hc3, hr3, hn3⟩ := h
    refine x_weak [(16, .ex (.func (.func 54) #[hv k s b] #[])), (18, .ex (.slice A2 secret.length c2)), (20, .ex (.slice A3 salt.length c3))] ⟨rfl, rfl, rfl, trivial⟩ ?_
    refine s_op (o_call rfl (en rfl) (c70 sz bk hok (.func (.func 54) #[hv k s b] #[]) A2 A3 c2 c3 secret salt w2 ⟨k, s, b, rfl, hk1, hE⟩ hr2 hc2 hl hn2 hr3 hc3 hl' hn3 (hK.only (hw1.trans hw2) (by simp)) (by have := hw2.size; omega))) rfl rfl ?_
    rintro v4 w4 hw4 ⟨h4, hf4⟩
    refine s_val (v_assign rfl) rfl ?_
    repeat (first | refine t_seq ?_ | refine t_region ?_ | refine s_nil ?_ | refine p_then ?_ | refine t_ret ?_ | refine p_then_ret ?_ | refine p_block_ret ?_ | refine t_block ?_ | refine t_exit ?_ | refine p_then_exit ?_ | refine p_block_exit ?_ | refine p_block ?_ | refine t_skip ?_)
    exact ret1 rfl rfl ⟨_, rfl, (hw1.trans hw2).trans hw4, h4, hf4.mono (hw1.trans hw2).size⟩

set_option maxHeartbeats 1000000 in
/-- impl.ExpandLabel -/
theorem c23 (k s b : Int) (A A' : Option Addr) (c c' : Nat) (secret label ctx : Bytes) (n : Nat) (w : World) (hp : Rd w A secret) (hl : secret.length ≤ 20000) (hla : label.length ≤ 249) (hp' : Rd w A' ctx) (hl' : ctx.length ≤ 255) (hn : n ≤ 32) (hK : KT w) (hw0 : 0 < w.heap.size) :
    Calls Tryz.prog 23 #[hv k s b, .slice A secret.length c, S label, .slice A' ctx.length c', I n] w (Ret [] w (Fresh w (expandLabel (hkOf k s b) secret label ctx n))) := by
  have hok := hkOf_ok k s b
  refine enter (Γ := [(0, .ex (hv k s b)), (1, .ex (.slice A secret.length c)), (2, .ex (S label)), (3, .ex (.slice A' ctx.length c')), (4, .ex (I n))]) Tryz.func23 rfl rfl rfl ⟨⟨_, rfl, rfl⟩, ⟨_, rfl, rfl⟩, ⟨_, rfl, rfl⟩, ⟨_, rfl, rfl⟩, ⟨_, rfl, rfl⟩, trivial⟩ ?_
  repeat (first | refine t_seq ?_ | refine t_region ?_ | refine s_nil ?_ | refine p_then ?_ | refine t_ret ?_ | refine p_then_ret ?_ | refine p_block_ret ?_ | refine t_block ?_ | refine t_exit ?_ | refine p_then_exit ?_ | refine p_block_exit ?_ | refine p_block ?_ | refine t_skip ?_)
  refine s_op (o_box rfl) rfl rfl ?_
  rintro _ w1 hw1 ⟨rfl, hB1⟩
  refine s_val (v_assign rfl) rfl ?_
  have hs1 := hw1.size
  repeat (first | refine t_seq ?_ | refine t_region ?_ | refine s_nil ?_ | refine p_then ?_ | refine t_ret ?_ | refine p_then_ret ?_ | refine p_block_ret ?_ | refine t_block ?_ | refine t_exit ?_ | refine p_then_exit ?_ | refine p_block_exit ?_ | refine p_block ?_ | refine t_skip ?_)
  refine s_val (v_fieldAddr rfl (fo rfl)) rfl ?_
  refine s_val (v_load1 rfl (sc rfl) (by first | exact hB1.cell _ rfl | assumption)) rfl ?_
  refine s_val (v_eqI rfl rfl) rfl ?_
  repeat (first | refine t_seq ?_ | refine t_region ?_ | refine s_nil ?_ | refine p_then ?_ | refine t_ret ?_ | refine p_then_ret ?_ | refine p_block_ret ?_ | refine t_block ?_ | refine t_exit ?_ | refine p_then_exit ?_ | refine p_block_exit ?_ | refine p_block ?_ | refine t_skip ?_)
  refine t_if rfl (fun hb => ?_) (fun hb => ?_)
  · have hk1 : k = 1 := by simpa using hb
    subst hk1
    rw [hkOf_one]
    clear hb hok
    repeat (first | refine t_seq ?_ | refine t_region ?_ | refine s_nil ?_ | refine p_then ?_ | refine t_ret ?_ | refine p_then_ret ?_ | refine p_block_ret ?_ | refine t_block ?_ | refine t_exit ?_ | refine p_then_exit ?_ | refine p_block_exit ?_ | refine p_block ?_ | refine t_skip ?_)
    refine s_val (v_move rfl) rfl ?_
    refine s_op (o_call rfl (en rfl) (c41 A c secret w1 (hp.pure hw1) (by omega))) rfl rfl ?_
    rintro _ w2 hw2 ⟨⟨A2, c2, rfl, hc2, hr2, hn2⟩, _⟩
    refine s_val (v_move rfl) rfl ?_
    refine s_val (v_move rfl) rfl ?_
    refine s_op (o_call rfl (en rfl) (c41 A' c' ctx w2 (hp'.pure (hw1.trans hw2)) (by omega))) rfl rfl ?_
    rintro _ w3 hw3 ⟨⟨A3, c3, rfl, hc3, hr3, hn3⟩, _⟩
    refine s_val (v_move rfl) rfl ?_
    refine s_op (o_call rfl (en rfl) (c51 trivial (.func (.func 52) #[] #[]) A2 A3 c2 c3 secret label ctx n w3 rfl (hr2.pure hw3) hc2 (by omega) hr3 hla hl' hn (hK.only ((hw1.trans hw2).trans hw3) (by simp)) (by have := hw2.size; have := hw3.size; omega))) rfl rfl ?_
    rintro v4 w4 hw4 ⟨h4, hf4⟩
    refine s_val (v_assign rfl) rfl ?_
    repeat (first | refine t_seq ?_ | refine t_region ?_ | refine s_nil ?_ | refine p_then ?_ | refine t_ret ?_ | refine p_then_ret ?_ | refine p_block_ret ?_ | refine t_block ?_ | refine t_exit ?_ | refine p_then_exit ?_ | refine p_block_exit ?_ | refine p_block ?_ | refine t_skip ?_)
    exact ret1 rfl rfl ⟨_, rfl, ((hw1.trans hw2).trans hw3).trans hw4, h4, hf4.mono ((hw1.trans hw2).trans hw3).size⟩
  · have hk1 : k ≠ 1 := by simpa using hb
    clear hb
    obtain ⟨sz, bk, hE⟩ := hkOf_own (s := s) (b := b) hk1
    rw [hE] at hok
    rw [hE]
    repeat (first | refine t_seq ?_ | refine t_region ?_ | refine s_nil ?_ | refine p_then ?_ | refine t_ret ?_ | refine p_then_ret ?_ | refine p_block_ret ?_ | refine t_block ?_ | refine t_exit ?_ | refine p_then_exit ?_ | refine p_block_exit ?_ | refine p_block ?_ | refine t_skip ?_)
    refine t_drawO 8 (by kernel_rfl) rfl ?_
    refine fk_val Only.refl' (fun wF hR => v_load rfl (ld23 (hB1.only hR (by simp)))) ?_
    refine fk_val (Only.refl _) (fun wF hR => v_makeFunc rfl rfl) ?_
    refine fk_val (Only.refl _) (fun wF hR => v_move rfl) ?_
    refine fk_op (st_sl (l := secret)) (fun wF hR => opAt_mono (o_call rfl (en rfl) (c41 A c secret wF (hp.pure (hw1.trans hR)) (by omega))) (fun _ h => h) (fun _ _ _ h => h.1)) ?_
    refine fk_val (Only.refl _) (fun wF hR => v_move rfl) ?_
    refine fk_val (Only.refl _) (fun wF hR => v_move rfl) ?_
    refine fk_op (st_sl (l := ctx)) (fun wF hR => opAt_mono (o_call rfl (en rfl) (c41 A' c' ctx wF (hp'.pure (hw1.trans hR)) (by omega))) (fun _ h => h) (fun _ _ _ h => h.1)) ?_
    refine fk_val (Only.refl _) (fun wF hR => v_move rfl) ?_
    refine fk_nil (fun w2 hw2 => ?_)
    refine x_open 24 rfl (fun v h => ?_)
    obtain ⟨A2, c2, rfl, hc2, hr2, hn2⟩ := h
    refine x_open 27 rfl (fun v h => ?_)
    obtain ⟨A3, c3, rfl, hc3, hr3, hn3⟩ := h
    refine x_weak [(22, .ex (.func (.func 54) #[hv k s b] #[])), (24, .ex (.slice A2 secret.length c2)), (25, .ex (S label)), (27, .ex (.slice A3 ctx.length c3)), (28, .ex (I n))] ⟨rfl, rfl, rfl, rfl, rfl, trivial⟩ ?_
    refine s_op (o_call rfl (en rfl) (c53 sz bk hok (.func (.func 54) #[hv k s b] #[]) A2 A3 c2 c3 secret label ctx n w2 ⟨k, s, b, rfl, hk1, hE⟩ hr2 hc2 (by omega) hr3 hla hl' hn (hK.only (hw1.trans hw2) (by simp)) (by have := hw2.size; omega))) rfl rfl ?_
    rintro v4 w4 hw4 ⟨h4, hf4⟩
    refine s_val (v_assign rfl) rfl ?_
    repeat (first | refine t_seq ?_ | refine t_region ?_ | refine s_nil ?_ | refine p_then ?_ | refine t_ret ?_ | refine p_then_ret ?_ | refine p_block_ret ?_ | refine t_block ?_ | refine t_exit ?_ | refine p_then_exit ?_ | refine p_block_exit ?_ | refine p_block ?_ | refine t_skip ?_)
    exact ret1 rfl rfl ⟨_, rfl, (hw1.trans hw2).trans hw4, h4, hf4.mono (hw1.trans hw2).size⟩
end Go.Proofs.YtnaefgnjdmmmcaaGreatDoor
/- The thin package in the program: the secrets of the schedule. -/
namespace Go.Proofs.YtnaefgnjdmmmcaaGreatDoor
open Go.RowKit
attribute [local irreducible] ValAt OpAt RunX Tr Post FlowK
theorem handshake_length (H : HK) (psk shared : Bytes) : (handshake H psk shared).length = H.size := mac_length _ _ _
theorem master_length (H : HK) (psk shared : Bytes) : (master H psk shared).length = H.size := mac_length _ _ _
section
variable {N : Nat} {Γ : Env} {w w0 : World} {d : Option Tmp} {ty : TypeId} {pos : String} {af : Array Edge} {gd : Option (Nat × Bool)}
/-- early, inside a drawn region -/
theorem f36 {k s b : Int} {A : Option Addr} {c : Nat} {psk : Bytes} {x y : Operand} {ats : Array TypeId} (hx : Γ.ops [x, y] = some [hv k s b, .slice A psk.length c]) (hp : Rd w0 A psk) (hl : psk.length ≤ 20000) (hK : KT w0) (hw0 : 0 < w0.heap.size) (hz : Only [] w0 w) :
    OpAt Tryz.prog N Γ w ⟨d, .call ⟨.value (.func 36), #[x, y], ats⟩, ty, pos, af, gd⟩ (Only []) (SecPt 79 (hkOf k s b) (early (hkOf k s b) psk)) :=
  o_call hx (en rfl) (c36 k s b A c psk w (hp.pure hz) hl (hK.only hz (by simp)) (by have := hz.size; omega))
theorem f45 {k s b : Int} {A A' : Option Addr} {c c' : Nat} {psk shared : Bytes} {x y z : Operand} {ats : Array TypeId} (hx : Γ.ops [x, y, z] = some [hv k s b, .slice A psk.length c, .slice A' shared.length c']) (hp : Rd w0 A psk) (hl : psk.length ≤ 20000) (hp' : Rd w0 A' shared) (hl' : shared.length ≤ 20000) (hK : KT w0) (hw0 : 0 < w0.heap.size) (hz : Only [] w0 w) :
    OpAt Tryz.prog N Γ w ⟨d, .call ⟨.value (.func 45), #[x, y, z], ats⟩, ty, pos, af, gd⟩ (Only []) (SecPt 89 (hkOf k s b) (handshake (hkOf k s b) psk shared)) :=
  o_call hx (en rfl) (c45 k s b A A' c c' psk shared w (hp.pure hz) hl (hp'.pure hz) hl' (hK.only hz (by simp)) (by have := hz.size; omega))
theorem f38 {k s b : Int} {A : Option Addr} {c : Nat} {l : Bytes} {x y : Operand} {ats : Array TypeId} (hx : Γ.ops [x, y] = some [hv k s b, .slice A l.length c]) (hp : Rd w0 A l) (hl : l.length ≤ 60000) (hK : KT w0) (hw0 : 0 < w0.heap.size) (hz : Only [] w0 w) :
    OpAt Tryz.prog N Γ w ⟨d, .call ⟨.value (.func 38), #[x, y], ats⟩, ty, pos, af, gd⟩ (Only []) (fun v w' => TrAt (hkOf k s b) w' v l) :=
  o_call hx (en rfl) (c38 k s b A c l w (hp.pure hz) hl (hK.only hz (by simp)) (by have := hz.size; omega))
theorem f41 {A : Option Addr} {c : Nat} {l : Bytes} {x : Operand} {ats : Array TypeId} (hx : Γ.ops [x] = some [.slice A l.length c]) (hp : Rd w0 A l) (hl : l.length ≤ 60000) (hz : Only [] w0 w) :
    OpAt Tryz.prog N Γ w ⟨d, .call ⟨.value (.func 41), #[x], ats⟩, ty, pos, af, gd⟩ (Only []) (SlAt l) :=
  opAt_mono (o_call hx (en rfl) (c41 A c l w (hp.pure hz) (by omega))) (fun _ h => h) (fun _ _ _ h => h.1)
theorem f48 {H : HK} (hH : H.ok) {psk shared : Bytes} {x : Operand} {ats : Array TypeId} (hx : Γ.op x = some (.ab (SecPt 89 H (handshake H psk shared)))) (hK : KT w0) (hw0 : 0 < w0.heap.size) (hz : Only [] w0 w) :
    OpAt Tryz.prog N Γ w ⟨d, .call ⟨.value (.func 48), #[x], ats⟩, ty, pos, af, gd⟩ (Only []) (SecPt 91 H (master H psk shared)) :=
  o_callA (xs := [x]) (en rfl) fun a ha => by
    obtain ⟨e, he, hS⟩ := ha.get x (by simp [Op.operands, Call.operands]) _ hx
    have hsl := HK.size_le hH
    rw [show ([x].map a.eval).toArray = #[pt e 0] from by simp [he]]
    exact c48 H hH e _ w hS (by rw [handshake_length]; omega) (hK.only hz (by simp)) (by have := hz.size; omega)
theorem f39 {H : HK} (hH : H.ok) {psk msgs : Bytes} {x y : Operand} {ats : Array TypeId} (hx : Γ.op x = some (.ab (SecPt 79 H (early H psk)))) (hy : Γ.op y = some (.ab (fun v w' => TrAt H w' v msgs))) (hn : msgs.length ≤ 60000) (hK : KT w0) (hw0 : 0 < w0.heap.size) (hz : Only [] w0 w) :
    OpAt Tryz.prog N Γ w ⟨d, .call ⟨.value (.func 39), #[x, y], ats⟩, ty, pos, af, gd⟩ (Only []) (SecPt 84 H (derive H (early H psk) [101, 32, 101, 120, 112, 32, 109, 97, 115, 116, 101, 114] msgs)) :=
  o_callA (xs := [x, y]) (en rfl) fun a ha => by
    obtain ⟨e, he, hS⟩ := ha.get x (by simp [Op.operands, Call.operands]) _ hx
    have hT : TrAt H w (a.eval y) msgs := ha.get y (by simp [Op.operands, Call.operands]) _ hy
    have hsl := HK.size_le hH
    rw [show ([x, y].map a.eval).toArray = #[pt e 0, a.eval y] from by simp [he]]
    exact c39 H hH e _ msgs _ w hS (by rw [early_length]; omega) hT (by omega) (hK.only hz (by simp)) (by have := hz.size; omega)
theorem f56 {H : HK} (hH : H.ok) {psk shared msgs : Bytes} {x y : Operand} {ats : Array TypeId} (hx : Γ.op x = some (.ab (SecPt 91 H (master H psk shared)))) (hy : Γ.op y = some (.ab (fun v w' => TrAt H w' v msgs))) (hn : msgs.length ≤ 60000) (hK : KT w0) (hw0 : 0 < w0.heap.size) (hz : Only [] w0 w) :
    OpAt Tryz.prog N Γ w ⟨d, .call ⟨.value (.func 56), #[x, y], ats⟩, ty, pos, af, gd⟩ (Only []) (SecPt 84 H (derive H (master H psk shared) [101, 120, 112, 32, 109, 97, 115, 116, 101, 114] msgs)) :=
  o_callA (xs := [x, y]) (en rfl) fun a ha => by
    obtain ⟨e, he, hS⟩ := ha.get x (by simp [Op.operands, Call.operands]) _ hx
    have hT : TrAt H w (a.eval y) msgs := ha.get y (by simp [Op.operands, Call.operands]) _ hy
    have hsl := HK.size_le hH
    rw [show ([x, y].map a.eval).toArray = #[pt e 0, a.eval y] from by simp [he]]
    exact c56 H hH e _ msgs _ w hS (by rw [master_length]; omega) hT (by omega) (hK.only hz (by simp)) (by have := hz.size; omega)
end
set_option maxHeartbeats 1000000 in
theorem c14 (k s b : Int) (A A2 : Option Addr) (c c2 : Nat) (psk msgs : Bytes) (w : World) (hp : Rd w A psk) (hl : psk.length ≤ 20000) (hp2 : Rd w A2 msgs) (hl2 : msgs.length ≤ 60000) (hK : KT w) (hw0 : 0 < w.heap.size) :
    Calls Tryz.prog 14 #[hv k s b, .slice A psk.length c, .slice A2 msgs.length c2] w (Ret [] w (Fresh w (derive (hkOf k s b) (early (hkOf k s b) psk) [99, 32, 101, 32, 116, 114, 97, 102, 102, 105, 99] msgs))) := by
  have hok := hkOf_ok k s b
  have hsl := HK.size_le hok
  refine enter (Γ := [(0, .ex (hv k s b)), (1, .ex (.slice A psk.length c)), (2, .ex (.slice A2 msgs.length c2))]) Tryz.func14 rfl rfl rfl ⟨⟨_, rfl, rfl⟩, ⟨_, rfl, rfl⟩, ⟨_, rfl, rfl⟩, trivial⟩ ?_
  repeat (first | refine t_seq ?_ | refine t_region ?_ | refine s_nil ?_ | refine p_then ?_ | refine t_ret ?_ | refine p_then_ret ?_ | refine p_block_ret ?_ | refine t_block ?_ | refine t_exit ?_ | refine p_then_exit ?_ | refine p_block_exit ?_ | refine p_block ?_ | refine t_skip ?_)
  refine s_op (o_box rfl) rfl rfl ?_
  rintro _ w1 hw1 ⟨rfl, hB1⟩
  refine s_val (v_assign rfl) rfl ?_
  have hs1 := hw1.size
  have hK1 : KT w1 := hK.only hw1 (by simp)
  have h01 : 0 < w1.heap.size := by omega
  repeat (first | refine t_seq ?_ | refine t_region ?_ | refine s_nil ?_ | refine p_then ?_ | refine t_ret ?_ | refine p_then_ret ?_ | refine p_block_ret ?_ | refine t_block ?_ | refine t_exit ?_ | refine p_then_exit ?_ | refine p_block_exit ?_ | refine p_block ?_ | refine t_skip ?_)
  refine t_drawO 6 (by kernel_rfl) rfl ?_
  refine fk_val Only.refl' (fun wF hR => v_load rfl (ld23 (hB1.only hR (by simp)))) ?_
  refine fk_val (Only.refl _) (fun wF hR => v_move rfl) ?_
  refine fk_op st_sec (fun wF hR => f36 rfl (hp.pure hw1) hl hK1 h01 hR) ?_
  refine fk_val Only.refl' (fun wF hR => v_load rfl (ld23 (hB1.only hR (by simp)))) ?_
  refine fk_val (Only.refl _) (fun wF hR => v_move rfl) ?_
  refine fk_op st_tr (fun wF hR => f38 rfl (hp2.pure hw1) hl2 hK1 h01 hR) ?_
  refine fk_nil (fun w2 hw2 => ?_)
  refine x_open 9 rfl (fun v h => ?_)
  obtain ⟨e, rfl, he⟩ := h
  refine x_open 12 rfl (fun T hT => ?_)
  refine x_weak [(9, .ex (pt e 0)), (12, .ex T)] ⟨rfl, rfl, trivial⟩ ?_
  have hz2 := hw1.trans hw2
  have hs2 := hw2.size
  refine s_op (o_call rfl (en rfl) (c37 _ hok e _ msgs T w2 he (by rw [early_length]; omega) hT (by omega) (hK.only hz2 (by simp)) (by omega))) rfl rfl ?_
  rintro v3 w3 hw3 ⟨h3, hf3⟩
  refine s_val (v_assign rfl) rfl ?_
  repeat (first | refine t_seq ?_ | refine t_region ?_ | refine s_nil ?_ | refine p_then ?_ | refine t_ret ?_ | refine p_then_ret ?_ | refine p_block_ret ?_ | refine t_block ?_ | refine t_exit ?_ | refine p_then_exit ?_ | refine p_block_exit ?_ | refine p_block ?_ | refine t_skip ?_)
  exact ret1 rfl rfl ⟨_, rfl, hz2.trans hw3, h3, hf3.mono hz2.size⟩
set_option maxHeartbeats 1000000 in
theorem c19 (k s b : Int) (A A1 A2 : Option Addr) (c c1 c2 : Nat) (psk shared msgs : Bytes) (w : World) (hp : Rd w A psk) (hl : psk.length ≤ 20000) (hp1 : Rd w A1 shared) (hl1 : shared.length ≤ 20000) (hp2 : Rd w A2 msgs) (hl2 : msgs.length ≤ 60000) (hK : KT w) (hw0 : 0 < w.heap.size) :
    Calls Tryz.prog 19 #[hv k s b, .slice A psk.length c, .slice A1 shared.length c1, .slice A2 msgs.length c2] w (Ret [] w (Fresh w (derive (hkOf k s b) (handshake (hkOf k s b) psk shared) [99, 32, 104, 115, 32, 116, 114, 97, 102, 102, 105, 99] msgs))) := by
  have hok := hkOf_ok k s b
  have hsl := HK.size_le hok
  refine enter (Γ := [(0, .ex (hv k s b)), (1, .ex (.slice A psk.length c)), (2, .ex (.slice A1 shared.length c1)), (3, .ex (.slice A2 msgs.length c2))]) Tryz.func19 rfl rfl rfl ⟨⟨_, rfl, rfl⟩, ⟨_, rfl, rfl⟩, ⟨_, rfl, rfl⟩, ⟨_, rfl, rfl⟩, trivial⟩ ?_
  repeat (first | refine t_seq ?_ | refine t_region ?_ | refine s_nil ?_ | refine p_then ?_ | refine t_ret ?_ | refine p_then_ret ?_ | refine p_block_ret ?_ | refine t_block ?_ | refine t_exit ?_ | refine p_then_exit ?_ | refine p_block_exit ?_ | refine p_block ?_ | refine t_skip ?_)
  refine s_op (o_box rfl) rfl rfl ?_
  rintro _ w1 hw1 ⟨rfl, hB1⟩
  refine s_val (v_assign rfl) rfl ?_
  have hs1 := hw1.size
  have hK1 : KT w1 := hK.only hw1 (by simp)
  have h01 : 0 < w1.heap.size := by omega
  repeat (first | refine t_seq ?_ | refine t_region ?_ | refine s_nil ?_ | refine p_then ?_ | refine t_ret ?_ | refine p_then_ret ?_ | refine p_block_ret ?_ | refine t_block ?_ | refine t_exit ?_ | refine p_then_exit ?_ | refine p_block_exit ?_ | refine p_block ?_ | refine t_skip ?_)
  refine t_drawO 7 (by kernel_rfl) rfl ?_
  refine fk_val Only.refl' (fun wF hR => v_load rfl (ld23 (hB1.only hR (by simp)))) ?_
  refine fk_val (Only.refl _) (fun wF hR => v_move rfl) ?_
  refine fk_val (Only.refl _) (fun wF hR => v_move rfl) ?_
  refine fk_op st_sec (fun wF hR => f45 rfl (hp.pure hw1) hl (hp1.pure hw1) hl1 hK1 h01 hR) ?_
  refine fk_val Only.refl' (fun wF hR => v_load rfl (ld23 (hB1.only hR (by simp)))) ?_
  refine fk_val (Only.refl _) (fun wF hR => v_move rfl) ?_
  refine fk_op st_tr (fun wF hR => f38 rfl (hp2.pure hw1) hl2 hK1 h01 hR) ?_
  refine fk_nil (fun w2 hw2 => ?_)
  refine x_open 12 rfl (fun v h => ?_)
  obtain ⟨e, rfl, he⟩ := h
  refine x_open 15 rfl (fun T hT => ?_)
  refine x_weak [(12, .ex (pt e 0)), (15, .ex T)] ⟨rfl, rfl, trivial⟩ ?_
  have hz2 := hw1.trans hw2
  have hs2 := hw2.size
  refine s_op (o_call rfl (en rfl) (c46 _ hok e _ msgs T w2 he (by rw [handshake_length]; omega) hT (by omega) (hK.only hz2 (by simp)) (by omega))) rfl rfl ?_
  rintro v3 w3 hw3 ⟨h3, hf3⟩
  refine s_val (v_assign rfl) rfl ?_
  repeat (first | refine t_seq ?_ | refine t_region ?_ | refine s_nil ?_ | refine p_then ?_ | refine t_ret ?_ | refine p_then_ret ?_ | refine p_block_ret ?_ | refine t_block ?_ | refine t_exit ?_ | refine p_then_exit ?_ | refine p_block_exit ?_ | refine p_block ?_ | refine t_skip ?_)
  exact ret1 rfl rfl ⟨_, rfl, hz2.trans hw3, h3, hf3.mono hz2.size⟩
set_option maxHeartbeats 1000000 in
theorem c20 (k s b : Int) (A A1 A2 : Option Addr) (c c1 c2 : Nat) (psk shared msgs : Bytes) (w : World) (hp : Rd w A psk) (hl : psk.length ≤ 20000) (hp1 : Rd w A1 shared) (hl1 : shared.length ≤ 20000) (hp2 : Rd w A2 msgs) (hl2 : msgs.length ≤ 60000) (hK : KT w) (hw0 : 0 < w.heap.size) :
    Calls Tryz.prog 20 #[hv k s b, .slice A psk.length c, .slice A1 shared.length c1, .slice A2 msgs.length c2] w (Ret [] w (Fresh w (derive (hkOf k s b) (handshake (hkOf k s b) psk shared) [115, 32, 104, 115, 32, 116, 114, 97, 102, 102, 105, 99] msgs))) := by
  have hok := hkOf_ok k s b
  have hsl := HK.size_le hok
  refine enter (Γ := [(0, .ex (hv k s b)), (1, .ex (.slice A psk.length c)), (2, .ex (.slice A1 shared.length c1)), (3, .ex (.slice A2 msgs.length c2))]) Tryz.func20 rfl rfl rfl ⟨⟨_, rfl, rfl⟩, ⟨_, rfl, rfl⟩, ⟨_, rfl, rfl⟩, ⟨_, rfl, rfl⟩, trivial⟩ ?_
  repeat (first | refine t_seq ?_ | refine t_region ?_ | refine s_nil ?_ | refine p_then ?_ | refine t_ret ?_ | refine p_then_ret ?_ | refine p_block_ret ?_ | refine t_block ?_ | refine t_exit ?_ | refine p_then_exit ?_ | refine p_block_exit ?_ | refine p_block ?_ | refine t_skip ?_)
  refine s_op (o_box rfl) rfl rfl ?_
  rintro _ w1 hw1 ⟨rfl, hB1⟩
  refine s_val (v_assign rfl) rfl ?_
  have hs1 := hw1.size
  have hK1 : KT w1 := hK.only hw1 (by simp)
  have h01 : 0 < w1.heap.size := by omega
  repeat (first | refine t_seq ?_ | refine t_region ?_ | refine s_nil ?_ | refine p_then ?_ | refine t_ret ?_ | refine p_then_ret ?_ | refine p_block_ret ?_ | refine t_block ?_ | refine t_exit ?_ | refine p_then_exit ?_ | refine p_block_exit ?_ | refine p_block ?_ | refine t_skip ?_)
  refine t_drawO 7 (by kernel_rfl) rfl ?_
  refine fk_val Only.refl' (fun wF hR => v_load rfl (ld23 (hB1.only hR (by simp)))) ?_
  refine fk_val (Only.refl _) (fun wF hR => v_move rfl) ?_
  refine fk_val (Only.refl _) (fun wF hR => v_move rfl) ?_
  refine fk_op st_sec (fun wF hR => f45 rfl (hp.pure hw1) hl (hp1.pure hw1) hl1 hK1 h01 hR) ?_
  refine fk_val Only.refl' (fun wF hR => v_load rfl (ld23 (hB1.only hR (by simp)))) ?_
  refine fk_val (Only.refl _) (fun wF hR => v_move rfl) ?_
  refine fk_op st_tr (fun wF hR => f38 rfl (hp2.pure hw1) hl2 hK1 h01 hR) ?_
  refine fk_nil (fun w2 hw2 => ?_)
  refine x_open 12 rfl (fun v h => ?_)
  obtain ⟨e, rfl, he⟩ := h
  refine x_open 15 rfl (fun T hT => ?_)
  refine x_weak [(12, .ex (pt e 0)), (15, .ex T)] ⟨rfl, rfl, trivial⟩ ?_
  have hz2 := hw1.trans hw2
  have hs2 := hw2.size
  refine s_op (o_call rfl (en rfl) (c47 _ hok e _ msgs T w2 he (by rw [handshake_length]; omega) hT (by omega) (hK.only hz2 (by simp)) (by omega))) rfl rfl ?_
  rintro v3 w3 hw3 ⟨h3, hf3⟩
  refine s_val (v_assign rfl) rfl ?_
  repeat (first | refine t_seq ?_ | refine t_region ?_ | refine s_nil ?_ | refine p_then ?_ | refine t_ret ?_ | refine p_then_ret ?_ | refine p_block_ret ?_ | refine t_block ?_ | refine t_exit ?_ | refine p_then_exit ?_ | refine p_block_exit ?_ | refine p_block ?_ | refine t_skip ?_)
  exact ret1 rfl rfl ⟨_, rfl, hz2.trans hw3, h3, hf3.mono hz2.size⟩
set_option maxHeartbeats 1000000 in
theorem c21 (k s b : Int) (A A1 A2 : Option Addr) (c c1 c2 : Nat) (psk shared msgs : Bytes) (w : World) (hp : Rd w A psk) (hl : psk.length ≤ 20000) (hp1 : Rd w A1 shared) (hl1 : shared.length ≤ 20000) (hp2 : Rd w A2 msgs) (hl2 : msgs.length ≤ 60000) (hK : KT w) (hw0 : 0 < w.heap.size) :
    Calls Tryz.prog 21 #[hv k s b, .slice A psk.length c, .slice A1 shared.length c1, .slice A2 msgs.length c2] w (Ret [] w (Fresh w (derive (hkOf k s b) (master (hkOf k s b) psk shared) [99, 32, 97, 112, 32, 116, 114, 97, 102, 102, 105, 99] msgs))) := by
  have hok := hkOf_ok k s b
  have hsl := HK.size_le hok
  refine enter (Γ := [(0, .ex (hv k s b)), (1, .ex (.slice A psk.length c)), (2, .ex (.slice A1 shared.length c1)), (3, .ex (.slice A2 msgs.length c2))]) Tryz.func21 rfl rfl rfl ⟨⟨_, rfl, rfl⟩, ⟨_, rfl, rfl⟩, ⟨_, rfl, rfl⟩, ⟨_, rfl, rfl⟩, trivial⟩ ?_
  repeat (first | refine t_seq ?_ | refine t_region ?_ | refine s_nil ?_ | refine p_then ?_ | refine t_ret ?_ | refine p_then_ret ?_ | refine p_block_ret ?_ | refine t_block ?_ | refine t_exit ?_ | refine p_then_exit ?_ | refine p_block_exit ?_ | refine p_block ?_ | refine t_skip ?_)
  refine s_op (o_box rfl) rfl rfl ?_
  rintro _ w1 hw1 ⟨rfl, hB1⟩
  refine s_val (v_assign rfl) rfl ?_
  have hs1 := hw1.size
  have hK1 : KT w1 := hK.only hw1 (by simp)
  have h01 : 0 < w1.heap.size := by omega
  repeat (first | refine t_seq ?_ | refine t_region ?_ | refine s_nil ?_ | refine p_then ?_ | refine t_ret ?_ | refine p_then_ret ?_ | refine p_block_ret ?_ | refine t_block ?_ | refine t_exit ?_ | refine p_then_exit ?_ | refine p_block_exit ?_ | refine p_block ?_ | refine t_skip ?_)
  refine t_drawO 8 (by kernel_rfl) rfl ?_
  refine fk_val Only.refl' (fun wF hR => v_load rfl (ld23 (hB1.only hR (by simp)))) ?_
  refine fk_val (Only.refl _) (fun wF hR => v_move rfl) ?_
  refine fk_val (Only.refl _) (fun wF hR => v_move rfl) ?_
  refine fk_op st_sec (fun wF hR => f45 rfl (hp.pure hw1) hl (hp1.pure hw1) hl1 hK1 h01 hR) ?_
  refine fk_op st_sec (fun wF hR => f48 hok rfl hK1 h01 hR) ?_
  refine fk_val Only.refl' (fun wF hR => v_load rfl (ld23 (hB1.only hR (by simp)))) ?_
  refine fk_val (Only.refl _) (fun wF hR => v_move rfl) ?_
  refine fk_op st_tr (fun wF hR => f38 rfl (hp2.pure hw1) hl2 hK1 h01 hR) ?_
  refine fk_nil (fun w2 hw2 => ?_)
  refine x_open 13 rfl (fun v h => ?_)
  obtain ⟨e, rfl, he⟩ := h
  refine x_open 16 rfl (fun T hT => ?_)
  refine x_weak [(13, .ex (pt e 0)), (16, .ex T)] ⟨rfl, rfl, trivial⟩ ?_
  have hz2 := hw1.trans hw2
  have hs2 := hw2.size
  refine s_op (o_call rfl (en rfl) (c49 _ hok e _ msgs T w2 he (by rw [master_length]; omega) hT (by omega) (hK.only hz2 (by simp)) (by omega))) rfl rfl ?_
  rintro v3 w3 hw3 ⟨h3, hf3⟩
  refine s_val (v_assign rfl) rfl ?_
  repeat (first | refine t_seq ?_ | refine t_region ?_ | refine s_nil ?_ | refine p_then ?_ | refine t_ret ?_ | refine p_then_ret ?_ | refine p_block_ret ?_ | refine t_block ?_ | refine t_exit ?_ | refine p_then_exit ?_ | refine p_block_exit ?_ | refine p_block ?_ | refine t_skip ?_)
  exact ret1 rfl rfl ⟨_, rfl, hz2.trans hw3, h3, hf3.mono hz2.size⟩
set_option maxHeartbeats 1000000 in
theorem c22 (k s b : Int) (A A1 A2 : Option Addr) (c c1 c2 : Nat) (psk shared msgs : Bytes) (w : World) (hp : Rd w A psk) (hl : psk.length ≤ 20000) (hp1 : Rd w A1 shared) (hl1 : shared.length ≤ 20000) (hp2 : Rd w A2 msgs) (hl2 : msgs.length ≤ 60000) (hK : KT w) (hw0 : 0 < w.heap.size) :
    Calls Tryz.prog 22 #[hv k s b, .slice A psk.length c, .slice A1 shared.length c1, .slice A2 msgs.length c2] w (Ret [] w (Fresh w (derive (hkOf k s b) (master (hkOf k s b) psk shared) [115, 32, 97, 112, 32, 116, 114, 97, 102, 102, 105, 99] msgs))) := by
  have hok := hkOf_ok k s b
  have hsl := HK.size_le hok
  refine enter (Γ := [(0, .ex (hv k s b)), (1, .ex (.slice A psk.length c)), (2, .ex (.slice A1 shared.length c1)), (3, .ex (.slice A2 msgs.length c2))]) Tryz.func22 rfl rfl rfl ⟨⟨_, rfl, rfl⟩, ⟨_, rfl, rfl⟩, ⟨_, rfl, rfl⟩, ⟨_, rfl, rfl⟩, trivial⟩ ?_
  repeat (first | refine t_seq ?_ | refine t_region ?_ | refine s_nil ?_ | refine p_then ?_ | refine t_ret ?_ | refine p_then_ret ?_ | refine p_block_ret ?_ | refine t_block ?_ | refine t_exit ?_ | refine p_then_exit ?_ | refine p_block_exit ?_ | refine p_block ?_ | refine t_skip ?_)
  refine s_op (o_box rfl) rfl rfl ?_
  rintro _ w1 hw1 ⟨rfl, hB1⟩
  refine s_val (v_assign rfl) rfl ?_
  have hs1 := hw1.size
  have hK1 : KT w1 := hK.only hw1 (by simp)
  have h01 : 0 < w1.heap.size := by omega
  repeat (first | refine t_seq ?_ | refine t_region ?_ | refine s_nil ?_ | refine p_then ?_ | refine t_ret ?_ | refine p_then_ret ?_ | refine p_block_ret ?_ | refine t_block ?_ | refine t_exit ?_ | refine p_then_exit ?_ | refine p_block_exit ?_ | refine p_block ?_ | refine t_skip ?_)
  refine t_drawO 8 (by kernel_rfl) rfl ?_
  refine fk_val Only.refl' (fun wF hR => v_load rfl (ld23 (hB1.only hR (by simp)))) ?_
  refine fk_val (Only.refl _) (fun wF hR => v_move rfl) ?_
  refine fk_val (Only.refl _) (fun wF hR => v_move rfl) ?_
  refine fk_op st_sec (fun wF hR => f45 rfl (hp.pure hw1) hl (hp1.pure hw1) hl1 hK1 h01 hR) ?_
  refine fk_op st_sec (fun wF hR => f48 hok rfl hK1 h01 hR) ?_
  refine fk_val Only.refl' (fun wF hR => v_load rfl (ld23 (hB1.only hR (by simp)))) ?_
  refine fk_val (Only.refl _) (fun wF hR => v_move rfl) ?_
  refine fk_op st_tr (fun wF hR => f38 rfl (hp2.pure hw1) hl2 hK1 h01 hR) ?_
  refine fk_nil (fun w2 hw2 => ?_)
  refine x_open 13 rfl (fun v h => ?_)
  obtain ⟨e, rfl, he⟩ := h
  refine x_open 16 rfl (fun T hT => ?_)
  refine x_weak [(13, .ex (pt e 0)), (16, .ex T)] ⟨rfl, rfl, trivial⟩ ?_
  have hz2 := hw1.trans hw2
  have hs2 := hw2.size
  refine s_op (o_call rfl (en rfl) (c50 _ hok e _ msgs T w2 he (by rw [master_length]; omega) hT (by omega) (hK.only hz2 (by simp)) (by omega))) rfl rfl ?_
  rintro v3 w3 hw3 ⟨h3, hf3⟩
  refine s_val (v_assign rfl) rfl ?_
  repeat (first | refine t_seq ?_ | refine t_region ?_ | refine s_nil ?_ | refine p_then ?_ | refine t_ret ?_ | refine p_then_ret ?_ | refine p_block_ret ?_ | refine t_block ?_ | refine t_exit ?_ | refine p_then_exit ?_ | refine p_block_exit ?_ | refine p_block ?_ | refine t_skip ?_)
  exact ret1 rfl rfl ⟨_, rfl, hz2.trans hw3, h3, hf3.mono hz2.size⟩
set_option maxHeartbeats 1000000 in
theorem c26 (k s b : Int) (A A1 A2 : Option Addr) (c c1 c2 : Nat) (psk shared msgs : Bytes) (w : World) (hp : Rd w A psk) (hl : psk.length ≤ 20000) (hp1 : Rd w A1 shared) (hl1 : shared.length ≤ 20000) (hp2 : Rd w A2 msgs) (hl2 : msgs.length ≤ 60000) (hK : KT w) (hw0 : 0 < w.heap.size) :
    Calls Tryz.prog 26 #[hv k s b, .slice A psk.length c, .slice A1 shared.length c1, .slice A2 msgs.length c2] w (Ret [] w (Fresh w (derive (hkOf k s b) (master (hkOf k s b) psk shared) [114, 101, 115, 32, 109, 97, 115, 116, 101, 114] msgs))) := by
  have hok := hkOf_ok k s b
  have hsl := HK.size_le hok
  refine enter (Γ := [(0, .ex (hv k s b)), (1, .ex (.slice A psk.length c)), (2, .ex (.slice A1 shared.length c1)), (3, .ex (.slice A2 msgs.length c2))]) Tryz.func26 rfl rfl rfl ⟨⟨_, rfl, rfl⟩, ⟨_, rfl, rfl⟩, ⟨_, rfl, rfl⟩, ⟨_, rfl, rfl⟩, trivial⟩ ?_
  repeat (first | refine t_seq ?_ | refine t_region ?_ | refine s_nil ?_ | refine p_then ?_ | refine t_ret ?_ | refine p_then_ret ?_ | refine p_block_ret ?_ | refine t_block ?_ | refine t_exit ?_ | refine p_then_exit ?_ | refine p_block_exit ?_ | refine p_block ?_ | refine t_skip ?_)
  refine s_op (o_box rfl) rfl rfl ?_
  rintro _ w1 hw1 ⟨rfl, hB1⟩
  refine s_val (v_assign rfl) rfl ?_
  have hs1 := hw1.size
  have hK1 : KT w1 := hK.only hw1 (by simp)
  have h01 : 0 < w1.heap.size := by omega
  repeat (first | refine t_seq ?_ | refine t_region ?_ | refine s_nil ?_ | refine p_then ?_ | refine t_ret ?_ | refine p_then_ret ?_ | refine p_block_ret ?_ | refine t_block ?_ | refine t_exit ?_ | refine p_then_exit ?_ | refine p_block_exit ?_ | refine p_block ?_ | refine t_skip ?_)
  refine t_drawO 8 (by kernel_rfl) rfl ?_
  refine fk_val Only.refl' (fun wF hR => v_load rfl (ld23 (hB1.only hR (by simp)))) ?_
  refine fk_val (Only.refl _) (fun wF hR => v_move rfl) ?_
  refine fk_val (Only.refl _) (fun wF hR => v_move rfl) ?_
  refine fk_op st_sec (fun wF hR => f45 rfl (hp.pure hw1) hl (hp1.pure hw1) hl1 hK1 h01 hR) ?_
  refine fk_op st_sec (fun wF hR => f48 hok rfl hK1 h01 hR) ?_
  refine fk_val Only.refl' (fun wF hR => v_load rfl (ld23 (hB1.only hR (by simp)))) ?_
  refine fk_val (Only.refl _) (fun wF hR => v_move rfl) ?_
  refine fk_op st_tr (fun wF hR => f38 rfl (hp2.pure hw1) hl2 hK1 h01 hR) ?_
  refine fk_nil (fun w2 hw2 => ?_)
  refine x_open 13 rfl (fun v h => ?_)
  obtain ⟨e, rfl, he⟩ := h
  refine x_open 16 rfl (fun T hT => ?_)
  refine x_weak [(13, .ex (pt e 0)), (16, .ex T)] ⟨rfl, rfl, trivial⟩ ?_
  have hz2 := hw1.trans hw2
  have hs2 := hw2.size
  refine s_op (o_call rfl (en rfl) (c57 _ hok e _ msgs T w2 he (by rw [master_length]; omega) hT (by omega) (hK.only hz2 (by simp)) (by omega))) rfl rfl ?_
  rintro v3 w3 hw3 ⟨h3, hf3⟩
  refine s_val (v_assign rfl) rfl ?_
  repeat (first | refine t_seq ?_ | refine t_region ?_ | refine s_nil ?_ | refine p_then ?_ | refine t_ret ?_ | refine p_then_ret ?_ | refine p_block_ret ?_ | refine t_block ?_ | refine t_exit ?_ | refine p_then_exit ?_ | refine p_block_exit ?_ | refine p_block ?_ | refine t_skip ?_)
  exact ret1 rfl rfl ⟨_, rfl, hz2.trans hw3, h3, hf3.mono hz2.size⟩
set_option maxHeartbeats 1000000 in
theorem c17 (k s b : Int) (A : Option Addr) (c : Nat) (psk : Bytes) (w : World) (hp : Rd w A psk) (hl : psk.length ≤ 20000) (hK : KT w) (hw0 : 0 < w.heap.size) :
    Calls Tryz.prog 17 #[hv k s b, .slice A psk.length c] w (Ret [] w (Fresh w (derive (hkOf k s b) (early (hkOf k s b) psk) [114, 101, 115, 32, 98, 105, 110, 100, 101, 114] []))) := by
  have hok := hkOf_ok k s b
  have hsl := HK.size_le hok
  refine enter (Γ := [(0, .ex (hv k s b)), (1, .ex (.slice A psk.length c))]) Tryz.func17 rfl rfl rfl ⟨⟨_, rfl, rfl⟩, ⟨_, rfl, rfl⟩, trivial⟩ ?_
  repeat (first | refine t_seq ?_ | refine t_region ?_ | refine s_nil ?_ | refine p_then ?_ | refine t_ret ?_ | refine p_then_ret ?_ | refine p_block_ret ?_ | refine t_block ?_ | refine t_exit ?_ | refine p_then_exit ?_ | refine p_block_exit ?_ | refine p_block ?_ | refine t_skip ?_)
  refine s_op (o_box rfl) rfl rfl ?_
  rintro _ w1 hw1 ⟨rfl, hB1⟩
  refine s_val (v_assign rfl) rfl ?_
  have hs1 := hw1.size
  repeat (first | refine t_seq ?_ | refine t_region ?_ | refine s_nil ?_ | refine p_then ?_ | refine t_ret ?_ | refine p_then_ret ?_ | refine p_block_ret ?_ | refine t_block ?_ | refine t_exit ?_ | refine p_then_exit ?_ | refine p_block_exit ?_ | refine p_block ?_ | refine t_skip ?_)
  refine s_val (v_load rfl (ld23 hB1)) rfl ?_
  refine s_val (v_move rfl) rfl ?_
  refine s_op (f36 rfl (hp.pure hw1) hl (hK.only hw1 (by simp)) (by omega) (Only.refl _ _)) rfl rfl ?_
  rintro _ w2 hw2 ⟨e, rfl, he⟩
  refine s_op (o_call rfl (en rfl) (c42 _ hok e _ w2 he (by rw [early_length]; omega) (hK.only (hw1.trans hw2) (by simp)) (by have := hw2.size; omega))) rfl rfl ?_
  rintro v3 w3 hw3 ⟨h3, hf3⟩
  refine s_val (v_assign rfl) rfl ?_
  repeat (first | refine t_seq ?_ | refine t_region ?_ | refine s_nil ?_ | refine p_then ?_ | refine t_ret ?_ | refine p_then_ret ?_ | refine p_block_ret ?_ | refine t_block ?_ | refine t_exit ?_ | refine p_then_exit ?_ | refine p_block_exit ?_ | refine p_block ?_ | refine t_skip ?_)
  exact ret1 rfl rfl ⟨_, rfl, (hw1.trans hw2).trans hw3, h3, hf3.mono (hw1.trans hw2).size⟩
set_option maxHeartbeats 1000000 in
theorem c16 (k s b : Int) (A A2 A3 : Option Addr) (c c2 c3 : Nat) (psk msgs label ctx : Bytes) (n : Nat) (w : World) (hp : Rd w A psk) (hl : psk.length ≤ 20000) (hp2 : Rd w A2 msgs) (hl2 : msgs.length ≤ 60000) (hla : label.length ≤ 249) (hp3 : Rd w A3 ctx) (hl3 : ctx.length ≤ 60000) (hn : n ≤ 32) (hK : KT w) (hw0 : 0 < w.heap.size) :
    Calls Tryz.prog 16 #[hv k s b, .slice A psk.length c, .slice A2 msgs.length c2, S label, .slice A3 ctx.length c3, I n] w (Ret [] w (Fresh w (expandLabel (hkOf k s b) (derive (hkOf k s b) (derive (hkOf k s b) (early (hkOf k s b) psk) [101, 32, 101, 120, 112, 32, 109, 97, 115, 116, 101, 114] msgs) label []) [101, 120, 112, 111, 114, 116, 101, 114] (((hkOf k s b)).hash ctx) n))) := by
  have hok := hkOf_ok k s b
  have hsl := HK.size_le hok
  refine enter (Γ := [(0, .ex (hv k s b)), (1, .ex (.slice A psk.length c)), (2, .ex (.slice A2 msgs.length c2)), (3, .ex (S label)), (4, .ex (.slice A3 ctx.length c3)), (5, .ex (I n))]) Tryz.func16 rfl rfl rfl ⟨⟨_, rfl, rfl⟩, ⟨_, rfl, rfl⟩, ⟨_, rfl, rfl⟩, ⟨_, rfl, rfl⟩, ⟨_, rfl, rfl⟩, ⟨_, rfl, rfl⟩, trivial⟩ ?_
  repeat (first | refine t_seq ?_ | refine t_region ?_ | refine s_nil ?_ | refine p_then ?_ | refine t_ret ?_ | refine p_then_ret ?_ | refine p_block_ret ?_ | refine t_block ?_ | refine t_exit ?_ | refine p_then_exit ?_ | refine p_block_exit ?_ | refine p_block ?_ | refine t_skip ?_)
  refine s_op (o_box rfl) rfl rfl ?_
  rintro _ w1 hw1 ⟨rfl, hB1⟩
  refine s_val (v_assign rfl) rfl ?_
  have hs1 := hw1.size
  have hK1 : KT w1 := hK.only hw1 (by simp)
  have h01 : 0 < w1.heap.size := by omega
  repeat (first | refine t_seq ?_ | refine t_region ?_ | refine s_nil ?_ | refine p_then ?_ | refine t_ret ?_ | refine p_then_ret ?_ | refine p_block_ret ?_ | refine t_block ?_ | refine t_exit ?_ | refine p_then_exit ?_ | refine p_block_exit ?_ | refine p_block ?_ | refine t_skip ?_)
  refine t_drawO 11 (by kernel_rfl) rfl ?_
  refine fk_val Only.refl' (fun wF hR => v_load rfl (ld23 (hB1.only hR (by simp)))) ?_
  refine fk_val (Only.refl _) (fun wF hR => v_move rfl) ?_
  refine fk_op st_sec (fun wF hR => f36 rfl (hp.pure hw1) hl hK1 h01 hR) ?_
  refine fk_val Only.refl' (fun wF hR => v_load rfl (ld23 (hB1.only hR (by simp)))) ?_
  refine fk_val (Only.refl _) (fun wF hR => v_move rfl) ?_
  refine fk_op st_tr (fun wF hR => f38 rfl (hp2.pure hw1) hl2 hK1 h01 hR) ?_
  refine fk_op st_sec (fun wF hR => f39 hok rfl rfl hl2 hK1 h01 hR) ?_
  refine fk_val (Only.refl _) (fun wF hR => v_move rfl) ?_
  refine fk_val (Only.refl _) (fun wF hR => v_move rfl) ?_
  refine fk_op st_sl (fun wF hR => f41 rfl (hp3.pure hw1) (by omega) hR) ?_
  refine fk_val (Only.refl _) (fun wF hR => v_move rfl) ?_
  refine fk_nil (fun w2 hw2 => ?_)
  refine x_open 19 rfl (fun v h => ?_)
  obtain ⟨e, rfl, he⟩ := h
  refine x_open 22 rfl (fun v h => ?_)
  obtain ⟨A4, c4, rfl, hc4, hr4, _⟩ := h
  refine x_weak [(19, .ex (pt e 0)), (20, .ex (S label)), (22, .ex (.slice A4 ctx.length c4)), (23, .ex (I n))] ⟨rfl, rfl, rfl, rfl, trivial⟩ ?_
  have hz2 := hw1.trans hw2
  have hs2 := hw2.size
  refine s_op (o_call rfl (en rfl) (c40 _ hok e _ label ctx A4 c4 n w2 he (by rw [derive_length hok]; omega) hla hr4 hc4 hl3 hn (hK.only hz2 (by simp)) (by omega))) rfl rfl ?_
  rintro v3 w3 hw3 ⟨h3, hf3⟩
  refine s_val (v_assign rfl) rfl ?_
  repeat (first | refine t_seq ?_ | refine t_region ?_ | refine s_nil ?_ | refine p_then ?_ | refine t_ret ?_ | refine p_then_ret ?_ | refine p_block_ret ?_ | refine t_block ?_ | refine t_exit ?_ | refine p_then_exit ?_ | refine p_block_exit ?_ | refine p_block ?_ | refine t_skip ?_)
  exact ret1 rfl rfl ⟨_, rfl, hz2.trans hw3, h3, hf3.mono hz2.size⟩
set_option maxHeartbeats 1000000 in
theorem c25 (k s b : Int) (A A1 A2 A3 : Option Addr) (c c1 c2 c3 : Nat) (psk shared msgs label ctx : Bytes) (n : Nat) (w : World) (hp : Rd w A psk) (hl : psk.length ≤ 20000) (hp1 : Rd w A1 shared) (hl1 : shared.length ≤ 20000) (hp2 : Rd w A2 msgs) (hl2 : msgs.length ≤ 60000) (hla : label.length ≤ 249) (hp3 : Rd w A3 ctx) (hl3 : ctx.length ≤ 60000) (hn : n ≤ 32) (hK : KT w) (hw0 : 0 < w.heap.size) :
    Calls Tryz.prog 25 #[hv k s b, .slice A psk.length c, .slice A1 shared.length c1, .slice A2 msgs.length c2, S label, .slice A3 ctx.length c3, I n] w (Ret [] w (Fresh w (expandLabel (hkOf k s b) (derive (hkOf k s b) (derive (hkOf k s b) (master (hkOf k s b) psk shared) [101, 120, 112, 32, 109, 97, 115, 116, 101, 114] msgs) label []) [101, 120, 112, 111, 114, 116, 101, 114] (((hkOf k s b)).hash ctx) n))) := by
  have hok := hkOf_ok k s b
  have hsl := HK.size_le hok
  refine enter (Γ := [(0, .ex (hv k s b)), (1, .ex (.slice A psk.length c)), (2, .ex (.slice A1 shared.length c1)), (3, .ex (.slice A2 msgs.length c2)), (4, .ex (S label)), (5, .ex (.slice A3 ctx.length c3)), (6, .ex (I n))]) Tryz.func25 rfl rfl rfl ⟨⟨_, rfl, rfl⟩, ⟨_, rfl, rfl⟩, ⟨_, rfl, rfl⟩, ⟨_, rfl, rfl⟩, ⟨_, rfl, rfl⟩, ⟨_, rfl, rfl⟩, ⟨_, rfl, rfl⟩, trivial⟩ ?_
  repeat (first | refine t_seq ?_ | refine t_region ?_ | refine s_nil ?_ | refine p_then ?_ | refine t_ret ?_ | refine p_then_ret ?_ | refine p_block_ret ?_ | refine t_block ?_ | refine t_exit ?_ | refine p_then_exit ?_ | refine p_block_exit ?_ | refine p_block ?_ | refine t_skip ?_)
  refine s_op (o_box rfl) rfl rfl ?_
  rintro _ w1 hw1 ⟨rfl, hB1⟩
  refine s_val (v_assign rfl) rfl ?_
  have hs1 := hw1.size
  have hK1 : KT w1 := hK.only hw1 (by simp)
  have h01 : 0 < w1.heap.size := by omega
  repeat (first | refine t_seq ?_ | refine t_region ?_ | refine s_nil ?_ | refine p_then ?_ | refine t_ret ?_ | refine p_then_ret ?_ | refine p_block_ret ?_ | refine t_block ?_ | refine t_exit ?_ | refine p_then_exit ?_ | refine p_block_exit ?_ | refine p_block ?_ | refine t_skip ?_)
  refine t_drawO 13 (by kernel_rfl) rfl ?_
  refine fk_val Only.refl' (fun wF hR => v_load rfl (ld23 (hB1.only hR (by simp)))) ?_
  refine fk_val (Only.refl _) (fun wF hR => v_move rfl) ?_
  refine fk_val (Only.refl _) (fun wF hR => v_move rfl) ?_
  refine fk_op st_sec (fun wF hR => f45 rfl (hp.pure hw1) hl (hp1.pure hw1) hl1 hK1 h01 hR) ?_
  refine fk_op st_sec (fun wF hR => f48 hok rfl hK1 h01 hR) ?_
  refine fk_val Only.refl' (fun wF hR => v_load rfl (ld23 (hB1.only hR (by simp)))) ?_
  refine fk_val (Only.refl _) (fun wF hR => v_move rfl) ?_
  refine fk_op st_tr (fun wF hR => f38 rfl (hp2.pure hw1) hl2 hK1 h01 hR) ?_
  refine fk_op st_sec (fun wF hR => f56 hok rfl rfl hl2 hK1 h01 hR) ?_
  refine fk_val (Only.refl _) (fun wF hR => v_move rfl) ?_
  refine fk_val (Only.refl _) (fun wF hR => v_move rfl) ?_
  refine fk_op st_sl (fun wF hR => f41 rfl (hp3.pure hw1) (by omega) hR) ?_
  refine fk_val (Only.refl _) (fun wF hR => v_move rfl) ?_
  refine fk_nil (fun w2 hw2 => ?_)
  refine x_open 23 rfl (fun v h => ?_)
  obtain ⟨e, rfl, he⟩ := h
  refine x_open 26 rfl (fun v h => ?_)
  obtain ⟨A4, c4, rfl, hc4, hr4, _⟩ := h
  refine x_weak [(23, .ex (pt e 0)), (24, .ex (S label)), (26, .ex (.slice A4 ctx.length c4)), (27, .ex (I n))] ⟨rfl, rfl, rfl, rfl, trivial⟩ ?_
  have hz2 := hw1.trans hw2
  have hs2 := hw2.size
  refine s_op (o_call rfl (en rfl) (c40 _ hok e _ label ctx A4 c4 n w2 he (by rw [derive_length hok]; omega) hla hr4 hc4 hl3 hn (hK.only hz2 (by simp)) (by omega))) rfl rfl ?_
  rintro v3 w3 hw3 ⟨h3, hf3⟩
  refine s_val (v_assign rfl) rfl ?_
  repeat (first | refine t_seq ?_ | refine t_region ?_ | refine s_nil ?_ | refine p_then ?_ | refine t_ret ?_ | refine p_then_ret ?_ | refine p_block_ret ?_ | refine t_block ?_ | refine t_exit ?_ | refine p_then_exit ?_ | refine p_block_exit ?_ | refine p_block ?_ | refine t_skip ?_)
  exact ret1 rfl rfl ⟨_, rfl, hz2.trans hw3, h3, hf3.mono hz2.size⟩
end Go.Proofs.YtnaefgnjdmmmcaaGreatDoor
/- The spec in the program: sizes, Size, Block, given, Joined. -/
namespace Go.Proofs.YtnaefgnjdmmmcaaGreatDoor
open Go.RowKit

/-- A slice that reads as these bytes. -/
def Sl (l : Bytes) : Pred := fun v w => ∃ A c, v = .slice A l.length c ∧ l.length ≤ c ∧ Rd w A l
theorem st_s {l : Bytes} : ∀ (v : Value) (w w' : World), Sl l v w → Only [] w w' → Sl l v w' := fun _ _ _ ⟨A, c, h1, h2, h3⟩ k => ⟨A, c, h1, h2, h3.pure k⟩
theorem Own.sl {w : World} {v : Value} {l : Bytes} (h : Own w v l) : Sl l v w := let ⟨A, c, h1, h2, h3, _⟩ := h.slice; ⟨A, c, h1, h2, h3⟩
theorem Fresh.sl {w w' : World} {v : Value} {l : Bytes} (h : Fresh w l v w') : Sl l v w' := h.1.sl
/-- A row of slices that read as these. -/
structure Pt where
  A : Option Addr
  c : Nat
  l : Bytes
def Pt.val (p : Pt) : Value := .slice p.A p.l.length p.c
def JP (ls : List Bytes) : Pred := fun v w => ∃ (g : Nat) (ps : List Pt), v = .slice (some ⟨g, 0, none⟩) ls.length ls.length ∧ Blk w g 24 (ps.map Pt.val).toArray ∧ ps.map Pt.l = ls ∧ ∀ p ∈ ps, Rd w p.A p.l
theorem st_jp {ls : List Bytes} : ∀ (v : Value) (w w' : World), JP ls v w → Only [] w w' → JP ls v w' := fun _ _ _ ⟨g, ps, h1, h2, h3, h4⟩ k => ⟨g, ps, h1, h2.only k (by simp), h3, fun p hp => (h4 p hp).pure k⟩
section
variable {P : Program} {N : Nat} {Γ : Env} {w : World} {d : Option Tmp} {ty : TypeId} {pos : String} {af : Array Edge} {gd : Option (Nat × Bool)}
def All2 (w : World) (a : Act) : List Operand → List Bytes → Prop
  | [], [] => True
  | x :: xs, l :: ls => Sl l (a.eval x) w ∧ All2 w a xs ls
  | _, _ => False
theorem All2.parts {a : Act} : ∀ {xs : List Operand} {ls : List Bytes}, All2 w a xs ls → ∃ ps : List Pt, xs.map a.eval = ps.map Pt.val ∧ ps.map Pt.l = ls ∧ ∀ p ∈ ps, Rd w p.A p.l
  | [], [], _ => ⟨[], rfl, rfl, by simp⟩
  | x :: xs, l :: ls, ⟨⟨A, c, h1, _, h3⟩, h⟩ => by
    obtain ⟨ps, e1, e2, e3⟩ := All2.parts h
    refine ⟨⟨A, c, l⟩ :: ps, by simp [e1, h1, Pt.val], by simp [e2], fun p hp => ?_⟩
    rcases List.mem_cons.1 hp with rfl | hp
    · exact h3
    · exact e3 p hp
  | [], _ :: _, h => h.elim
  | _ :: _, [], h => h.elim
theorem o_parts {ps : Array (Nat × Operand)} {t : TypeId} {z : Value} {bytes n : Nat} {ls : List Bytes} (hT : RowTy P t 24 z bytes) (hi : ps.toList.map (·.1) = List.range ls.length) (hn : n = ls.length) (hpos : 0 < ls.length) (hsm : ls.length ≤ 1000)
    (h : ∀ a, SatOn N Γ ⟨d, .buildSlice t n ps, ty, pos, af, gd⟩ a w → All2 w a (ps.toList.map (·.2)) ls) : OpAt P N Γ w ⟨d, .buildSlice t n ps, ty, pos, af, gd⟩ (Only []) (JP ls) :=
  opAt_val fun a ha => by
    subst hn
    obtain ⟨qs, e1, e2, e3⟩ := (h a ha).parts
    obtain ⟨i, hinf, hz, hs, _⟩ := hT.info
    have hql : (qs.map Pt.val).length = ls.length := by rw [← e2]; simp
    have hp : (ps.map fun (i, x) => (i, a.eval x)).toList = (List.range ls.length).zip (qs.map Pt.val) := by
      rw [← e1, ← hi, Array.toList_map]
      induction ps.toList with
      | nil => rfl
      | cons p r ih => simp [ih]
    have hzip : (List.range ls.length).zip (qs.map Pt.val) = ((qs.map Pt.val).zipIdx 0).map fun x => (x.2, x.1) := by
      rw [← hql]
      apply List.ext_getElem?
      intro k
      simp [List.zip, List.getElem?_zipWith, List.getElem?_zipIdx]
      by_cases hk : k < qs.length
      · simp [hk]
      · simp [hk]
    have hf := Great.fill_flat (qs.map Pt.val) ((Array.range (ls.length * i.size)).map (z.cells[· % z.cells.size]!)) (fun v hv => by obtain ⟨p, _, rfl⟩ := List.mem_map.1 hv; rfl) (by simp [hs] at hql ⊢; exact hql)
    refine ⟨.slice (some ⟨w.heap.size, 0, none⟩) ls.length ls.length, w.alloc (.cells (qs.map Pt.val).toArray 24), ?_, Only.alloc [] w _, w.heap.size, qs, rfl, Blk.new w 24 _, e2, fun p hp => (e3 p hp).pure (Only.alloc [] w _)⟩
    have hr := run_buildSlice (P := P) w t 24 ls.length (ps.map fun (i, x) => (i, a.eval x)) (qs.map Pt.val).toArray i z hT.und hinf hz (by rw [hs]; omega) (by rw [hs]; omega) (by rw [hp, hzip, hs]; rw [hs] at hf; exact hf)
    simp only [execOp, Sem.run_bind, hr, Result.andThen_ok, Sem.run_pure]
end
section
attribute [local irreducible] ValAt OpAt RunX Tr Post FlowK
set_option maxHeartbeats 1000000 in
/-- spec.sizes -/
theorem c55 (k s b : Int) (w : World) : Calls Tryz.prog 55 #[hv k s b] w (Ret [] w fun v _ => v = .tuple #[I (hkOf k s b).size, I (hkOf k s b).block]) := by
  refine enter (Γ := [(0, .ex (hv k s b))]) Tryz.func55 rfl rfl rfl ⟨⟨_, rfl, rfl⟩, trivial⟩ ?_
  repeat (first | refine t_seq ?_ | refine t_region ?_ | refine s_nil ?_ | refine p_then ?_ | refine t_ret ?_ | refine p_then_ret ?_ | refine p_block_ret ?_ | refine t_block ?_ | refine t_exit ?_ | refine p_then_exit ?_ | refine p_block_exit ?_ | refine p_block ?_ | refine t_skip ?_)
  refine s_op (o_box rfl) rfl rfl ?_
  rintro _ w1 hw1 ⟨rfl, hB1⟩
  refine s_val (v_assign rfl) rfl ?_
  refine s_val (v_assign rfl) rfl ?_
  repeat (first | refine t_seq ?_ | refine t_region ?_ | refine s_nil ?_ | refine p_then ?_ | refine t_ret ?_ | refine p_then_ret ?_ | refine p_block_ret ?_ | refine t_block ?_ | refine t_exit ?_ | refine p_then_exit ?_ | refine p_block_exit ?_ | refine p_block ?_ | refine t_skip ?_)
  refine s_val (v_fieldAddr rfl (fo rfl)) rfl ?_
  refine s_val (v_load1 rfl (sc rfl) (by first | exact hB1.cell _ rfl | assumption)) rfl ?_
  refine s_val (v_eqI rfl rfl) rfl ?_
  repeat (first | refine t_seq ?_ | refine t_region ?_ | refine s_nil ?_ | refine p_then ?_ | refine t_ret ?_ | refine p_then_ret ?_ | refine p_block_ret ?_ | refine t_block ?_ | refine t_exit ?_ | refine p_then_exit ?_ | refine p_block_exit ?_ | refine p_block ?_ | refine t_skip ?_)
  obtain ⟨H, hH⟩ : ∃ H, H = hkOf k s b := ⟨_, rfl⟩
  rw [← hH]
  refine t_if rfl (fun hb => ?_) (fun hb => ?_)
  · have hk : k = 1 := by simpa using hb
    have hHe : H = .sha := by rw [hH, hk, hkOf_one]
    subst hHe
    repeat (first | refine t_seq ?_ | refine t_region ?_ | refine s_nil ?_ | refine p_then ?_ | refine t_ret ?_ | refine p_then_ret ?_ | refine p_block_ret ?_ | refine t_block ?_ | refine t_exit ?_ | refine p_then_exit ?_ | refine p_block_exit ?_ | refine p_block ?_ | refine t_skip ?_)
    refine s_val (v_assign rfl) rfl ?_
    refine s_val (v_assign rfl) rfl ?_
    repeat (first | refine t_seq ?_ | refine t_region ?_ | refine s_nil ?_ | refine p_then ?_ | refine t_ret ?_ | refine p_then_ret ?_ | refine p_block_ret ?_ | refine t_block ?_ | refine t_exit ?_ | refine p_then_exit ?_ | refine p_block_exit ?_ | refine p_block ?_ | refine t_skip ?_)
    exact ret2 rfl rfl rfl ⟨_, rfl, hw1, rfl⟩
  have hk : k ≠ 1 := by simpa using hb
  clear hb
  repeat (first | refine t_seq ?_ | refine t_region ?_ | refine s_nil ?_ | refine p_then ?_ | refine t_ret ?_ | refine p_then_ret ?_ | refine p_block_ret ?_ | refine t_block ?_ | refine t_exit ?_ | refine p_then_exit ?_ | refine p_block_exit ?_ | refine p_block ?_ | refine t_skip ?_)
  refine s_val (v_fieldAddr rfl (fo rfl)) rfl ?_
  refine s_val (v_load1 rfl (sc rfl) (by first | exact hB1.cell _ rfl | assumption)) rfl ?_
  refine s_val (v_ltI rfl rfl) rfl ?_
  refine s_val (v_move rfl) rfl ?_
  by_cases c1 : s < 1
  · rw [decide_eq_true c1]
    first | refine s_yes rfl rfl (v_fieldAddr rfl (fo rfl)) rfl ?_ | refine s_no rfl rfl rfl rfl ?_ | refine s_no_undef rfl rfl rfl ?_
    first | refine s_yes rfl rfl (v_load1 rfl (sc rfl) (by first | exact hB1.cell _ rfl | assumption)) rfl ?_ | refine s_no rfl rfl rfl rfl ?_ | refine s_no_undef rfl rfl rfl ?_
    first | refine s_yes rfl rfl (v_gtI rfl rfl) rfl ?_ | refine s_no rfl rfl rfl rfl ?_ | refine s_no_undef rfl rfl rfl ?_
    refine s_val (v_pick rfl rfl rfl) rfl ?_
    refine s_val (v_move rfl) rfl ?_
    first | refine s_yes rfl rfl (v_fieldAddr rfl (fo rfl)) rfl ?_ | refine s_no rfl rfl rfl rfl ?_ | refine s_no_undef rfl rfl rfl ?_
    first | refine s_yes rfl rfl (v_load1 rfl (sc rfl) (by first | exact hB1.cell _ rfl | assumption)) rfl ?_ | refine s_no rfl rfl rfl rfl ?_ | refine s_no_undef rfl rfl rfl ?_
    first | refine s_yes rfl rfl (v_fieldAddr rfl (fo rfl)) rfl ?_ | refine s_no rfl rfl rfl rfl ?_ | refine s_no_undef rfl rfl rfl ?_
    first | refine s_yes rfl rfl (v_load1 rfl (sc rfl) (by first | exact hB1.cell _ rfl | assumption)) rfl ?_ | refine s_no rfl rfl rfl rfl ?_ | refine s_no_undef rfl rfl rfl ?_
    first | refine s_yes rfl rfl (v_ltI rfl rfl) rfl ?_ | refine s_no rfl rfl rfl rfl ?_ | refine s_no_undef rfl rfl rfl ?_
    refine s_val (v_pick rfl rfl rfl) rfl ?_
    refine s_val (v_move rfl) rfl ?_
    first | refine s_yes rfl rfl (v_fieldAddr rfl (fo rfl)) rfl ?_ | refine s_no rfl rfl rfl rfl ?_ | refine s_no_undef rfl rfl rfl ?_
    first | refine s_yes rfl rfl (v_load1 rfl (sc rfl) (by first | exact hB1.cell _ rfl | assumption)) rfl ?_ | refine s_no rfl rfl rfl rfl ?_ | refine s_no_undef rfl rfl rfl ?_
    first | refine s_yes rfl rfl (v_gtI rfl rfl) rfl ?_ | refine s_no rfl rfl rfl rfl ?_ | refine s_no_undef rfl rfl rfl ?_
    refine s_val (v_pick rfl rfl rfl) rfl ?_
    repeat (first | refine t_seq ?_ | refine t_region ?_ | refine s_nil ?_ | refine p_then ?_ | refine t_ret ?_ | refine p_then_ret ?_ | refine p_block_ret ?_ | refine t_block ?_ | refine t_exit ?_ | refine p_then_exit ?_ | refine p_block_exit ?_ | refine p_block ?_ | refine t_skip ?_)
    refine t_true rfl ?_
    have hHe : H = .own 1 16 := by rw [hH]; unfold hkOf; rw [if_neg hk, if_pos (by omega)]
    subst hHe
    repeat (first | refine t_seq ?_ | refine t_region ?_ | refine s_nil ?_ | refine p_then ?_ | refine t_ret ?_ | refine p_then_ret ?_ | refine p_block_ret ?_ | refine t_block ?_ | refine t_exit ?_ | refine p_then_exit ?_ | refine p_block_exit ?_ | refine p_block ?_ | refine t_skip ?_)
    refine s_val (v_assign rfl) rfl ?_
    refine s_val (v_assign rfl) rfl ?_
    repeat (first | refine t_seq ?_ | refine t_region ?_ | refine s_nil ?_ | refine p_then ?_ | refine t_ret ?_ | refine p_then_ret ?_ | refine p_block_ret ?_ | refine t_block ?_ | refine t_exit ?_ | refine p_then_exit ?_ | refine p_block_exit ?_ | refine p_block ?_ | refine t_skip ?_)
    exact ret2 rfl rfl rfl ⟨_, rfl, hw1, rfl⟩
  rw [decide_eq_false c1]
  first | refine s_yes rfl rfl (v_fieldAddr rfl (fo rfl)) rfl ?_ | refine s_no rfl rfl rfl rfl ?_ | refine s_no_undef rfl rfl rfl ?_
  first | refine s_yes rfl rfl (v_load1 rfl (sc rfl) (by first | exact hB1.cell _ rfl | assumption)) rfl ?_ | refine s_no rfl rfl rfl rfl ?_ | refine s_no_undef rfl rfl rfl ?_
  first | refine s_yes rfl rfl (v_gtI rfl rfl) rfl ?_ | refine s_no rfl rfl rfl rfl ?_ | refine s_no_undef rfl rfl rfl ?_
  refine s_val (v_pick rfl rfl rfl) rfl ?_
  refine s_val (v_move rfl) rfl ?_
  by_cases c2 : s > 16
  · rw [decide_eq_true c2]
    first | refine s_yes rfl rfl (v_fieldAddr rfl (fo rfl)) rfl ?_ | refine s_no rfl rfl rfl rfl ?_ | refine s_no_undef rfl rfl rfl ?_
    first | refine s_yes rfl rfl (v_load1 rfl (sc rfl) (by first | exact hB1.cell _ rfl | assumption)) rfl ?_ | refine s_no rfl rfl rfl rfl ?_ | refine s_no_undef rfl rfl rfl ?_
    first | refine s_yes rfl rfl (v_fieldAddr rfl (fo rfl)) rfl ?_ | refine s_no rfl rfl rfl rfl ?_ | refine s_no_undef rfl rfl rfl ?_
    first | refine s_yes rfl rfl (v_load1 rfl (sc rfl) (by first | exact hB1.cell _ rfl | assumption)) rfl ?_ | refine s_no rfl rfl rfl rfl ?_ | refine s_no_undef rfl rfl rfl ?_
    first | refine s_yes rfl rfl (v_ltI rfl rfl) rfl ?_ | refine s_no rfl rfl rfl rfl ?_ | refine s_no_undef rfl rfl rfl ?_
    refine s_val (v_pick rfl rfl rfl) rfl ?_
    refine s_val (v_move rfl) rfl ?_
    first | refine s_yes rfl rfl (v_fieldAddr rfl (fo rfl)) rfl ?_ | refine s_no rfl rfl rfl rfl ?_ | refine s_no_undef rfl rfl rfl ?_
    first | refine s_yes rfl rfl (v_load1 rfl (sc rfl) (by first | exact hB1.cell _ rfl | assumption)) rfl ?_ | refine s_no rfl rfl rfl rfl ?_ | refine s_no_undef rfl rfl rfl ?_
    first | refine s_yes rfl rfl (v_gtI rfl rfl) rfl ?_ | refine s_no rfl rfl rfl rfl ?_ | refine s_no_undef rfl rfl rfl ?_
    refine s_val (v_pick rfl rfl rfl) rfl ?_
    repeat (first | refine t_seq ?_ | refine t_region ?_ | refine s_nil ?_ | refine p_then ?_ | refine t_ret ?_ | refine p_then_ret ?_ | refine p_block_ret ?_ | refine t_block ?_ | refine t_exit ?_ | refine p_then_exit ?_ | refine p_block_exit ?_ | refine p_block ?_ | refine t_skip ?_)
    refine t_true rfl ?_
    have hHe : H = .own 1 16 := by rw [hH]; unfold hkOf; rw [if_neg hk, if_pos (by omega)]
    subst hHe
    repeat (first | refine t_seq ?_ | refine t_region ?_ | refine s_nil ?_ | refine p_then ?_ | refine t_ret ?_ | refine p_then_ret ?_ | refine p_block_ret ?_ | refine t_block ?_ | refine t_exit ?_ | refine p_then_exit ?_ | refine p_block_exit ?_ | refine p_block ?_ | refine t_skip ?_)
    refine s_val (v_assign rfl) rfl ?_
    refine s_val (v_assign rfl) rfl ?_
    repeat (first | refine t_seq ?_ | refine t_region ?_ | refine s_nil ?_ | refine p_then ?_ | refine t_ret ?_ | refine p_then_ret ?_ | refine p_block_ret ?_ | refine t_block ?_ | refine t_exit ?_ | refine p_then_exit ?_ | refine p_block_exit ?_ | refine p_block ?_ | refine t_skip ?_)
    exact ret2 rfl rfl rfl ⟨_, rfl, hw1, rfl⟩
  rw [decide_eq_false c2]
  first | refine s_yes rfl rfl (v_fieldAddr rfl (fo rfl)) rfl ?_ | refine s_no rfl rfl rfl rfl ?_ | refine s_no_undef rfl rfl rfl ?_
  first | refine s_yes rfl rfl (v_load1 rfl (sc rfl) (by first | exact hB1.cell _ rfl | assumption)) rfl ?_ | refine s_no rfl rfl rfl rfl ?_ | refine s_no_undef rfl rfl rfl ?_
  first | refine s_yes rfl rfl (v_fieldAddr rfl (fo rfl)) rfl ?_ | refine s_no rfl rfl rfl rfl ?_ | refine s_no_undef rfl rfl rfl ?_
  first | refine s_yes rfl rfl (v_load1 rfl (sc rfl) (by first | exact hB1.cell _ rfl | assumption)) rfl ?_ | refine s_no rfl rfl rfl rfl ?_ | refine s_no_undef rfl rfl rfl ?_
  first | refine s_yes rfl rfl (v_ltI rfl rfl) rfl ?_ | refine s_no rfl rfl rfl rfl ?_ | refine s_no_undef rfl rfl rfl ?_
  refine s_val (v_pick rfl rfl rfl) rfl ?_
  refine s_val (v_move rfl) rfl ?_
  by_cases c3 : b < s
  · rw [decide_eq_true c3]
    first | refine s_yes rfl rfl (v_fieldAddr rfl (fo rfl)) rfl ?_ | refine s_no rfl rfl rfl rfl ?_ | refine s_no_undef rfl rfl rfl ?_
    first | refine s_yes rfl rfl (v_load1 rfl (sc rfl) (by first | exact hB1.cell _ rfl | assumption)) rfl ?_ | refine s_no rfl rfl rfl rfl ?_ | refine s_no_undef rfl rfl rfl ?_
    first | refine s_yes rfl rfl (v_gtI rfl rfl) rfl ?_ | refine s_no rfl rfl rfl rfl ?_ | refine s_no_undef rfl rfl rfl ?_
    refine s_val (v_pick rfl rfl rfl) rfl ?_
    repeat (first | refine t_seq ?_ | refine t_region ?_ | refine s_nil ?_ | refine p_then ?_ | refine t_ret ?_ | refine p_then_ret ?_ | refine p_block_ret ?_ | refine t_block ?_ | refine t_exit ?_ | refine p_then_exit ?_ | refine p_block_exit ?_ | refine p_block ?_ | refine t_skip ?_)
    refine t_true rfl ?_
    have hHe : H = .own 1 16 := by rw [hH]; unfold hkOf; rw [if_neg hk, if_pos (by omega)]
    subst hHe
    repeat (first | refine t_seq ?_ | refine t_region ?_ | refine s_nil ?_ | refine p_then ?_ | refine t_ret ?_ | refine p_then_ret ?_ | refine p_block_ret ?_ | refine t_block ?_ | refine t_exit ?_ | refine p_then_exit ?_ | refine p_block_exit ?_ | refine p_block ?_ | refine t_skip ?_)
    refine s_val (v_assign rfl) rfl ?_
    refine s_val (v_assign rfl) rfl ?_
    repeat (first | refine t_seq ?_ | refine t_region ?_ | refine s_nil ?_ | refine p_then ?_ | refine t_ret ?_ | refine p_then_ret ?_ | refine p_block_ret ?_ | refine t_block ?_ | refine t_exit ?_ | refine p_then_exit ?_ | refine p_block_exit ?_ | refine p_block ?_ | refine t_skip ?_)
    exact ret2 rfl rfl rfl ⟨_, rfl, hw1, rfl⟩
  rw [decide_eq_false c3]
  first | refine s_yes rfl rfl (v_fieldAddr rfl (fo rfl)) rfl ?_ | refine s_no rfl rfl rfl rfl ?_ | refine s_no_undef rfl rfl rfl ?_
  first | refine s_yes rfl rfl (v_load1 rfl (sc rfl) (by first | exact hB1.cell _ rfl | assumption)) rfl ?_ | refine s_no rfl rfl rfl rfl ?_ | refine s_no_undef rfl rfl rfl ?_
  first | refine s_yes rfl rfl (v_gtI rfl rfl) rfl ?_ | refine s_no rfl rfl rfl rfl ?_ | refine s_no_undef rfl rfl rfl ?_
  refine s_val (v_pick rfl rfl rfl) rfl ?_
  by_cases c4 : b > 32
  · rw [decide_eq_true c4]
    repeat (first | refine t_seq ?_ | refine t_region ?_ | refine s_nil ?_ | refine p_then ?_ | refine t_ret ?_ | refine p_then_ret ?_ | refine p_block_ret ?_ | refine t_block ?_ | refine t_exit ?_ | refine p_then_exit ?_ | refine p_block_exit ?_ | refine p_block ?_ | refine t_skip ?_)
    refine t_true rfl ?_
    have hHe : H = .own 1 16 := by rw [hH]; unfold hkOf; rw [if_neg hk, if_pos (by omega)]
    subst hHe
    repeat (first | refine t_seq ?_ | refine t_region ?_ | refine s_nil ?_ | refine p_then ?_ | refine t_ret ?_ | refine p_then_ret ?_ | refine p_block_ret ?_ | refine t_block ?_ | refine t_exit ?_ | refine p_then_exit ?_ | refine p_block_exit ?_ | refine p_block ?_ | refine t_skip ?_)
    refine s_val (v_assign rfl) rfl ?_
    refine s_val (v_assign rfl) rfl ?_
    repeat (first | refine t_seq ?_ | refine t_region ?_ | refine s_nil ?_ | refine p_then ?_ | refine t_ret ?_ | refine p_then_ret ?_ | refine p_block_ret ?_ | refine t_block ?_ | refine t_exit ?_ | refine p_then_exit ?_ | refine p_block_exit ?_ | refine p_block ?_ | refine t_skip ?_)
    exact ret2 rfl rfl rfl ⟨_, rfl, hw1, rfl⟩
  rw [decide_eq_false c4]
  repeat (first | refine t_seq ?_ | refine t_region ?_ | refine s_nil ?_ | refine p_then ?_ | refine t_ret ?_ | refine p_then_ret ?_ | refine p_block_ret ?_ | refine t_block ?_ | refine t_exit ?_ | refine p_then_exit ?_ | refine p_block_exit ?_ | refine p_block ?_ | refine t_skip ?_)
  refine t_false rfl ?_
  have hHe : H = .own s.toNat b.toNat := by rw [hH]; unfold hkOf; rw [if_neg hk, if_neg (by omega)]
  subst hHe
  have e1 : I s.toNat = .int .i64 s := by rw [I, Int.toNat_of_nonneg (by omega)]
  have e2 : I b.toNat = .int .i64 b := by rw [I, Int.toNat_of_nonneg (by omega)]
  repeat (first | refine t_seq ?_ | refine t_region ?_ | refine s_nil ?_ | refine p_then ?_ | refine t_ret ?_ | refine p_then_ret ?_ | refine p_block_ret ?_ | refine t_block ?_ | refine t_exit ?_ | refine p_then_exit ?_ | refine p_block_exit ?_ | refine p_block ?_ | refine t_skip ?_)
  refine t_drawO 6 (by kernel_rfl) rfl ?_
  refine fk_val (Only.refl _) (fun wF hR => v_fieldAddr rfl (fo rfl)) ?_
  refine fk_val (Only.refl _) (fun wF hR => v_load1 rfl (sc rfl) (by first | exact (hB1.only hR (by simp)).cell _ rfl | assumption)) ?_
  refine fk_val (Only.refl _) (fun wF hR => v_fieldAddr rfl (fo rfl)) ?_
  refine fk_val (Only.refl _) (fun wF hR => v_load1 rfl (sc rfl) (by first | exact (hB1.only hR (by simp)).cell _ rfl | assumption)) ?_
  refine fk_val (Only.refl _) (fun wF hR => v_assign rfl) ?_
  refine fk_val (Only.refl _) (fun wF hR => v_assign rfl) ?_
  refine fk_nil (fun w2 hw2 => ?_)
  repeat (first | refine t_seq ?_ | refine t_region ?_ | refine s_nil ?_ | refine p_then ?_ | refine t_ret ?_ | refine p_then_ret ?_ | refine p_block_ret ?_ | refine t_block ?_ | refine t_exit ?_ | refine p_then_exit ?_ | refine p_block_exit ?_ | refine p_block ?_ | refine t_skip ?_)
  refine ret2 rfl rfl rfl ⟨_, rfl, hw1.trans hw2, ?_⟩
  simp only [HK.size, HK.block, e1, e2]
  rfl
theorem c24 (k s b : Int) (w : World) : Calls Tryz.prog 24 #[hv k s b] w (Ret [] w fun v _ => v = I (hkOf k s b).size) := by
  refine enter (Γ := [(0, .ex (hv k s b))]) Tryz.func24 rfl rfl rfl ⟨⟨_, rfl, rfl⟩, trivial⟩ ?_
  repeat (first | refine t_seq ?_ | refine t_region ?_ | refine s_nil ?_ | refine p_then ?_ | refine t_ret ?_ | refine p_then_ret ?_ | refine p_block_ret ?_ | refine t_block ?_ | refine t_exit ?_ | refine p_then_exit ?_ | refine p_block_exit ?_ | refine p_block ?_ | refine t_skip ?_)
  refine s_op (o_box rfl) rfl rfl ?_
  rintro _ w1 hw1 ⟨rfl, hB1⟩
  refine s_val (v_assign rfl) rfl ?_
  repeat (first | refine t_seq ?_ | refine t_region ?_ | refine s_nil ?_ | refine p_then ?_ | refine t_ret ?_ | refine p_then_ret ?_ | refine p_block_ret ?_ | refine t_block ?_ | refine t_exit ?_ | refine p_then_exit ?_ | refine p_block_exit ?_ | refine p_block ?_ | refine t_skip ?_)
  refine s_val (v_load rfl (ld23 hB1)) rfl ?_
  refine s_op (o_call rfl (en rfl) (c55 k s b w1)) rfl rfl ?_
  rintro _ w2 hw2 rfl
  refine s_val (v_move rfl) rfl ?_
  refine s_val (v_extract rfl rfl) rfl ?_
  refine s_val (v_extract rfl rfl) rfl ?_
  refine s_val (v_assign rfl) rfl ?_
  refine s_val (v_assign rfl) rfl ?_
  repeat (first | refine t_seq ?_ | refine t_region ?_ | refine s_nil ?_ | refine p_then ?_ | refine t_ret ?_ | refine p_then_ret ?_ | refine p_block_ret ?_ | refine t_block ?_ | refine t_exit ?_ | refine p_then_exit ?_ | refine p_block_exit ?_ | refine p_block ?_ | refine t_skip ?_)
  refine s_val (v_move rfl) rfl ?_
  refine s_val (v_assign rfl) rfl ?_
  repeat (first | refine t_seq ?_ | refine t_region ?_ | refine s_nil ?_ | refine p_then ?_ | refine t_ret ?_ | refine p_then_ret ?_ | refine p_block_ret ?_ | refine t_block ?_ | refine t_exit ?_ | refine p_then_exit ?_ | refine p_block_exit ?_ | refine p_block ?_ | refine t_skip ?_)
  exact ret1 rfl rfl ⟨_, rfl, hw1.trans hw2, rfl⟩
theorem c96 (k s b : Int) (w : World) : Calls Tryz.prog 96 #[hv k s b] w (Ret [] w fun v _ => v = I (hkOf k s b).block) := by
  refine enter (Γ := [(0, .ex (hv k s b))]) Tryz.func96 rfl rfl rfl ⟨⟨_, rfl, rfl⟩, trivial⟩ ?_
  repeat (first | refine t_seq ?_ | refine t_region ?_ | refine s_nil ?_ | refine p_then ?_ | refine t_ret ?_ | refine p_then_ret ?_ | refine p_block_ret ?_ | refine t_block ?_ | refine t_exit ?_ | refine p_then_exit ?_ | refine p_block_exit ?_ | refine p_block ?_ | refine t_skip ?_)
  refine s_op (o_box rfl) rfl rfl ?_
  rintro _ w1 hw1 ⟨rfl, hB1⟩
  refine s_val (v_assign rfl) rfl ?_
  repeat (first | refine t_seq ?_ | refine t_region ?_ | refine s_nil ?_ | refine p_then ?_ | refine t_ret ?_ | refine p_then_ret ?_ | refine p_block_ret ?_ | refine t_block ?_ | refine t_exit ?_ | refine p_then_exit ?_ | refine p_block_exit ?_ | refine p_block ?_ | refine t_skip ?_)
  refine s_val (v_load rfl (ld23 hB1)) rfl ?_
  refine s_op (o_call rfl (en rfl) (c55 k s b w1)) rfl rfl ?_
  rintro _ w2 hw2 rfl
  refine s_val (v_move rfl) rfl ?_
  refine s_val (v_extract rfl rfl) rfl ?_
  refine s_val (v_extract rfl rfl) rfl ?_
  refine s_val (v_assign rfl) rfl ?_
  refine s_val (v_assign rfl) rfl ?_
  repeat (first | refine t_seq ?_ | refine t_region ?_ | refine s_nil ?_ | refine p_then ?_ | refine t_ret ?_ | refine p_then_ret ?_ | refine p_block_ret ?_ | refine t_block ?_ | refine t_exit ?_ | refine p_then_exit ?_ | refine p_block_exit ?_ | refine p_block ?_ | refine t_skip ?_)
  refine s_val (v_move rfl) rfl ?_
  refine s_val (v_assign rfl) rfl ?_
  repeat (first | refine t_seq ?_ | refine t_region ?_ | refine s_nil ?_ | refine p_then ?_ | refine t_ret ?_ | refine p_then_ret ?_ | refine p_block_ret ?_ | refine t_block ?_ | refine t_exit ?_ | refine p_then_exit ?_ | refine p_block_exit ?_ | refine p_block ?_ | refine t_skip ?_)
  exact ret1 rfl rfl ⟨_, rfl, hw1.trans hw2, rfl⟩
/-- spec.given -/
theorem c59 (k s b : Int) (A : Option Addr) (c : Nat) (l : Bytes) (w : World) (hp : Rd w A l) (hc : l.length ≤ c) : Calls Tryz.prog 59 #[hv k s b, .slice A l.length c] w (Ret [] w (Sl (given (hkOf k s b) l))) := by
  have hok := hkOf_ok k s b
  have hsl := HK.size_le hok
  refine enter (Γ := [(0, .ex (hv k s b)), (1, .ex (.slice A l.length c))]) Tryz.func59 rfl rfl rfl ⟨⟨_, rfl, rfl⟩, ⟨_, rfl, rfl⟩, trivial⟩ ?_
  repeat (first | refine t_seq ?_ | refine t_region ?_ | refine s_nil ?_ | refine p_then ?_ | refine t_ret ?_ | refine p_then_ret ?_ | refine p_block_ret ?_ | refine t_block ?_ | refine t_exit ?_ | refine p_then_exit ?_ | refine p_block_exit ?_ | refine p_block ?_ | refine t_skip ?_)
  refine s_op (o_box rfl) rfl rfl ?_
  rintro _ w1 hw1 ⟨rfl, hB1⟩
  refine s_val (v_assign rfl) rfl ?_
  repeat (first | refine t_seq ?_ | refine t_region ?_ | refine s_nil ?_ | refine p_then ?_ | refine t_ret ?_ | refine p_then_ret ?_ | refine p_block_ret ?_ | refine t_block ?_ | refine t_exit ?_ | refine p_then_exit ?_ | refine p_block_exit ?_ | refine p_block ?_ | refine t_skip ?_)
  refine s_val (v_move rfl) rfl ?_
  refine s_val (v_len rfl (so rfl) rfl) rfl ?_
  refine s_val (v_eqI rfl rfl) rfl ?_
  repeat (first | refine t_seq ?_ | refine t_region ?_ | refine s_nil ?_ | refine p_then ?_ | refine t_ret ?_ | refine p_then_ret ?_ | refine p_block_ret ?_ | refine t_block ?_ | refine t_exit ?_ | refine p_then_exit ?_ | refine p_block_exit ?_ | refine p_block ?_ | refine t_skip ?_)
  refine t_if rfl (fun hb => ?_) (fun hb => ?_)
  · have hl : l = [] := by
      have := eq_of_beq hb
      exact List.eq_nil_of_length_eq_zero (by omega)
    repeat (first | refine t_seq ?_ | refine t_region ?_ | refine s_nil ?_ | refine p_then ?_ | refine t_ret ?_ | refine p_then_ret ?_ | refine p_block_ret ?_ | refine t_block ?_ | refine t_exit ?_ | refine p_then_exit ?_ | refine p_block_exit ?_ | refine p_block ?_ | refine t_skip ?_)
    refine s_val (v_load rfl (ld23 hB1)) rfl ?_
    refine s_op (o_call rfl (en rfl) (c24 k s b w1)) rfl rfl ?_
    rintro _ w2 hw2 rfl
    refine s_op (o_makeSlice rt24 rfl rfl (Nat.le_refl _) (by omega) (by omega)) rfl rfl ?_
    rintro _ w3 hw3 ⟨rfl, hB3⟩
    refine s_val (v_assign rfl) rfl ?_
    repeat (first | refine t_seq ?_ | refine t_region ?_ | refine s_nil ?_ | refine p_then ?_ | refine t_ret ?_ | refine p_then_ret ?_ | refine p_block_ret ?_ | refine t_block ?_ | refine t_exit ?_ | refine p_then_exit ?_ | refine p_block_exit ?_ | refine p_block ?_ | refine t_skip ?_)
    have hB3' : Blk w3 w2.heap.size 5 ((zeros (hkOf k s b).size).map B).toArray := by simpa [zeros] using hB3
    refine ret1 rfl rfl ⟨_, rfl, (hw1.trans hw2).trans hw3, some ⟨w2.heap.size, 0, none⟩, (hkOf k s b).size, ?_, ?_, ?_⟩
    · rw [given, if_pos hl]; simp [zeros]
    · rw [given, if_pos hl]; simp [zeros]
    · rw [given, if_pos hl]; exact hB3'.rd0
  · have hl : l ≠ [] := by
      have := ne_of_beq_false hb
      rintro rfl
      simp at this
    repeat (first | refine t_seq ?_ | refine t_region ?_ | refine s_nil ?_ | refine p_then ?_ | refine t_ret ?_ | refine p_then_ret ?_ | refine p_block_ret ?_ | refine t_block ?_ | refine t_exit ?_ | refine p_then_exit ?_ | refine p_block_exit ?_ | refine p_block ?_ | refine t_skip ?_)
    refine s_val (v_move rfl) rfl ?_
    refine s_val (v_assign rfl) rfl ?_
    repeat (first | refine t_seq ?_ | refine t_region ?_ | refine s_nil ?_ | refine p_then ?_ | refine t_ret ?_ | refine p_then_ret ?_ | refine p_block_ret ?_ | refine t_block ?_ | refine t_exit ?_ | refine p_then_exit ?_ | refine p_block_exit ?_ | refine p_block ?_ | refine t_skip ?_)
    exact ret1 rfl rfl ⟨_, rfl, hw1, A, c, by rw [given, if_neg hl], by rw [given, if_neg hl]; exact hc, by rw [given, if_neg hl]; exact hp.pure hw1⟩
structure JS where
  i : Nat
  v : Value
theorem flat_snoc (ls : List Bytes) (i : Nat) (h : i < ls.length) : (ls.take (i + 1)).flatten = (ls.take i).flatten ++ ls.getD i [] := by
  rw [List.take_add_one, List.flatten_append, List.getD_eq_getElem?_getD, List.getElem?_eq_getElem h]; simp
/-- spec.Joined -/
theorem c35 (v : Value) (ls : List Bytes) (w : World) (hj : JP ls v w) (hn : ls.flatten.length ≤ 200000) (hl : ls.length ≤ 1000) : Calls Tryz.prog 35 #[v] w (Ret [] w (Fresh w ls.flatten)) := by
  obtain ⟨g, ps, rfl, hB, hls, hrd⟩ := hj
  have hpl : ps.length = ls.length := by rw [← hls]; simp
  refine enter (Γ := [(0, .ex (.slice (some ⟨g, 0, none⟩) ls.length ls.length))]) Tryz.func35 rfl rfl rfl ⟨⟨_, rfl, rfl⟩, trivial⟩ ?_
  repeat (first | refine t_seq ?_ | refine t_region ?_ | refine s_nil ?_ | refine p_then ?_ | refine t_ret ?_ | refine p_then_ret ?_ | refine p_block_ret ?_ | refine t_block ?_ | refine t_exit ?_ | refine p_then_exit ?_ | refine p_block_exit ?_ | refine p_block ?_ | refine t_skip ?_)
  refine s_val (v_assign rfl) rfl ?_
  repeat (first | refine t_seq ?_ | refine t_region ?_ | refine s_nil ?_ | refine p_then ?_ | refine t_ret ?_ | refine p_then_ret ?_ | refine p_block_ret ?_ | refine t_block ?_ | refine t_exit ?_ | refine p_then_exit ?_ | refine p_block_exit ?_ | refine p_block ?_ | refine t_skip ?_)
  refine s_op (o_buildSlice0 rt24) rfl rfl ?_
  rintro _ w1 hw1 ⟨rfl, hB1⟩
  refine s_val (v_assign rfl) rfl ?_
  have hv1 : Own w1 (.slice (some ⟨w.heap.size, 0, none⟩) 0 0) [] := Own.zero hB1 rfl (by simp)
  have hf1 : From w.heap.size (.slice (some ⟨w.heap.size, 0, none⟩) 0 0) := fun k hk => by
    cases hk; exact Nat.le_refl _
  refine s_nil (p_then ?_)
  refine t_cut (fun v : Value => [(3, .ex v)]) (fun v w' => Only [] w w' ∧ Fresh w ls.flatten v w') ?_ ?_
  · repeat (first | refine t_seq ?_ | refine t_region ?_ | refine s_nil ?_ | refine p_then ?_ | refine t_ret ?_ | refine p_then_ret ?_ | refine p_block_ret ?_ | refine t_block ?_ | refine t_exit ?_ | refine p_then_exit ?_ | refine p_block_exit ?_ | refine p_block ?_ | refine t_skip ?_)
    refine s_val (v_move rfl) rfl ?_
    refine s_val (v_len rfl (so rfl) rfl) rfl ?_
    refine s_val (v_move rfl) rfl ?_
    repeat (first | refine t_seq ?_ | refine t_region ?_ | refine s_nil ?_ | refine p_then ?_ | refine t_ret ?_ | refine p_then_ret ?_ | refine p_block_ret ?_ | refine t_block ?_ | refine t_exit ?_ | refine p_then_exit ?_ | refine p_block_exit ?_ | refine p_block ?_ | refine t_skip ?_)
    refine t_loop (fun s : JS => [(9, .ex (I s.i)), (8, .ex (I ls.length)), (7, .ex (.slice (some ⟨g, 0, none⟩) ls.length ls.length)), (3, .ex s.v)]) (fun s w' => s.i ≤ ls.length ∧ Only [] w w' ∧ Own w' s.v (ls.take s.i).flatten ∧ From w.heap.size s.v) (fun s => ls.length - s.i) ⟨0, .slice (some ⟨w.heap.size, 0, none⟩) 0 0⟩ ⟨rfl, rfl, rfl, rfl, trivial⟩
      ⟨Nat.zero_le _, hw1, by simpa using hv1, hf1⟩ ?_
    rintro ⟨i, v⟩ w2 ⟨hi, hw2, hv2, hf2⟩
    simp only at hi hv2 hf2
    refine t_weak [(9, .ex (I i)), (8, .ex (I ls.length)), (7, .ex (.slice (some ⟨g, 0, none⟩) ls.length ls.length)), (3, .ex v)] ⟨rfl, rfl, rfl, rfl, trivial⟩ ?_
    repeat (first | refine t_seq ?_ | refine t_region ?_ | refine s_nil ?_ | refine p_then ?_ | refine t_ret ?_ | refine p_then_ret ?_ | refine p_block_ret ?_ | refine t_block ?_ | refine t_exit ?_ | refine p_then_exit ?_ | refine p_block_exit ?_ | refine p_block ?_ | refine t_skip ?_)
    refine s_val (v_ltI rfl rfl) rfl ?_
    repeat (first | refine t_seq ?_ | refine t_region ?_ | refine s_nil ?_ | refine p_then ?_ | refine t_ret ?_ | refine p_then_ret ?_ | refine p_block_ret ?_ | refine t_block ?_ | refine t_exit ?_ | refine p_then_exit ?_ | refine p_block_exit ?_ | refine p_block ?_ | refine t_skip ?_)
    refine t_if rfl (fun hb => ?_) (fun hb => ?_)
    · have hi' : i < ls.length := by have := of_decide_eq_true hb; omega
      obtain ⟨p, hp⟩ : ∃ p, ps[i]? = some p := ⟨_, List.getElem?_eq_getElem (by omega)⟩
      have hpm : p ∈ ps := List.mem_of_getElem? hp
      have hlp : ls.getD i [] = p.l := by rw [← hls, List.getD_eq_getElem?_getD, List.getElem?_map, hp]; rfl
      have hcell : w2.cell? ⟨g, 0 + i, none⟩ = some (.slice p.A p.l.length p.c) := (hB.only hw2 (by simp)).cell _ (by simp [hp, Pt.val])
      have hbd : (ls.take (i + 1)).flatten.length ≤ 200000 := by
        have e : ls.flatten = (ls.take (i + 1)).flatten ++ (ls.drop (i + 1)).flatten := by rw [← List.flatten_append, List.take_append_drop]
        rw [e, List.length_append] at hn; omega
      rw [flat_snoc ls i hi', hlp, List.length_append] at hbd
      repeat (first | refine t_seq ?_ | refine t_region ?_ | refine s_nil ?_ | refine p_then ?_ | refine t_ret ?_ | refine p_then_ret ?_ | refine p_block_ret ?_ | refine t_block ?_ | refine t_exit ?_ | refine p_then_exit ?_ | refine p_block_exit ?_ | refine p_block ?_ | refine t_skip ?_)
      refine s_val (v_indexSlice rfl rfl (so rfl) (by omega)) rfl ?_
      refine s_val (v_load1 rfl (sc rfl) (by first | exact hcell | assumption)) rfl ?_
      refine s_val (v_assign rfl) rfl ?_
      repeat (first | refine t_seq ?_ | refine t_region ?_ | refine s_nil ?_ | refine p_then ?_ | refine t_ret ?_ | refine p_then_ret ?_ | refine p_block_ret ?_ | refine t_block ?_ | refine t_exit ?_ | refine p_then_exit ?_ | refine p_block_exit ?_ | refine p_block ?_ | refine t_skip ?_)
      refine s_val (v_move rfl) rfl ?_
      refine s_val (v_move rfl) rfl ?_
      refine s_op (o_appB rt24 rfl rfl rfl Tryz.underlying24 hv2 ((hrd p hpm).pure hw2) (by omega) mem_own) rfl rfl ?_
      rintro v3 w3 hw3 h3
      refine s_val (v_assign rfl) rfl ?_
      obtain ⟨hv3, hf3, hz3⟩ := grow hf2 hw2 hw3 h3
      repeat (first | refine t_seq ?_ | refine t_region ?_ | refine s_nil ?_ | refine p_then ?_ | refine t_ret ?_ | refine p_then_ret ?_ | refine p_block_ret ?_ | refine t_block ?_ | refine t_exit ?_ | refine p_then_exit ?_ | refine p_block_exit ?_ | refine p_block ?_ | refine t_skip ?_)
      refine s_val (v_addI rfl opc (by omega)) rfl ?_
      refine s_val (v_move rfl) rfl ?_
      repeat (first | refine t_seq ?_ | refine t_region ?_ | refine s_nil ?_ | refine p_then ?_ | refine t_ret ?_ | refine p_then_ret ?_ | refine p_block_ret ?_ | refine t_block ?_ | refine t_exit ?_ | refine p_then_exit ?_ | refine p_block_exit ?_ | refine p_block ?_ | refine t_skip ?_)
      exact p_round ⟨i + 1, v3⟩ (Nat.sub_lt_sub_left hi' (Nat.lt_succ_self i)) ⟨rfl, rfl, rfl, rfl, trivial⟩ ⟨hi', hz3, by show Own w3 v3 (ls.take (i + 1)).flatten; rw [flat_snoc ls i hi', hlp]; exact hv3, hf3⟩
    · have hi' : i = ls.length := by have := of_decide_eq_false hb; omega
      subst hi'
      rw [List.take_length] at hv2
      repeat (first | refine t_seq ?_ | refine t_region ?_ | refine s_nil ?_ | refine p_then ?_ | refine t_ret ?_ | refine p_then_ret ?_ | refine p_block_ret ?_ | refine t_block ?_ | refine t_exit ?_ | refine p_then_exit ?_ | refine p_block_exit ?_ | refine p_block ?_ | refine t_skip ?_)
      exact p_cut v ⟨rfl, trivial⟩ ⟨hw2, hv2, hf2⟩
  · rintro v w2 ⟨hw2, hv2⟩
    repeat (first | refine t_seq ?_ | refine t_region ?_ | refine s_nil ?_ | refine p_then ?_ | refine t_ret ?_ | refine p_then_ret ?_ | refine p_block_ret ?_ | refine t_block ?_ | refine t_exit ?_ | refine p_then_exit ?_ | refine p_block_exit ?_ | refine p_block ?_ | refine t_skip ?_)
    refine s_val (v_move rfl) rfl ?_
    refine s_val (v_assign rfl) rfl ?_
    repeat (first | refine t_seq ?_ | refine t_region ?_ | refine s_nil ?_ | refine p_then ?_ | refine t_ret ?_ | refine p_then_ret ?_ | refine p_block_ret ?_ | refine t_block ?_ | refine t_exit ?_ | refine p_then_exit ?_ | refine p_block_exit ?_ | refine p_block ?_ | refine t_skip ?_)
    exact ret1 rfl rfl ⟨_, rfl, hw2, hv2⟩
end
end Go.Proofs.YtnaefgnjdmmmcaaGreatDoor
/- The spec's SHA-256 in the program: the constants, one block. -/
namespace Go.Proofs.YtnaefgnjdmmmcaaGreatDoor
open Go.RowKit

def rv (v : Regs) : Array Value := #[U v.a, U v.b, U v.c, U v.d, U v.e, U v.f, U v.g, U v.h]
theorem rv_one (v : Regs) : ∀ u ∈ (rv v).toList, u.oneCell' = true := fun u hu => by
  simp only [rv, List.mem_cons] at hu
  rcases hu with rfl | rfl | rfl | rfl | rfl | rfl | rfl | rfl | h
  all_goals first | rfl | cases h
theorem words_one (l : List UInt32) : ∀ u ∈ (l.map U).toArray.toList, u.oneCell' = true := fun u hu => by
  obtain ⟨b, _, rfl⟩ := List.mem_map.1 hu; rfl
theorem fk_ex {P : Program} {N : Nat} {l rest : List Oper} {R : World → World → Prop} {w0 : World} {Γ : Env} {K : Env → List (World → Prop) → Prop} {d : Nat} {op : Op} {ty : TypeId} {pos : String} {af : Array Edge} {u : Value}
    (h : ∀ w, R w0 w → OpAt P N Γ w ⟨some d, op, ty, pos, af, none⟩ R (fun v _ => v = u)) (k : FlowK P N l R w0 rest ((d, .ex u) :: Γ) K) : FlowK P N l R w0 (⟨some d, op, ty, pos, af, none⟩ :: rest) Γ K :=
  let ⟨Γ', Fs, hf, hk⟩ := k; ⟨Γ', Fs, .op rfl rfl (Slot.stable_ex R u) h hf, hk⟩
set_option maxRecDepth 100000 in
theorem bu127 (w : World) : (Instr.build 127 #[]).run Tryz.prog w = .ok (.agg ((List.replicate 64 (0 : UInt32)).map U).toArray) w := by kernel_rfl
theorem bu96 (v : Regs) (w : World) : (Instr.build 96 #[(0, U v.a), (1, U v.b), (2, U v.c), (3, U v.d), (4, U v.e), (5, U v.f), (6, U v.g), (7, U v.h)]).run Tryz.prog w = .ok (.agg (rv v)) w := by kernel_rfl
section
attribute [local irreducible] ValAt OpAt RunX Tr Post FlowK
theorem f108 {N : Nat} {Γ : Env} {w : World} {d : Option Tmp} {ty : TypeId} {pos : String} {af : Array Edge} {gd : Option (Nat × Bool)} {x y : Operand} {ats : Array TypeId} {v : UInt32} (n : Nat) (h0 : 0 < n) (hn : n < 32) (hx : Γ.ops [x, y] = some [U v, I n]) :
    OpAt Tryz.prog N Γ w ⟨d, .call ⟨.value (.func 108), #[x, y], ats⟩, ty, pos, af, gd⟩ (Only []) (fun u _ => u = U (ror v (UInt32.ofNat n))) := by
  have hc := c108 v n w h0 hn
  exact o_call (vs := [U v, I n]) hx (en rfl) hc
set_option maxRecDepth 100000 in
/-- spec.constants -/
theorem c109 (w : World) : Calls Tryz.prog 109 #[] w (Ret [] w fun v _ => v = .agg (shaK.map U).toArray) := by
  have hsz : sizeIs Tryz.prog 127 (shaK.map U).toArray.size = true := si rfl
  refine enter (Γ := []) Tryz.func109 rfl rfl rfl trivial ?_
  repeat (first | refine t_seq ?_ | refine t_region ?_ | refine s_nil ?_ | refine p_then ?_ | refine t_ret ?_ | refine p_then_ret ?_ | refine p_block_ret ?_ | refine t_block ?_ | refine t_exit ?_ | refine p_then_exit ?_ | refine p_block_exit ?_ | refine p_block ?_ | refine t_skip ?_)
  refine s_op (o_alloc zc127) rfl rfl ?_
  rintro _ w1 hw1 ⟨rfl, hB1⟩
  repeat (first | refine t_seq ?_ | refine t_region ?_ | refine s_nil ?_ | refine p_then ?_ | refine t_ret ?_ | refine p_then_ret ?_ | refine p_block_ret ?_ | refine t_block ?_ | refine t_exit ?_ | refine p_then_exit ?_ | refine p_block_exit ?_ | refine p_block ?_ | refine t_skip ?_)
  refine s_val (v_build (u := .agg (shaK.map U).toArray) rfl (fun w => by kernel_rfl)) rfl ?_
  refine s_storeAgg rfl rfl hsz hB1 (by simp [shaK]) (words_one _) rfl (fun w2 hw2 hB2 => ?_)
  repeat (first | refine t_seq ?_ | refine t_region ?_ | refine s_nil ?_ | refine p_then ?_ | refine t_ret ?_ | refine p_then_ret ?_ | refine p_block_ret ?_ | refine t_block ?_ | refine t_exit ?_ | refine p_then_exit ?_ | refine p_block_exit ?_ | refine p_block ?_ | refine t_skip ?_)
  exact retc rfl rfl (loadVar_whole ua127 rfl hsz hB2) ⟨_, rfl, hw1.trans_new hw2 (by simp), rfl⟩
end
end Go.Proofs.YtnaefgnjdmmmcaaGreatDoor
