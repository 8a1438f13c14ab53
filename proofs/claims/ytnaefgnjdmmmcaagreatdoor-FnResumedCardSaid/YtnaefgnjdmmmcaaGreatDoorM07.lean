/-
  What is proved here, of the given program in the given model, of every input, with no condition but those that each theorem states ahead of its conclusion: tls13.ExpandLabel in the program, at one of its instances. tls13.ExpandLabel in the program, at one of its instances. tls13.ExpandLabel in the program, at one of its instances. CLOSED FACTS on the literals of the key schedule's structs. tls13's deriveSecret in the program; words for the key schedule. tls13's key schedule in the program: the secrets. tls13's key schedule in the program: its stages; the exporter. The thin package in the program: copied, Sum, said. The thin package in the program: Sum, said.
-/
import Derived.Test.YtnaefgnjdmmmcaaGreatDoorM03
import Derived.Test.YtnaefgnjdmmmcaaGreatDoorM06
/- tls13.ExpandLabel in the program, at one of its instances. -/
namespace Go.Proofs.YtnaefgnjdmmmcaaGreatDoor
open Go.RowKit
attribute [local irreducible] ValAt OpAt RunX Tr Post FlowK

set_option maxHeartbeats 1000000 in
/-- tls13.ExpandLabel -/
theorem c51  (hH : HK.sha.ok) (h : Value) (A A' : Option Addr) (c c' : Nat) (secret label ctx : Bytes) (n : Nat) (w : World) (hm : Mk HK.sha h) (hp : Rd w A secret) (hc : secret.length ≤ c) (hl : secret.length ≤ 60000)
    (hp' : Rd w A' ctx) (hla : label.length ≤ 249) (hcx : ctx.length ≤ 255) (hn : n ≤ 32) (hK : KT w) (hw0 : 0 < w.heap.size) :
    Calls Tryz.prog 51 #[h, .slice A secret.length c, S label, .slice A' ctx.length c', I n] w (Ret [] w (Fresh w (expandLabel HK.sha secret label ctx n))) := by
  refine enter (Γ := [(0, .ex h), (1, .ex (.slice A secret.length c)), (2, .ex (S label)), (3, .ex (.slice A' ctx.length c')), (4, .ex (I n))]) Tryz.func51 rfl rfl rfl ⟨⟨_, rfl, rfl⟩, ⟨_, rfl, rfl⟩, ⟨_, rfl, rfl⟩, ⟨_, rfl, rfl⟩, ⟨_, rfl, rfl⟩, trivial⟩ ?_
  repeat (first | refine t_seq ?_ | refine t_region ?_ | refine s_nil ?_ | refine p_then ?_ | refine t_ret ?_ | refine p_then_ret ?_ | refine p_block_ret ?_ | refine t_block ?_ | refine t_exit ?_ | refine p_then_exit ?_ | refine p_block_exit ?_ | refine p_block ?_ | refine t_skip ?_)
  refine s_val (v_assign rfl) rfl ?_
  repeat (first | refine t_seq ?_ | refine t_region ?_ | refine s_nil ?_ | refine p_then ?_ | refine t_ret ?_ | refine p_then_ret ?_ | refine p_block_ret ?_ | refine t_block ?_ | refine t_exit ?_ | refine p_then_exit ?_ | refine p_block_exit ?_ | refine p_block ?_ | refine t_skip ?_)
  refine s_val (v_move rfl) rfl ?_
  refine s_val (v_lenS rfl u9) rfl ?_
  refine s_val (v_addI opc rfl (by omega)) rfl ?_
  refine s_val (v_gtI rfl rfl) rfl ?_
  refine s_val (v_move rfl) rfl ?_
  rw [decide_eq_false (show ¬ (((6 + label.length : Nat) : Int) > 255) by omega)]
  first | refine s_yes rfl rfl (v_move rfl) rfl ?_ | refine s_no rfl rfl rfl rfl ?_ | refine s_no_undef rfl rfl rfl ?_
  first | refine s_yes rfl rfl (v_len rfl (so rfl) rfl) rfl ?_ | refine s_no rfl rfl rfl rfl ?_ | refine s_no_undef rfl rfl rfl ?_
  first | refine s_yes rfl rfl (v_gtI rfl rfl) rfl ?_ | refine s_no rfl rfl rfl rfl ?_ | refine s_no_undef rfl rfl rfl ?_
  refine s_val (v_pick rfl rfl rfl) rfl ?_
  rw [decide_eq_false (show ¬ ((ctx.length : Int) > 255) by omega)]
  repeat (first | refine t_seq ?_ | refine t_region ?_ | refine s_nil ?_ | refine p_then ?_ | refine t_ret ?_ | refine p_then_ret ?_ | refine p_block_ret ?_ | refine t_block ?_ | refine t_exit ?_ | refine p_then_exit ?_ | refine p_block_exit ?_ | refine p_block ?_ | refine t_skip ?_)
  refine t_false rfl ?_
  repeat (first | refine t_seq ?_ | refine t_region ?_ | refine s_nil ?_ | refine p_then ?_ | refine t_ret ?_ | refine p_then_ret ?_ | refine p_block_ret ?_ | refine t_block ?_ | refine t_exit ?_ | refine p_then_exit ?_ | refine p_block_exit ?_ | refine p_block ?_ | refine t_skip ?_)
  refine s_val (v_move rfl) rfl ?_
  refine s_val (v_lenS rfl u9) rfl ?_
  refine s_val (v_addI opc rfl (by omega)) rfl ?_
  refine s_val (v_addI rfl opc (by omega)) rfl ?_
  refine s_val (v_move rfl) rfl ?_
  refine s_val (v_len rfl (so rfl) rfl) rfl ?_
  refine s_val (v_addI rfl rfl (by omega)) rfl ?_
  refine s_op (o_makeSlice (n := 0) rt24 rfl rfl (by omega) (by omega) (by omega)) rfl rfl ?_
  rintro _ w1 hw1 ⟨rfl, hB1⟩
  refine s_val (v_assign rfl) rfl ?_
  have hv1 : Own w1 (.slice (some ⟨w.heap.size, 0, none⟩) 0 (9 + label.length + 1 + ctx.length)) [] := Own.zero hB1 (by simp) (by simp only [maxLen]; omega)
  have hf1 : From w.heap.size (.slice (some ⟨w.heap.size, 0, none⟩) 0 (9 + label.length + 1 + ctx.length)) := fun k hk => by
    cases hk; exact Nat.le_refl _
  obtain ⟨v1, hve⟩ : ∃ v, v = Value.slice (some ⟨w.heap.size, 0, none⟩) 0 (9 + label.length + 1 + ctx.length) := ⟨_, rfl⟩
  rw [← hve] at hv1 hf1
  rw [← hve]
  clear hve
  repeat (first | refine t_seq ?_ | refine t_region ?_ | refine s_nil ?_ | refine p_then ?_ | refine t_ret ?_ | refine p_then_ret ?_ | refine p_block_ret ?_ | refine t_block ?_ | refine t_exit ?_ | refine p_then_exit ?_ | refine p_block_exit ?_ | refine p_block ?_ | refine t_skip ?_)
  refine s_val (v_move rfl) rfl ?_
  refine s_val (v_move rfl) rfl ?_
  refine s_val (v_conv (k2 := .u16) (v := .int .u16 (n : Int)) rfl (ko rfl) (ko rfl) (u16_wrap (by omega))) rfl ?_
  refine s_op (o_call rfl (en rfl) (c75 v1 [] n w1 hv1 (by simp))) rfl rfl ?_
  rintro v2 w2 hw2 ha2
  refine s_val (v_assign rfl) rfl ?_
  obtain ⟨hv2, hf2, hz2⟩ := grow hf1 hw1 hw2 ha2
  repeat (first | refine t_seq ?_ | refine t_region ?_ | refine s_nil ?_ | refine p_then ?_ | refine t_ret ?_ | refine p_then_ret ?_ | refine p_block_ret ?_ | refine t_block ?_ | refine t_exit ?_ | refine p_then_exit ?_ | refine p_block_exit ?_ | refine p_block ?_ | refine t_skip ?_)
  refine s_val (v_move rfl) rfl ?_
  refine s_val (v_move rfl) rfl ?_
  refine s_val (v_lenS rfl u9) rfl ?_
  refine s_val (v_addI opc rfl (by omega)) rfl ?_
  refine s_val (v_convIB rfl (ko rfl) (ko rfl)) rfl ?_
  refine s_op (o_buildSlice rt24 rfl rfl rfl (by show 0 < 1; decide) (by show 1 ≤ 16777216; decide) (by simp [Value.cells])) rfl rfl ?_
  rintro _ w3 hw3 ⟨rfl, hB3⟩
  refine s_op (o_appB (m := [UInt8.ofNat (6 + label.length)]) rt24 rfl rfl rfl Tryz.underlying24 (hv2.only hw3 (by simp [Nots])) hB3.rd0 (by simp) mem_own) rfl rfl ?_
  rintro v4 w4 hw4 ha4
  refine s_val (v_assign rfl) rfl ?_
  obtain ⟨hv4, hf4, hz4⟩ := grow hf2 (hz2.trans hw3) hw4 ha4
  repeat (first | refine t_seq ?_ | refine t_region ?_ | refine s_nil ?_ | refine p_then ?_ | refine t_ret ?_ | refine p_then_ret ?_ | refine p_block_ret ?_ | refine t_block ?_ | refine t_exit ?_ | refine p_then_exit ?_ | refine p_block_exit ?_ | refine p_block ?_ | refine t_skip ?_)
  refine s_val (v_move rfl) rfl ?_
  refine s_op (o_appS (m := [0x74, 0x6c, 0x73, 0x31, 0x33, 0x20]) rt24 rfl rfl u9 hv4 (by simp) mem_own) rfl rfl ?_
  rintro v5 w5 hw5 ha5
  refine s_val (v_assign rfl) rfl ?_
  obtain ⟨hv5, hf5, hz5⟩ := grow hf4 hz4 hw5 ha5
  repeat (first | refine t_seq ?_ | refine t_region ?_ | refine s_nil ?_ | refine p_then ?_ | refine t_ret ?_ | refine p_then_ret ?_ | refine p_block_ret ?_ | refine t_block ?_ | refine t_exit ?_ | refine p_then_exit ?_ | refine p_block_exit ?_ | refine p_block ?_ | refine t_skip ?_)
  refine s_val (v_move rfl) rfl ?_
  refine s_val (v_move rfl) rfl ?_
  refine s_op (o_appS (m := label) rt24 rfl rfl u9 hv5 (by simp; omega) mem_own) rfl rfl ?_
  rintro v6 w6 hw6 ha6
  refine s_val (v_assign rfl) rfl ?_
  obtain ⟨hv6, hf6, hz6⟩ := grow hf5 hz5 hw6 ha6
  repeat (first | refine t_seq ?_ | refine t_region ?_ | refine s_nil ?_ | refine p_then ?_ | refine t_ret ?_ | refine p_then_ret ?_ | refine p_block_ret ?_ | refine t_block ?_ | refine t_exit ?_ | refine p_then_exit ?_ | refine p_block_exit ?_ | refine p_block ?_ | refine t_skip ?_)
  refine s_val (v_move rfl) rfl ?_
  refine s_val (v_move rfl) rfl ?_
  refine s_val (v_len rfl (so rfl) rfl) rfl ?_
  refine s_val (v_convIB rfl (ko rfl) (ko rfl)) rfl ?_
  refine s_op (o_buildSlice rt24 rfl rfl rfl (by show 0 < 1; decide) (by show 1 ≤ 16777216; decide) (by simp [Value.cells])) rfl rfl ?_
  rintro _ w7 hw7 ⟨rfl, hB7⟩
  refine s_op (o_appB (m := [UInt8.ofNat ctx.length]) rt24 rfl rfl rfl Tryz.underlying24 (hv6.only hw7 (by simp [Nots])) hB7.rd0 (by simp; omega) mem_own) rfl rfl ?_
  rintro v8 w8 hw8 ha8
  refine s_val (v_assign rfl) rfl ?_
  obtain ⟨hv8, hf8, hz8⟩ := grow hf6 (hz6.trans hw7) hw8 ha8
  repeat (first | refine t_seq ?_ | refine t_region ?_ | refine s_nil ?_ | refine p_then ?_ | refine t_ret ?_ | refine p_then_ret ?_ | refine p_block_ret ?_ | refine t_block ?_ | refine t_exit ?_ | refine p_then_exit ?_ | refine p_block_exit ?_ | refine p_block ?_ | refine t_skip ?_)
  refine s_val (v_move rfl) rfl ?_
  refine s_val (v_move rfl) rfl ?_
  refine s_op (o_appB (m := ctx) rt24 rfl rfl rfl Tryz.underlying24 hv8 (hp'.pure hz8) (by simp; omega) mem_own) rfl rfl ?_
  rintro v9 w9 hw9 ha9
  refine s_val (v_assign rfl) rfl ?_
  obtain ⟨hv9, hf9, hz9⟩ := grow hf8 hz8 hw9 ha9
  obtain ⟨A9, c9, rfl, hc9, hr9, _⟩ := hv9.slice
  have hlab : [] ++ [UInt8.ofNat (n / 256), UInt8.ofNat n] ++ [UInt8.ofNat (6 + label.length)] ++ [0x74, 0x6c, 0x73, 0x31, 0x33, 0x20] ++ label ++ [UInt8.ofNat ctx.length] ++ ctx = labelOf label ctx n := by simp [labelOf]
  rw [hlab] at hr9
  have hll : (labelOf label ctx n).length ≤ 20000 := by simp [labelOf]; omega
  have hs9 := hz9.size
  repeat (first | refine t_seq ?_ | refine t_region ?_ | refine s_nil ?_ | refine p_then ?_ | refine t_ret ?_ | refine p_then_ret ?_ | refine p_block_ret ?_ | refine t_block ?_ | refine t_exit ?_ | refine p_then_exit ?_ | refine p_block_exit ?_ | refine p_block ?_ | refine t_skip ?_)
  refine s_val (v_move rfl) rfl ?_
  refine s_val (v_move rfl) rfl ?_
  refine s_val (v_move rfl) rfl ?_
  refine s_val (v_string rfl (congrArg List.length hlab) Tryz.underlying24 u5 u9 hr9) rfl ?_
  refine s_val (v_move rfl) rfl ?_
  refine s_op (o_call rfl (en rfl) (c76  hH h A c secret (labelOf label ctx n) n w9 hm (hp.pure hz9) hc hl hll hn (hK.only hz9 (by simp)) (by omega))) rfl rfl ?_
  rintro v10 w10 hw10 ⟨hv10, hf10⟩
  refine s_val (v_assign rfl) rfl ?_
  repeat (first | refine t_seq ?_ | refine t_region ?_ | refine s_nil ?_ | refine p_then ?_ | refine t_ret ?_ | refine p_then_ret ?_ | refine p_block_ret ?_ | refine t_block ?_ | refine t_exit ?_ | refine p_then_exit ?_ | refine p_block_exit ?_ | refine p_block ?_ | refine t_skip ?_)
  exact ret1 rfl rfl ⟨_, rfl, hz9.trans hw10, hv10, hf10.mono hs9⟩
end Go.Proofs.YtnaefgnjdmmmcaaGreatDoor
/- tls13.ExpandLabel in the program, at one of its instances. -/
namespace Go.Proofs.YtnaefgnjdmmmcaaGreatDoor
open Go.RowKit
attribute [local irreducible] ValAt OpAt RunX Tr Post FlowK

set_option maxHeartbeats 1000000 in
/-- tls13.ExpandLabel -/
theorem c53 (sz bk : Nat) (hH : (HK.own sz bk).ok) (h : Value) (A A' : Option Addr) (c c' : Nat) (secret label ctx : Bytes) (n : Nat) (w : World) (hm : Mk (HK.own sz bk) h) (hp : Rd w A secret) (hc : secret.length ≤ c) (hl : secret.length ≤ 60000)
    (hp' : Rd w A' ctx) (hla : label.length ≤ 249) (hcx : ctx.length ≤ 255) (hn : n ≤ 32) (hK : KT w) (hw0 : 0 < w.heap.size) :
    Calls Tryz.prog 53 #[h, .slice A secret.length c, S label, .slice A' ctx.length c', I n] w (Ret [] w (Fresh w (expandLabel (HK.own sz bk) secret label ctx n))) := by
  refine enter (Γ := [(0, .ex h), (1, .ex (.slice A secret.length c)), (2, .ex (S label)), (3, .ex (.slice A' ctx.length c')), (4, .ex (I n))]) Tryz.func53 rfl rfl rfl ⟨⟨_, rfl, rfl⟩, ⟨_, rfl, rfl⟩, ⟨_, rfl, rfl⟩, ⟨_, rfl, rfl⟩, ⟨_, rfl, rfl⟩, trivial⟩ ?_
  repeat (first | refine t_seq ?_ | refine t_region ?_ | refine s_nil ?_ | refine p_then ?_ | refine t_ret ?_ | refine p_then_ret ?_ | refine p_block_ret ?_ | refine t_block ?_ | refine t_exit ?_ | refine p_then_exit ?_ | refine p_block_exit ?_ | refine p_block ?_ | refine t_skip ?_)
  refine s_val (v_assign rfl) rfl ?_
  repeat (first | refine t_seq ?_ | refine t_region ?_ | refine s_nil ?_ | refine p_then ?_ | refine t_ret ?_ | refine p_then_ret ?_ | refine p_block_ret ?_ | refine t_block ?_ | refine t_exit ?_ | refine p_then_exit ?_ | refine p_block_exit ?_ | refine p_block ?_ | refine t_skip ?_)
  refine s_val (v_move rfl) rfl ?_
  refine s_val (v_lenS rfl u9) rfl ?_
  refine s_val (v_addI opc rfl (by omega)) rfl ?_
  refine s_val (v_gtI rfl rfl) rfl ?_
  refine s_val (v_move rfl) rfl ?_
  rw [decide_eq_false (show ¬ (((6 + label.length : Nat) : Int) > 255) by omega)]
  first | refine s_yes rfl rfl (v_move rfl) rfl ?_ | refine s_no rfl rfl rfl rfl ?_ | refine s_no_undef rfl rfl rfl ?_
  first | refine s_yes rfl rfl (v_len rfl (so rfl) rfl) rfl ?_ | refine s_no rfl rfl rfl rfl ?_ | refine s_no_undef rfl rfl rfl ?_
  first | refine s_yes rfl rfl (v_gtI rfl rfl) rfl ?_ | refine s_no rfl rfl rfl rfl ?_ | refine s_no_undef rfl rfl rfl ?_
  refine s_val (v_pick rfl rfl rfl) rfl ?_
  rw [decide_eq_false (show ¬ ((ctx.length : Int) > 255) by omega)]
  repeat (first | refine t_seq ?_ | refine t_region ?_ | refine s_nil ?_ | refine p_then ?_ | refine t_ret ?_ | refine p_then_ret ?_ | refine p_block_ret ?_ | refine t_block ?_ | refine t_exit ?_ | refine p_then_exit ?_ | refine p_block_exit ?_ | refine p_block ?_ | refine t_skip ?_)
  refine t_false rfl ?_
  repeat (first | refine t_seq ?_ | refine t_region ?_ | refine s_nil ?_ | refine p_then ?_ | refine t_ret ?_ | refine p_then_ret ?_ | refine p_block_ret ?_ | refine t_block ?_ | refine t_exit ?_ | refine p_then_exit ?_ | refine p_block_exit ?_ | refine p_block ?_ | refine t_skip ?_)
  refine s_val (v_move rfl) rfl ?_
  refine s_val (v_lenS rfl u9) rfl ?_
  refine s_val (v_addI opc rfl (by omega)) rfl ?_
  refine s_val (v_addI rfl opc (by omega)) rfl ?_
  refine s_val (v_move rfl) rfl ?_
  refine s_val (v_len rfl (so rfl) rfl) rfl ?_
  refine s_val (v_addI rfl rfl (by omega)) rfl ?_
  refine s_op (o_makeSlice (n := 0) rt24 rfl rfl (by omega) (by omega) (by omega)) rfl rfl ?_
  rintro _ w1 hw1 ⟨rfl, hB1⟩
  refine s_val (v_assign rfl) rfl ?_
  have hv1 : Own w1 (.slice (some ⟨w.heap.size, 0, none⟩) 0 (9 + label.length + 1 + ctx.length)) [] := Own.zero hB1 (by simp) (by simp only [maxLen]; omega)
  have hf1 : From w.heap.size (.slice (some ⟨w.heap.size, 0, none⟩) 0 (9 + label.length + 1 + ctx.length)) := fun k hk => by
    cases hk; exact Nat.le_refl _
  obtain ⟨v1, hve⟩ : ∃ v, v = Value.slice (some ⟨w.heap.size, 0, none⟩) 0 (9 + label.length + 1 + ctx.length) := ⟨_, rfl⟩
  rw [← hve] at hv1 hf1
  rw [← hve]
  clear hve
  repeat (first | refine t_seq ?_ | refine t_region ?_ | refine s_nil ?_ | refine p_then ?_ | refine t_ret ?_ | refine p_then_ret ?_ | refine p_block_ret ?_ | refine t_block ?_ | refine t_exit ?_ | refine p_then_exit ?_ | refine p_block_exit ?_ | refine p_block ?_ | refine t_skip ?_)
  refine s_val (v_move rfl) rfl ?_
  refine s_val (v_move rfl) rfl ?_
  refine s_val (v_conv (k2 := .u16) (v := .int .u16 (n : Int)) rfl (ko rfl) (ko rfl) (u16_wrap (by omega))) rfl ?_
  refine s_op (o_call rfl (en rfl) (c75 v1 [] n w1 hv1 (by simp))) rfl rfl ?_
  rintro v2 w2 hw2 ha2
  refine s_val (v_assign rfl) rfl ?_
  obtain ⟨hv2, hf2, hz2⟩ := grow hf1 hw1 hw2 ha2
  repeat (first | refine t_seq ?_ | refine t_region ?_ | refine s_nil ?_ | refine p_then ?_ | refine t_ret ?_ | refine p_then_ret ?_ | refine p_block_ret ?_ | refine t_block ?_ | refine t_exit ?_ | refine p_then_exit ?_ | refine p_block_exit ?_ | refine p_block ?_ | refine t_skip ?_)
  refine s_val (v_move rfl) rfl ?_
  refine s_val (v_move rfl) rfl ?_
  refine s_val (v_lenS rfl u9) rfl ?_
  refine s_val (v_addI opc rfl (by omega)) rfl ?_
  refine s_val (v_convIB rfl (ko rfl) (ko rfl)) rfl ?_
  refine s_op (o_buildSlice rt24 rfl rfl rfl (by show 0 < 1; decide) (by show 1 ≤ 16777216; decide) (by simp [Value.cells])) rfl rfl ?_
  rintro _ w3 hw3 ⟨rfl, hB3⟩
  refine s_op (o_appB (m := [UInt8.ofNat (6 + label.length)]) rt24 rfl rfl rfl Tryz.underlying24 (hv2.only hw3 (by simp [Nots])) hB3.rd0 (by simp) mem_own) rfl rfl ?_
  rintro v4 w4 hw4 ha4
  refine s_val (v_assign rfl) rfl ?_
  obtain ⟨hv4, hf4, hz4⟩ := grow hf2 (hz2.trans hw3) hw4 ha4
  repeat (first | refine t_seq ?_ | refine t_region ?_ | refine s_nil ?_ | refine p_then ?_ | refine t_ret ?_ | refine p_then_ret ?_ | refine p_block_ret ?_ | refine t_block ?_ | refine t_exit ?_ | refine p_then_exit ?_ | refine p_block_exit ?_ | refine p_block ?_ | refine t_skip ?_)
  refine s_val (v_move rfl) rfl ?_
  refine s_op (o_appS (m := [0x74, 0x6c, 0x73, 0x31, 0x33, 0x20]) rt24 rfl rfl u9 hv4 (by simp) mem_own) rfl rfl ?_
  rintro v5 w5 hw5 ha5
  refine s_val (v_assign rfl) rfl ?_
  obtain ⟨hv5, hf5, hz5⟩ := grow hf4 hz4 hw5 ha5
  repeat (first | refine t_seq ?_ | refine t_region ?_ | refine s_nil ?_ | refine p_then ?_ | refine t_ret ?_ | refine p_then_ret ?_ | refine p_block_ret ?_ | refine t_block ?_ | refine t_exit ?_ | refine p_then_exit ?_ | refine p_block_exit ?_ | refine p_block ?_ | refine t_skip ?_)
  refine s_val (v_move rfl) rfl ?_
  refine s_val (v_move rfl) rfl ?_
  refine s_op (o_appS (m := label) rt24 rfl rfl u9 hv5 (by simp; omega) mem_own) rfl rfl ?_
  rintro v6 w6 hw6 ha6
  refine s_val (v_assign rfl) rfl ?_
  obtain ⟨hv6, hf6, hz6⟩ := grow hf5 hz5 hw6 ha6
  repeat (first | refine t_seq ?_ | refine t_region ?_ | refine s_nil ?_ | refine p_then ?_ | refine t_ret ?_ | refine p_then_ret ?_ | refine p_block_ret ?_ | refine t_block ?_ | refine t_exit ?_ | refine p_then_exit ?_ | refine p_block_exit ?_ | refine p_block ?_ | refine t_skip ?_)
  refine s_val (v_move rfl) rfl ?_
  refine s_val (v_move rfl) rfl ?_
  refine s_val (v_len rfl (so rfl) rfl) rfl ?_
  refine s_val (v_convIB rfl (ko rfl) (ko rfl)) rfl ?_
  refine s_op (o_buildSlice rt24 rfl rfl rfl (by show 0 < 1; decide) (by show 1 ≤ 16777216; decide) (by simp [Value.cells])) rfl rfl ?_
  rintro _ w7 hw7 ⟨rfl, hB7⟩
  refine s_op (o_appB (m := [UInt8.ofNat ctx.length]) rt24 rfl rfl rfl Tryz.underlying24 (hv6.only hw7 (by simp [Nots])) hB7.rd0 (by simp; omega) mem_own) rfl rfl ?_
  rintro v8 w8 hw8 ha8
  refine s_val (v_assign rfl) rfl ?_
  obtain ⟨hv8, hf8, hz8⟩ := grow hf6 (hz6.trans hw7) hw8 ha8
  repeat (first | refine t_seq ?_ | refine t_region ?_ | refine s_nil ?_ | refine p_then ?_ | refine t_ret ?_ | refine p_then_ret ?_ | refine p_block_ret ?_ | refine t_block ?_ | refine t_exit ?_ | refine p_then_exit ?_ | refine p_block_exit ?_ | refine p_block ?_ | refine t_skip ?_)
  refine s_val (v_move rfl) rfl ?_
  refine s_val (v_move rfl) rfl ?_
  refine s_op (o_appB (m := ctx) rt24 rfl rfl rfl Tryz.underlying24 hv8 (hp'.pure hz8) (by simp; omega) mem_own) rfl rfl ?_
  rintro v9 w9 hw9 ha9
  refine s_val (v_assign rfl) rfl ?_
  obtain ⟨hv9, hf9, hz9⟩ := grow hf8 hz8 hw9 ha9
  obtain ⟨A9, c9, rfl, hc9, hr9, _⟩ := hv9.slice
  have hlab : [] ++ [UInt8.ofNat (n / 256), UInt8.ofNat n] ++ [UInt8.ofNat (6 + label.length)] ++ [0x74, 0x6c, 0x73, 0x31, 0x33, 0x20] ++ label ++ [UInt8.ofNat ctx.length] ++ ctx = labelOf label ctx n := by simp [labelOf]
  rw [hlab] at hr9
  have hll : (labelOf label ctx n).length ≤ 20000 := by simp [labelOf]; omega
  have hs9 := hz9.size
  repeat (first | refine t_seq ?_ | refine t_region ?_ | refine s_nil ?_ | refine p_then ?_ | refine t_ret ?_ | refine p_then_ret ?_ | refine p_block_ret ?_ | refine t_block ?_ | refine t_exit ?_ | refine p_then_exit ?_ | refine p_block_exit ?_ | refine p_block ?_ | refine t_skip ?_)
  refine s_val (v_move rfl) rfl ?_
  refine s_val (v_move rfl) rfl ?_
  refine s_val (v_move rfl) rfl ?_
  refine s_val (v_string rfl (congrArg List.length hlab) Tryz.underlying24 u5 u9 hr9) rfl ?_
  refine s_val (v_move rfl) rfl ?_
  refine s_op (o_call rfl (en rfl) (c78 sz bk hH h A c secret (labelOf label ctx n) n w9 hm (hp.pure hz9) hc hl hll hn (hK.only hz9 (by simp)) (by omega))) rfl rfl ?_
  rintro v10 w10 hw10 ⟨hv10, hf10⟩
  refine s_val (v_assign rfl) rfl ?_
  repeat (first | refine t_seq ?_ | refine t_region ?_ | refine s_nil ?_ | refine p_then ?_ | refine t_ret ?_ | refine p_then_ret ?_ | refine p_block_ret ?_ | refine t_block ?_ | refine t_exit ?_ | refine p_then_exit ?_ | refine p_block_exit ?_ | refine p_block ?_ | refine t_skip ?_)
  exact ret1 rfl rfl ⟨_, rfl, hz9.trans hw10, hv10, hf10.mono hs9⟩
end Go.Proofs.YtnaefgnjdmmmcaaGreatDoor
/- tls13.ExpandLabel in the program, at one of its instances. -/
namespace Go.Proofs.YtnaefgnjdmmmcaaGreatDoor
open Go.RowKit
attribute [local irreducible] ValAt OpAt RunX Tr Post FlowK

set_option maxHeartbeats 1000000 in
/-- tls13.ExpandLabel -/
theorem c68 (H : HK) (hH : H.ok) (h : Value) (A A' : Option Addr) (c c' : Nat) (secret label ctx : Bytes) (n : Nat) (w : World) (hm : MkI H w h) (hp : Rd w A secret) (hc : secret.length ≤ c) (hl : secret.length ≤ 60000)
    (hp' : Rd w A' ctx) (hla : label.length ≤ 249) (hcx : ctx.length ≤ 255) (hn : n ≤ 32) (hK : KT w) (hw0 : 0 < w.heap.size) :
    Calls Tryz.prog 68 #[h, .slice A secret.length c, S label, .slice A' ctx.length c', I n] w (Ret [] w (Fresh w (expandLabel H secret label ctx n))) := by
  refine enter (Γ := [(0, .ex h), (1, .ex (.slice A secret.length c)), (2, .ex (S label)), (3, .ex (.slice A' ctx.length c')), (4, .ex (I n))]) Tryz.func68 rfl rfl rfl ⟨⟨_, rfl, rfl⟩, ⟨_, rfl, rfl⟩, ⟨_, rfl, rfl⟩, ⟨_, rfl, rfl⟩, ⟨_, rfl, rfl⟩, trivial⟩ ?_
  repeat (first | refine t_seq ?_ | refine t_region ?_ | refine s_nil ?_ | refine p_then ?_ | refine t_ret ?_ | refine p_then_ret ?_ | refine p_block_ret ?_ | refine t_block ?_ | refine t_exit ?_ | refine p_then_exit ?_ | refine p_block_exit ?_ | refine p_block ?_ | refine t_skip ?_)
  refine s_val (v_assign rfl) rfl ?_
  repeat (first | refine t_seq ?_ | refine t_region ?_ | refine s_nil ?_ | refine p_then ?_ | refine t_ret ?_ | refine p_then_ret ?_ | refine p_block_ret ?_ | refine t_block ?_ | refine t_exit ?_ | refine p_then_exit ?_ | refine p_block_exit ?_ | refine p_block ?_ | refine t_skip ?_)
  refine s_val (v_move rfl) rfl ?_
  refine s_val (v_lenS rfl u9) rfl ?_
  refine s_val (v_addI opc rfl (by omega)) rfl ?_
  refine s_val (v_gtI rfl rfl) rfl ?_
  refine s_val (v_move rfl) rfl ?_
  rw [decide_eq_false (show ¬ (((6 + label.length : Nat) : Int) > 255) by omega)]
  first | refine s_yes rfl rfl (v_move rfl) rfl ?_ | refine s_no rfl rfl rfl rfl ?_ | refine s_no_undef rfl rfl rfl ?_
  first | refine s_yes rfl rfl (v_len rfl (so rfl) rfl) rfl ?_ | refine s_no rfl rfl rfl rfl ?_ | refine s_no_undef rfl rfl rfl ?_
  first | refine s_yes rfl rfl (v_gtI rfl rfl) rfl ?_ | refine s_no rfl rfl rfl rfl ?_ | refine s_no_undef rfl rfl rfl ?_
  refine s_val (v_pick rfl rfl rfl) rfl ?_
  rw [decide_eq_false (show ¬ ((ctx.length : Int) > 255) by omega)]
  repeat (first | refine t_seq ?_ | refine t_region ?_ | refine s_nil ?_ | refine p_then ?_ | refine t_ret ?_ | refine p_then_ret ?_ | refine p_block_ret ?_ | refine t_block ?_ | refine t_exit ?_ | refine p_then_exit ?_ | refine p_block_exit ?_ | refine p_block ?_ | refine t_skip ?_)
  refine t_false rfl ?_
  repeat (first | refine t_seq ?_ | refine t_region ?_ | refine s_nil ?_ | refine p_then ?_ | refine t_ret ?_ | refine p_then_ret ?_ | refine p_block_ret ?_ | refine t_block ?_ | refine t_exit ?_ | refine p_then_exit ?_ | refine p_block_exit ?_ | refine p_block ?_ | refine t_skip ?_)
  refine s_val (v_move rfl) rfl ?_
  refine s_val (v_lenS rfl u9) rfl ?_
  refine s_val (v_addI opc rfl (by omega)) rfl ?_
  refine s_val (v_addI rfl opc (by omega)) rfl ?_
  refine s_val (v_move rfl) rfl ?_
  refine s_val (v_len rfl (so rfl) rfl) rfl ?_
  refine s_val (v_addI rfl rfl (by omega)) rfl ?_
  refine s_op (o_makeSlice (n := 0) rt24 rfl rfl (by omega) (by omega) (by omega)) rfl rfl ?_
  rintro _ w1 hw1 ⟨rfl, hB1⟩
  refine s_val (v_assign rfl) rfl ?_
  have hv1 : Own w1 (.slice (some ⟨w.heap.size, 0, none⟩) 0 (9 + label.length + 1 + ctx.length)) [] := Own.zero hB1 (by simp) (by simp only [maxLen]; omega)
  have hf1 : From w.heap.size (.slice (some ⟨w.heap.size, 0, none⟩) 0 (9 + label.length + 1 + ctx.length)) := fun k hk => by
    cases hk; exact Nat.le_refl _
  obtain ⟨v1, hve⟩ : ∃ v, v = Value.slice (some ⟨w.heap.size, 0, none⟩) 0 (9 + label.length + 1 + ctx.length) := ⟨_, rfl⟩
  rw [← hve] at hv1 hf1
  rw [← hve]
  clear hve
  repeat (first | refine t_seq ?_ | refine t_region ?_ | refine s_nil ?_ | refine p_then ?_ | refine t_ret ?_ | refine p_then_ret ?_ | refine p_block_ret ?_ | refine t_block ?_ | refine t_exit ?_ | refine p_then_exit ?_ | refine p_block_exit ?_ | refine p_block ?_ | refine t_skip ?_)
  refine s_val (v_move rfl) rfl ?_
  refine s_val (v_move rfl) rfl ?_
  refine s_val (v_conv (k2 := .u16) (v := .int .u16 (n : Int)) rfl (ko rfl) (ko rfl) (u16_wrap (by omega))) rfl ?_
  refine s_op (o_call rfl (en rfl) (c75 v1 [] n w1 hv1 (by simp))) rfl rfl ?_
  rintro v2 w2 hw2 ha2
  refine s_val (v_assign rfl) rfl ?_
  obtain ⟨hv2, hf2, hz2⟩ := grow hf1 hw1 hw2 ha2
  repeat (first | refine t_seq ?_ | refine t_region ?_ | refine s_nil ?_ | refine p_then ?_ | refine t_ret ?_ | refine p_then_ret ?_ | refine p_block_ret ?_ | refine t_block ?_ | refine t_exit ?_ | refine p_then_exit ?_ | refine p_block_exit ?_ | refine p_block ?_ | refine t_skip ?_)
  refine s_val (v_move rfl) rfl ?_
  refine s_val (v_move rfl) rfl ?_
  refine s_val (v_lenS rfl u9) rfl ?_
  refine s_val (v_addI opc rfl (by omega)) rfl ?_
  refine s_val (v_convIB rfl (ko rfl) (ko rfl)) rfl ?_
  refine s_op (o_buildSlice rt24 rfl rfl rfl (by show 0 < 1; decide) (by show 1 ≤ 16777216; decide) (by simp [Value.cells])) rfl rfl ?_
  rintro _ w3 hw3 ⟨rfl, hB3⟩
  refine s_op (o_appB (m := [UInt8.ofNat (6 + label.length)]) rt24 rfl rfl rfl Tryz.underlying24 (hv2.only hw3 (by simp [Nots])) hB3.rd0 (by simp) mem_own) rfl rfl ?_
  rintro v4 w4 hw4 ha4
  refine s_val (v_assign rfl) rfl ?_
  obtain ⟨hv4, hf4, hz4⟩ := grow hf2 (hz2.trans hw3) hw4 ha4
  repeat (first | refine t_seq ?_ | refine t_region ?_ | refine s_nil ?_ | refine p_then ?_ | refine t_ret ?_ | refine p_then_ret ?_ | refine p_block_ret ?_ | refine t_block ?_ | refine t_exit ?_ | refine p_then_exit ?_ | refine p_block_exit ?_ | refine p_block ?_ | refine t_skip ?_)
  refine s_val (v_move rfl) rfl ?_
  refine s_op (o_appS (m := [0x74, 0x6c, 0x73, 0x31, 0x33, 0x20]) rt24 rfl rfl u9 hv4 (by simp) mem_own) rfl rfl ?_
  rintro v5 w5 hw5 ha5
  refine s_val (v_assign rfl) rfl ?_
  obtain ⟨hv5, hf5, hz5⟩ := grow hf4 hz4 hw5 ha5
  repeat (first | refine t_seq ?_ | refine t_region ?_ | refine s_nil ?_ | refine p_then ?_ | refine t_ret ?_ | refine p_then_ret ?_ | refine p_block_ret ?_ | refine t_block ?_ | refine t_exit ?_ | refine p_then_exit ?_ | refine p_block_exit ?_ | refine p_block ?_ | refine t_skip ?_)
  refine s_val (v_move rfl) rfl ?_
  refine s_val (v_move rfl) rfl ?_
  refine s_op (o_appS (m := label) rt24 rfl rfl u9 hv5 (by simp; omega) mem_own) rfl rfl ?_
  rintro v6 w6 hw6 ha6
  refine s_val (v_assign rfl) rfl ?_
  obtain ⟨hv6, hf6, hz6⟩ := grow hf5 hz5 hw6 ha6
  repeat (first | refine t_seq ?_ | refine t_region ?_ | refine s_nil ?_ | refine p_then ?_ | refine t_ret ?_ | refine p_then_ret ?_ | refine p_block_ret ?_ | refine t_block ?_ | refine t_exit ?_ | refine p_then_exit ?_ | refine p_block_exit ?_ | refine p_block ?_ | refine t_skip ?_)
  refine s_val (v_move rfl) rfl ?_
  refine s_val (v_move rfl) rfl ?_
  refine s_val (v_len rfl (so rfl) rfl) rfl ?_
  refine s_val (v_convIB rfl (ko rfl) (ko rfl)) rfl ?_
  refine s_op (o_buildSlice rt24 rfl rfl rfl (by show 0 < 1; decide) (by show 1 ≤ 16777216; decide) (by simp [Value.cells])) rfl rfl ?_
  rintro _ w7 hw7 ⟨rfl, hB7⟩
  refine s_op (o_appB (m := [UInt8.ofNat ctx.length]) rt24 rfl rfl rfl Tryz.underlying24 (hv6.only hw7 (by simp [Nots])) hB7.rd0 (by simp; omega) mem_own) rfl rfl ?_
  rintro v8 w8 hw8 ha8
  refine s_val (v_assign rfl) rfl ?_
  obtain ⟨hv8, hf8, hz8⟩ := grow hf6 (hz6.trans hw7) hw8 ha8
  repeat (first | refine t_seq ?_ | refine t_region ?_ | refine s_nil ?_ | refine p_then ?_ | refine t_ret ?_ | refine p_then_ret ?_ | refine p_block_ret ?_ | refine t_block ?_ | refine t_exit ?_ | refine p_then_exit ?_ | refine p_block_exit ?_ | refine p_block ?_ | refine t_skip ?_)
  refine s_val (v_move rfl) rfl ?_
  refine s_val (v_move rfl) rfl ?_
  refine s_op (o_appB (m := ctx) rt24 rfl rfl rfl Tryz.underlying24 hv8 (hp'.pure hz8) (by simp; omega) mem_own) rfl rfl ?_
  rintro v9 w9 hw9 ha9
  refine s_val (v_assign rfl) rfl ?_
  obtain ⟨hv9, hf9, hz9⟩ := grow hf8 hz8 hw9 ha9
  obtain ⟨A9, c9, rfl, hc9, hr9, _⟩ := hv9.slice
  have hlab : [] ++ [UInt8.ofNat (n / 256), UInt8.ofNat n] ++ [UInt8.ofNat (6 + label.length)] ++ [0x74, 0x6c, 0x73, 0x31, 0x33, 0x20] ++ label ++ [UInt8.ofNat ctx.length] ++ ctx = labelOf label ctx n := by simp [labelOf]
  rw [hlab] at hr9
  have hll : (labelOf label ctx n).length ≤ 20000 := by simp [labelOf]; omega
  have hs9 := hz9.size
  repeat (first | refine t_seq ?_ | refine t_region ?_ | refine s_nil ?_ | refine p_then ?_ | refine t_ret ?_ | refine p_then_ret ?_ | refine p_block_ret ?_ | refine t_block ?_ | refine t_exit ?_ | refine p_then_exit ?_ | refine p_block_exit ?_ | refine p_block ?_ | refine t_skip ?_)
  refine s_val (v_move rfl) rfl ?_
  refine s_val (v_move rfl) rfl ?_
  refine s_val (v_move rfl) rfl ?_
  refine s_val (v_string rfl (congrArg List.length hlab) Tryz.underlying24 u5 u9 hr9) rfl ?_
  refine s_val (v_move rfl) rfl ?_
  refine s_op (o_call rfl (en rfl) (c87 H hH h A c secret (labelOf label ctx n) n w9 (hm.only hz9 (fun i hi => by cases hi) (Nat.le_refl _)) (hp.pure hz9) hc hl hll hn (hK.only hz9 (by simp)) (by omega))) rfl rfl ?_
  rintro v10 w10 hw10 ⟨hv10, hf10⟩
  refine s_val (v_assign rfl) rfl ?_
  repeat (first | refine t_seq ?_ | refine t_region ?_ | refine s_nil ?_ | refine p_then ?_ | refine t_ret ?_ | refine p_then_ret ?_ | refine p_block_ret ?_ | refine t_block ?_ | refine t_exit ?_ | refine p_then_exit ?_ | refine p_block_exit ?_ | refine p_block ?_ | refine t_skip ?_)
  exact ret1 rfl rfl ⟨_, rfl, hz9.trans hw10, hv10, hf10.mono hs9⟩
end Go.Proofs.YtnaefgnjdmmmcaaGreatDoor
/- CLOSED FACTS on the literals of the key schedule's structs. -/
namespace Go.Proofs.YtnaefgnjdmmmcaaGreatDoor
open Go.RowKit
set_option maxRecDepth 100000
theorem bv79 (f : Fn) (us vs : Array Value) (A : Option Addr) (n c : Nat) (w : World) : (Instr.build 79 #[(0, .slice A n c), (1, .func f us vs)]).run Tryz.prog w = .ok (.agg #[.slice A n c, .func f us vs]) w := by kernel_rfl
theorem bv84 (f : Fn) (us vs : Array Value) (A : Option Addr) (n c : Nat) (w : World) : (Instr.build 84 #[(0, .slice A n c), (1, .func f us vs)]).run Tryz.prog w = .ok (.agg #[.slice A n c, .func f us vs]) w := by kernel_rfl
theorem bv89 (f : Fn) (us vs : Array Value) (A : Option Addr) (n c : Nat) (w : World) : (Instr.build 89 #[(0, .slice A n c), (1, .func f us vs)]).run Tryz.prog w = .ok (.agg #[.slice A n c, .func f us vs]) w := by kernel_rfl
theorem bv91 (f : Fn) (us vs : Array Value) (A : Option Addr) (n c : Nat) (w : World) : (Instr.build 91 #[(0, .slice A n c), (1, .func f us vs)]).run Tryz.prog w = .ok (.agg #[.slice A n c, .func f us vs]) w := by kernel_rfl
theorem sc77 : scalar Tryz.prog 77 = true := by kernel_rfl
end Go.Proofs.YtnaefgnjdmmmcaaGreatDoor
/- tls13's deriveSecret in the program; words for the key schedule. -/
namespace Go.Proofs.YtnaefgnjdmmmcaaGreatDoor
open Go.RowKit

def FreshB (b : Nat) (l : Bytes) : Pred := fun v w => Own w v l ∧ From b v
theorem st_fresh {b : Nat} {l : Bytes} : ∀ (v : Value) (w w' : World), FreshB b l v w → Only [] w w' → FreshB b l v w' := fun _ _ _ ⟨h1, h2⟩ k => ⟨h1.only k (by simp [Nots]), h2⟩
/-- A transcript: none, or a hash that has taken in the messages. -/
def TrAt (H : HK) (w : World) (T : Value) (msgs : Bytes) : Prop := (T = .nilIface ∧ msgs = []) ∨ ∃ g fp, T = H.val g ∧ HashAt H w g fp msgs
theorem TrAt.pure {H : HK} {w w' : World} {T : Value} {msgs : Bytes} (h : TrAt H w T msgs) (k : Only [] w w') : TrAt H w' T msgs := by
  rcases h with h | ⟨g, fp, e, h⟩
  · exact .inl h
  · exact .inr ⟨g, fp, e, h.only k (by simp)⟩
theorem MkI.pure {H : HK} {w w' : World} {h : Value} (hm : MkI H w h) (k : Only [] w w') : MkI H w' h := hm.only k (fun i hi => by cases hi) (Nat.le_refl _)
/-- A stage of the key schedule, at e: its secret and the hash. -/
def SecAt (T : TypeId) (H : HK) (w : World) (e : Nat) (secret : Bytes) : Prop := ∃ A c f us vs, Blk w e T #[.slice A secret.length c, .func f us vs] ∧ secret.length ≤ c ∧ Rd w A secret ∧ (secret = [] → A = none) ∧ MkI H w (.func f us vs)
theorem SecAt.pure {T : TypeId} {H : HK} {w w' : World} {e : Nat} {secret : Bytes} (h : SecAt T H w e secret) (k : Only [] w w') : SecAt T H w' e secret := by
  obtain ⟨A, c, f, us, vs, h1, h2, h3, h5, h4⟩ := h
  exact ⟨A, c, f, us, vs, h1.only k (by simp), h2, h3.pure k, h5, h4.pure k⟩
def SecPt (T : TypeId) (H : HK) (secret : Bytes) : Pred := fun v w => ∃ e, v = pt e 0 ∧ SecAt T H w e secret
theorem st_sec {T : TypeId} {H : HK} {secret : Bytes} : ∀ (v : Value) (w w' : World), SecPt T H secret v w → Only [] w w' → SecPt T H secret v w' := fun _ _ _ ⟨e, h1, h2⟩ k => ⟨e, h1, h2.pure k⟩
theorem st_tr {H : HK} {msgs : Bytes} : ∀ (v : Value) (w w' : World), TrAt H w v msgs → Only [] w w' → TrAt H w' v msgs := fun _ _ _ h k => h.pure k
theorem MkI.func {H : HK} {w : World} {h : Value} (hm : MkI H w h) : ∃ f us vs, h = .func f us vs := by
  obtain ⟨q, u, _, h2⟩ := hm
  cases H with
  | sha => exact ⟨_, _, _, h2.1⟩
  | own s b => exact ⟨_, _, _, h2.1⟩

section
variable {P : Program} {N : Nat} {Γ : Env} {w : World} {d : Option Tmp} {ty : TypeId} {pos : String} {af : Array Edge} {gd : Option (Nat × Bool)}
/-- A call whose arguments are known by predicates. -/
theorem o_callA {f : FuncId} {xs : List Operand} {ats : Array TypeId} {fp : List Nat} {S : Pred} (he : enters P f = true)
    (h : ∀ a, SatOn N Γ ⟨d, .call ⟨.value (.func f), xs.toArray, ats⟩, ty, pos, af, gd⟩ a w → Calls P f (xs.map a.eval).toArray w (Ret fp w S)) :
    OpAt P N Γ w ⟨d, .call ⟨.value (.func f), xs.toArray, ats⟩, ty, pos, af, gd⟩ (Only fp) S :=
  opAt_enter fun a ha => by
    refine ⟨f, (xs.map a.eval).toArray, ?_, h a ha⟩
    rw [execOp_call_go]
    simp only [List.map_toArray, Array.empty_append, Array.append_empty]
    exact run_callFunc he _ _
end
section
attribute [local irreducible] ValAt OpAt RunX Tr Post FlowK
theorem o_hSum {N : Nat} {Γ : Env} {w : World} {d : Option Tmp} {ty : TypeId} {pos : String} {af : Array Edge} {gd : Option (Nat × Bool)} {H : HK} {g : Nat} {fp : List Nat} {msgs : Bytes} {x : Operand} {ats : Array TypeId} (hH : H.ok) (hx : Γ.op x = some (.ex (H.val g))) (h : HashAt H w g fp msgs) (hn : msgs.length ≤ 200000) (hK : KT w) :
    OpAt Tryz.prog N Γ w ⟨d, .call ⟨.invoke x "Sum", #[.const (.slice none 0 0)], ats⟩, ty, pos, af, gd⟩ (Only []) (Fresh w (H.hash msgs)) :=
  opAt_mono (o_invoke (xs := [.const (.slice none 0 0)]) hx rfl (H.mes _ _) H.ens (hSum hH h (Own.nil w) (Nots.nil _) hn (by simp) hK)) (fun _ h => h) (fun v w' _ h => ⟨by simpa using h.1, fun k hk => (h.2 k hk).elim (fun e => by cases e) id⟩)
set_option maxHeartbeats 1000000 in
/-- deriveSecret -/
theorem c65 (H : HK) (hH : H.ok) (h : Value) (A : Option Addr) (c : Nat) (secret label msgs : Bytes) (T : Value) (w : World) (hm : MkI H w h) (hp : Rd w A secret) (hc : secret.length ≤ c) (hl : secret.length ≤ 60000)
    (hla : label.length ≤ 249) (hT : TrAt H w T msgs) (hn : msgs.length ≤ 200000) (hK : KT w) (hw0 : 0 < w.heap.size) :
    Calls Tryz.prog 65 #[h, .slice A secret.length c, S label, T] w (Ret [] w (Fresh w (derive H secret label msgs))) := by
  have hsl := HK.size_le hH
  refine enter (Γ := [(0, .ex h), (1, .ex (.slice A secret.length c)), (2, .ex (S label)), (3, .ex T)]) Tryz.func65 rfl rfl rfl ⟨⟨_, rfl, rfl⟩, ⟨_, rfl, rfl⟩, ⟨_, rfl, rfl⟩, ⟨_, rfl, rfl⟩, trivial⟩ ?_
  repeat (first | refine t_seq ?_ | refine t_region ?_ | refine s_nil ?_ | refine p_then ?_ | refine t_ret ?_ | refine p_then_ret ?_ | refine p_block_ret ?_ | refine t_block ?_ | refine t_exit ?_ | refine p_then_exit ?_ | refine p_block_exit ?_ | refine p_block ?_ | refine t_skip ?_)
  refine s_val (v_assign rfl) rfl ?_
  refine s_nil (p_then ?_)
  refine t_cut (fun g : Nat => [(0, .ex h), (1, .ex (.slice A secret.length c)), (2, .ex (S label)), (3, .ex (H.val g))]) (fun g w' => Only [] w w' ∧ ∃ fp, HashAt H w' g fp msgs) ?_ ?_
  · rcases hT with ⟨rfl, rfl⟩ | ⟨g, fp, rfl, hg⟩
    · repeat (first | refine t_seq ?_ | refine t_region ?_ | refine s_nil ?_ | refine p_then ?_ | refine t_ret ?_ | refine p_then_ret ?_ | refine p_block_ret ?_ | refine t_block ?_ | refine t_exit ?_ | refine p_then_exit ?_ | refine p_block_exit ?_ | refine p_block ?_ | refine t_skip ?_)
      refine s_val (v_move rfl) rfl ?_
      refine s_val (v_eqNilIface0 rfl (if_ rfl)) rfl ?_
      repeat (first | refine t_seq ?_ | refine t_region ?_ | refine s_nil ?_ | refine p_then ?_ | refine t_ret ?_ | refine p_then_ret ?_ | refine p_block_ret ?_ | refine t_block ?_ | refine t_exit ?_ | refine p_then_exit ?_ | refine p_block_exit ?_ | refine p_block ?_ | refine t_skip ?_)
      refine t_true rfl ?_
      repeat (first | refine t_seq ?_ | refine t_region ?_ | refine s_nil ?_ | refine p_then ?_ | refine t_ret ?_ | refine p_then_ret ?_ | refine p_block_ret ?_ | refine t_block ?_ | refine t_exit ?_ | refine p_then_exit ?_ | refine p_block_exit ?_ | refine p_block ?_ | refine t_skip ?_)
      refine s_val (v_move rfl) rfl ?_
      refine s_op (o_mkI (b := w.heap.size) hm rfl (Nat.le_refl _)) rfl rfl ?_
      rintro _ w1 hw1 ⟨g, rfl, fp, hg, _⟩
      refine s_val (v_assign rfl) rfl ?_
      repeat (first | refine t_seq ?_ | refine t_region ?_ | refine s_nil ?_ | refine p_then ?_ | refine t_ret ?_ | refine p_then_ret ?_ | refine p_block_ret ?_ | refine t_block ?_ | refine t_exit ?_ | refine p_then_exit ?_ | refine p_block_exit ?_ | refine p_block ?_ | refine t_skip ?_)
      exact p_cut g ⟨rfl, rfl, rfl, rfl, trivial⟩ ⟨hw1, fp, hg⟩
    · repeat (first | refine t_seq ?_ | refine t_region ?_ | refine s_nil ?_ | refine p_then ?_ | refine t_ret ?_ | refine p_then_ret ?_ | refine p_block_ret ?_ | refine t_block ?_ | refine t_exit ?_ | refine p_then_exit ?_ | refine p_block_exit ?_ | refine p_block ?_ | refine t_skip ?_)
      refine s_val (v_move rfl) rfl ?_
      refine s_val (v_eqNilIface rfl (if_ rfl)) rfl ?_
      repeat (first | refine t_seq ?_ | refine t_region ?_ | refine s_nil ?_ | refine p_then ?_ | refine t_ret ?_ | refine p_then_ret ?_ | refine p_block_ret ?_ | refine t_block ?_ | refine t_exit ?_ | refine p_then_exit ?_ | refine p_block_exit ?_ | refine p_block ?_ | refine t_skip ?_)
      refine t_false rfl ?_
      repeat (first | refine t_seq ?_ | refine t_region ?_ | refine s_nil ?_ | refine p_then ?_ | refine t_ret ?_ | refine p_then_ret ?_ | refine p_block_ret ?_ | refine t_block ?_ | refine t_exit ?_ | refine p_then_exit ?_ | refine p_block_exit ?_ | refine p_block ?_ | refine t_skip ?_)
      exact p_cut g ⟨rfl, rfl, rfl, rfl, trivial⟩ ⟨Only.refl _ _, fp, hg⟩
  rintro g w1 ⟨hw1, fp, hg⟩
  have hs1 := hw1.size
  have hhl := H.hash_length msgs
  repeat (first | refine t_seq ?_ | refine t_region ?_ | refine s_nil ?_ | refine p_then ?_ | refine t_ret ?_ | refine p_then_ret ?_ | refine p_block_ret ?_ | refine t_block ?_ | refine t_exit ?_ | refine p_then_exit ?_ | refine p_block_exit ?_ | refine p_block ?_ | refine t_skip ?_)
  refine s_val (v_move rfl) rfl ?_
  refine s_val (v_move rfl) rfl ?_
  refine s_val (v_move rfl) rfl ?_
  refine s_val (v_move rfl) rfl ?_
  refine s_op (o_hSum hH rfl hg hn (hK.only hw1 (by simp))) rfl rfl ?_
  rintro v2 w2 hw2 ⟨hv2, hf2⟩
  obtain ⟨A2, c2, rfl, hc2, hr2, _⟩ := hv2.slice
  have hs2 := hw2.size
  have hz2 := hw1.trans hw2
  refine s_val (v_move rfl) rfl ?_
  refine s_op (o_invoke rfl rfl (H.mez _ _) H.enz (hSize (hg.only hw2 (by simp)))) rfl rfl ?_
  rintro _ w3 hw3 rfl
  refine s_op (o_call rfl (en rfl) (c68 H hH h A A2 c c2 secret label (H.hash msgs) H.size w3 (hm.pure (hz2.trans hw3)) (hp.pure (hz2.trans hw3)) hc hl (hr2.pure hw3) hla (by omega) hsl (hK.only (hz2.trans hw3) (by simp)) (by have := hw3.size; omega))) rfl rfl ?_
  rintro v4 w4 hw4 ⟨hv4, hf4⟩
  refine s_val (v_assign rfl) rfl ?_
  repeat (first | refine t_seq ?_ | refine t_region ?_ | refine s_nil ?_ | refine p_then ?_ | refine t_ret ?_ | refine p_then_ret ?_ | refine p_block_ret ?_ | refine t_block ?_ | refine t_exit ?_ | refine p_then_exit ?_ | refine p_block_exit ?_ | refine p_block ?_ | refine t_skip ?_)
  exact ret1 rfl rfl ⟨_, rfl, (hz2.trans hw3).trans hw4, hv4, hf4.mono (hz2.trans hw3).size⟩
end
end Go.Proofs.YtnaefgnjdmmmcaaGreatDoor
/- tls13's key schedule in the program: the secrets. -/
namespace Go.Proofs.YtnaefgnjdmmmcaaGreatDoor
open Go.RowKit
attribute [local irreducible] ValAt OpAt RunX Tr Post FlowK

/-- a secret -/
theorem c37 (H : HK) (hH : H.ok) (e : Nat) (secret msgs : Bytes) (T : Value) (w : World) (hS : SecAt 79 H w e secret) (hl : secret.length ≤ 60000) (hT : TrAt H w T msgs) (hn : msgs.length ≤ 200000) (hK : KT w) (hw0 : 0 < w.heap.size) :
    Calls Tryz.prog 37 #[pt e 0, T] w (Ret [] w (Fresh w (derive H secret [99, 32, 101, 32, 116, 114, 97, 102, 102, 105, 99] msgs))) := by
  obtain ⟨A, c, f, us, vs, hB, hc, hr, hni, hm⟩ := hS
  refine enter (Γ := [(0, .ex (pt e 0)), (1, .ex T)]) Tryz.func37 rfl rfl rfl ⟨⟨_, rfl, rfl⟩, ⟨_, rfl, rfl⟩, trivial⟩ ?_
  repeat (first | refine t_seq ?_ | refine t_region ?_ | refine s_nil ?_ | refine p_then ?_ | refine t_ret ?_ | refine p_then_ret ?_ | refine p_block_ret ?_ | refine t_block ?_ | refine t_exit ?_ | refine p_then_exit ?_ | refine p_block_exit ?_ | refine p_block ?_ | refine t_skip ?_)
  refine s_val (v_assign rfl) rfl ?_
  repeat (first | refine t_seq ?_ | refine t_region ?_ | refine s_nil ?_ | refine p_then ?_ | refine t_ret ?_ | refine p_then_ret ?_ | refine p_block_ret ?_ | refine t_block ?_ | refine t_exit ?_ | refine p_then_exit ?_ | refine p_block_exit ?_ | refine p_block ?_ | refine t_skip ?_)
  refine t_drawO 9 (by kernel_rfl) rfl ?_
  refine fk_val (Only.refl _) (fun wF hR => v_move rfl) ?_
  first | refine fk_val (Only.refl _) (fun wF hR => v_nilCheck rfl) ?_ | refine fk_val (Only.refl _) (fun wF hR => v_nilCheck_iface rfl) ?_
  refine fk_val (Only.refl _) (fun wF hR => v_fieldAddr rfl (fo rfl)) ?_
  refine fk_val Only.refl' (fun wF hR => v_load1 rfl sc77 ((hB.only hR (by simp)).cell _ rfl)) ?_
  refine fk_val (Only.refl _) (fun wF hR => v_move rfl) ?_
  first | refine fk_val (Only.refl _) (fun wF hR => v_nilCheck rfl) ?_ | refine fk_val (Only.refl _) (fun wF hR => v_nilCheck_iface rfl) ?_
  refine fk_val (Only.refl _) (fun wF hR => v_fieldAddr rfl (fo rfl)) ?_
  refine fk_val (Only.refl _) (fun wF hR => v_load1 rfl (sc rfl) (by first | exact (hB.only hR (by simp)).cell _ rfl | assumption)) ?_
  refine fk_val (Only.refl _) (fun wF hR => v_move rfl) ?_
  refine fk_nil (fun w1 hw1 => ?_)
  have hs1 := hw1.size
  refine s_op (o_call rfl (en rfl) (c65 H hH (.func f us vs) A c secret [99, 32, 101, 32, 116, 114, 97, 102, 102, 105, 99] msgs T w1 (hm.pure hw1) (hr.pure hw1) hc hl (by decide) (hT.pure hw1) hn (hK.only hw1 (by simp)) (by omega))) rfl rfl ?_
  rintro v2 w2 hw2 ⟨hv2, hf2⟩
  refine s_val (v_assign rfl) rfl ?_
  repeat (first | refine t_seq ?_ | refine t_region ?_ | refine s_nil ?_ | refine p_then ?_ | refine t_ret ?_ | refine p_then_ret ?_ | refine p_block_ret ?_ | refine t_block ?_ | refine t_exit ?_ | refine p_then_exit ?_ | refine p_block_exit ?_ | refine p_block ?_ | refine t_skip ?_)
  exact ret1 rfl rfl ⟨_, rfl, hw1.trans hw2, hv2, hf2.mono hs1⟩

/-- a secret -/
theorem c46 (H : HK) (hH : H.ok) (e : Nat) (secret msgs : Bytes) (T : Value) (w : World) (hS : SecAt 89 H w e secret) (hl : secret.length ≤ 60000) (hT : TrAt H w T msgs) (hn : msgs.length ≤ 200000) (hK : KT w) (hw0 : 0 < w.heap.size) :
    Calls Tryz.prog 46 #[pt e 0, T] w (Ret [] w (Fresh w (derive H secret [99, 32, 104, 115, 32, 116, 114, 97, 102, 102, 105, 99] msgs))) := by
  obtain ⟨A, c, f, us, vs, hB, hc, hr, hni, hm⟩ := hS
  refine enter (Γ := [(0, .ex (pt e 0)), (1, .ex T)]) Tryz.func46 rfl rfl rfl ⟨⟨_, rfl, rfl⟩, ⟨_, rfl, rfl⟩, trivial⟩ ?_
  repeat (first | refine t_seq ?_ | refine t_region ?_ | refine s_nil ?_ | refine p_then ?_ | refine t_ret ?_ | refine p_then_ret ?_ | refine p_block_ret ?_ | refine t_block ?_ | refine t_exit ?_ | refine p_then_exit ?_ | refine p_block_exit ?_ | refine p_block ?_ | refine t_skip ?_)
  refine s_val (v_assign rfl) rfl ?_
  repeat (first | refine t_seq ?_ | refine t_region ?_ | refine s_nil ?_ | refine p_then ?_ | refine t_ret ?_ | refine p_then_ret ?_ | refine p_block_ret ?_ | refine t_block ?_ | refine t_exit ?_ | refine p_then_exit ?_ | refine p_block_exit ?_ | refine p_block ?_ | refine t_skip ?_)
  refine t_drawO 9 (by kernel_rfl) rfl ?_
  refine fk_val (Only.refl _) (fun wF hR => v_move rfl) ?_
  first | refine fk_val (Only.refl _) (fun wF hR => v_nilCheck rfl) ?_ | refine fk_val (Only.refl _) (fun wF hR => v_nilCheck_iface rfl) ?_
  refine fk_val (Only.refl _) (fun wF hR => v_fieldAddr rfl (fo rfl)) ?_
  refine fk_val Only.refl' (fun wF hR => v_load1 rfl sc77 ((hB.only hR (by simp)).cell _ rfl)) ?_
  refine fk_val (Only.refl _) (fun wF hR => v_move rfl) ?_
  first | refine fk_val (Only.refl _) (fun wF hR => v_nilCheck rfl) ?_ | refine fk_val (Only.refl _) (fun wF hR => v_nilCheck_iface rfl) ?_
  refine fk_val (Only.refl _) (fun wF hR => v_fieldAddr rfl (fo rfl)) ?_
  refine fk_val (Only.refl _) (fun wF hR => v_load1 rfl (sc rfl) (by first | exact (hB.only hR (by simp)).cell _ rfl | assumption)) ?_
  refine fk_val (Only.refl _) (fun wF hR => v_move rfl) ?_
  refine fk_nil (fun w1 hw1 => ?_)
  have hs1 := hw1.size
  refine s_op (o_call rfl (en rfl) (c65 H hH (.func f us vs) A c secret [99, 32, 104, 115, 32, 116, 114, 97, 102, 102, 105, 99] msgs T w1 (hm.pure hw1) (hr.pure hw1) hc hl (by decide) (hT.pure hw1) hn (hK.only hw1 (by simp)) (by omega))) rfl rfl ?_
  rintro v2 w2 hw2 ⟨hv2, hf2⟩
  refine s_val (v_assign rfl) rfl ?_
  repeat (first | refine t_seq ?_ | refine t_region ?_ | refine s_nil ?_ | refine p_then ?_ | refine t_ret ?_ | refine p_then_ret ?_ | refine p_block_ret ?_ | refine t_block ?_ | refine t_exit ?_ | refine p_then_exit ?_ | refine p_block_exit ?_ | refine p_block ?_ | refine t_skip ?_)
  exact ret1 rfl rfl ⟨_, rfl, hw1.trans hw2, hv2, hf2.mono hs1⟩

/-- a secret -/
theorem c47 (H : HK) (hH : H.ok) (e : Nat) (secret msgs : Bytes) (T : Value) (w : World) (hS : SecAt 89 H w e secret) (hl : secret.length ≤ 60000) (hT : TrAt H w T msgs) (hn : msgs.length ≤ 200000) (hK : KT w) (hw0 : 0 < w.heap.size) :
    Calls Tryz.prog 47 #[pt e 0, T] w (Ret [] w (Fresh w (derive H secret [115, 32, 104, 115, 32, 116, 114, 97, 102, 102, 105, 99] msgs))) := by
  obtain ⟨A, c, f, us, vs, hB, hc, hr, hni, hm⟩ := hS
  refine enter (Γ := [(0, .ex (pt e 0)), (1, .ex T)]) Tryz.func47 rfl rfl rfl ⟨⟨_, rfl, rfl⟩, ⟨_, rfl, rfl⟩, trivial⟩ ?_
  repeat (first | refine t_seq ?_ | refine t_region ?_ | refine s_nil ?_ | refine p_then ?_ | refine t_ret ?_ | refine p_then_ret ?_ | refine p_block_ret ?_ | refine t_block ?_ | refine t_exit ?_ | refine p_then_exit ?_ | refine p_block_exit ?_ | refine p_block ?_ | refine t_skip ?_)
  refine s_val (v_assign rfl) rfl ?_
  repeat (first | refine t_seq ?_ | refine t_region ?_ | refine s_nil ?_ | refine p_then ?_ | refine t_ret ?_ | refine p_then_ret ?_ | refine p_block_ret ?_ | refine t_block ?_ | refine t_exit ?_ | refine p_then_exit ?_ | refine p_block_exit ?_ | refine p_block ?_ | refine t_skip ?_)
  refine t_drawO 9 (by kernel_rfl) rfl ?_
  refine fk_val (Only.refl _) (fun wF hR => v_move rfl) ?_
  first | refine fk_val (Only.refl _) (fun wF hR => v_nilCheck rfl) ?_ | refine fk_val (Only.refl _) (fun wF hR => v_nilCheck_iface rfl) ?_
  refine fk_val (Only.refl _) (fun wF hR => v_fieldAddr rfl (fo rfl)) ?_
  refine fk_val Only.refl' (fun wF hR => v_load1 rfl sc77 ((hB.only hR (by simp)).cell _ rfl)) ?_
  refine fk_val (Only.refl _) (fun wF hR => v_move rfl) ?_
  first | refine fk_val (Only.refl _) (fun wF hR => v_nilCheck rfl) ?_ | refine fk_val (Only.refl _) (fun wF hR => v_nilCheck_iface rfl) ?_
  refine fk_val (Only.refl _) (fun wF hR => v_fieldAddr rfl (fo rfl)) ?_
  refine fk_val (Only.refl _) (fun wF hR => v_load1 rfl (sc rfl) (by first | exact (hB.only hR (by simp)).cell _ rfl | assumption)) ?_
  refine fk_val (Only.refl _) (fun wF hR => v_move rfl) ?_
  refine fk_nil (fun w1 hw1 => ?_)
  have hs1 := hw1.size
  refine s_op (o_call rfl (en rfl) (c65 H hH (.func f us vs) A c secret [115, 32, 104, 115, 32, 116, 114, 97, 102, 102, 105, 99] msgs T w1 (hm.pure hw1) (hr.pure hw1) hc hl (by decide) (hT.pure hw1) hn (hK.only hw1 (by simp)) (by omega))) rfl rfl ?_
  rintro v2 w2 hw2 ⟨hv2, hf2⟩
  refine s_val (v_assign rfl) rfl ?_
  repeat (first | refine t_seq ?_ | refine t_region ?_ | refine s_nil ?_ | refine p_then ?_ | refine t_ret ?_ | refine p_then_ret ?_ | refine p_block_ret ?_ | refine t_block ?_ | refine t_exit ?_ | refine p_then_exit ?_ | refine p_block_exit ?_ | refine p_block ?_ | refine t_skip ?_)
  exact ret1 rfl rfl ⟨_, rfl, hw1.trans hw2, hv2, hf2.mono hs1⟩

/-- a secret -/
theorem c49 (H : HK) (hH : H.ok) (e : Nat) (secret msgs : Bytes) (T : Value) (w : World) (hS : SecAt 91 H w e secret) (hl : secret.length ≤ 60000) (hT : TrAt H w T msgs) (hn : msgs.length ≤ 200000) (hK : KT w) (hw0 : 0 < w.heap.size) :
    Calls Tryz.prog 49 #[pt e 0, T] w (Ret [] w (Fresh w (derive H secret [99, 32, 97, 112, 32, 116, 114, 97, 102, 102, 105, 99] msgs))) := by
  obtain ⟨A, c, f, us, vs, hB, hc, hr, hni, hm⟩ := hS
  refine enter (Γ := [(0, .ex (pt e 0)), (1, .ex T)]) Tryz.func49 rfl rfl rfl ⟨⟨_, rfl, rfl⟩, ⟨_, rfl, rfl⟩, trivial⟩ ?_
  repeat (first | refine t_seq ?_ | refine t_region ?_ | refine s_nil ?_ | refine p_then ?_ | refine t_ret ?_ | refine p_then_ret ?_ | refine p_block_ret ?_ | refine t_block ?_ | refine t_exit ?_ | refine p_then_exit ?_ | refine p_block_exit ?_ | refine p_block ?_ | refine t_skip ?_)
  refine s_val (v_assign rfl) rfl ?_
  repeat (first | refine t_seq ?_ | refine t_region ?_ | refine s_nil ?_ | refine p_then ?_ | refine t_ret ?_ | refine p_then_ret ?_ | refine p_block_ret ?_ | refine t_block ?_ | refine t_exit ?_ | refine p_then_exit ?_ | refine p_block_exit ?_ | refine p_block ?_ | refine t_skip ?_)
  refine t_drawO 9 (by kernel_rfl) rfl ?_
  refine fk_val (Only.refl _) (fun wF hR => v_move rfl) ?_
  first | refine fk_val (Only.refl _) (fun wF hR => v_nilCheck rfl) ?_ | refine fk_val (Only.refl _) (fun wF hR => v_nilCheck_iface rfl) ?_
  refine fk_val (Only.refl _) (fun wF hR => v_fieldAddr rfl (fo rfl)) ?_
  refine fk_val Only.refl' (fun wF hR => v_load1 rfl sc77 ((hB.only hR (by simp)).cell _ rfl)) ?_
  refine fk_val (Only.refl _) (fun wF hR => v_move rfl) ?_
  first | refine fk_val (Only.refl _) (fun wF hR => v_nilCheck rfl) ?_ | refine fk_val (Only.refl _) (fun wF hR => v_nilCheck_iface rfl) ?_
  refine fk_val (Only.refl _) (fun wF hR => v_fieldAddr rfl (fo rfl)) ?_
  refine fk_val (Only.refl _) (fun wF hR => v_load1 rfl (sc rfl) (by first | exact (hB.only hR (by simp)).cell _ rfl | assumption)) ?_
  refine fk_val (Only.refl _) (fun wF hR => v_move rfl) ?_
  refine fk_nil (fun w1 hw1 => ?_)
  have hs1 := hw1.size
  refine s_op (o_call rfl (en rfl) (c65 H hH (.func f us vs) A c secret [99, 32, 97, 112, 32, 116, 114, 97, 102, 102, 105, 99] msgs T w1 (hm.pure hw1) (hr.pure hw1) hc hl (by decide) (hT.pure hw1) hn (hK.only hw1 (by simp)) (by omega))) rfl rfl ?_
  rintro v2 w2 hw2 ⟨hv2, hf2⟩
  refine s_val (v_assign rfl) rfl ?_
  repeat (first | refine t_seq ?_ | refine t_region ?_ | refine s_nil ?_ | refine p_then ?_ | refine t_ret ?_ | refine p_then_ret ?_ | refine p_block_ret ?_ | refine t_block ?_ | refine t_exit ?_ | refine p_then_exit ?_ | refine p_block_exit ?_ | refine p_block ?_ | refine t_skip ?_)
  exact ret1 rfl rfl ⟨_, rfl, hw1.trans hw2, hv2, hf2.mono hs1⟩

/-- a secret -/
theorem c50 (H : HK) (hH : H.ok) (e : Nat) (secret msgs : Bytes) (T : Value) (w : World) (hS : SecAt 91 H w e secret) (hl : secret.length ≤ 60000) (hT : TrAt H w T msgs) (hn : msgs.length ≤ 200000) (hK : KT w) (hw0 : 0 < w.heap.size) :
    Calls Tryz.prog 50 #[pt e 0, T] w (Ret [] w (Fresh w (derive H secret [115, 32, 97, 112, 32, 116, 114, 97, 102, 102, 105, 99] msgs))) := by
  obtain ⟨A, c, f, us, vs, hB, hc, hr, hni, hm⟩ := hS
  refine enter (Γ := [(0, .ex (pt e 0)), (1, .ex T)]) Tryz.func50 rfl rfl rfl ⟨⟨_, rfl, rfl⟩, ⟨_, rfl, rfl⟩, trivial⟩ ?_
  repeat (first | refine t_seq ?_ | refine t_region ?_ | refine s_nil ?_ | refine p_then ?_ | refine t_ret ?_ | refine p_then_ret ?_ | refine p_block_ret ?_ | refine t_block ?_ | refine t_exit ?_ | refine p_then_exit ?_ | refine p_block_exit ?_ | refine p_block ?_ | refine t_skip ?_)
  refine s_val (v_assign rfl) rfl ?_
  repeat (first | refine t_seq ?_ | refine t_region ?_ | refine s_nil ?_ | refine p_then ?_ | refine t_ret ?_ | refine p_then_ret ?_ | refine p_block_ret ?_ | refine t_block ?_ | refine t_exit ?_ | refine p_then_exit ?_ | refine p_block_exit ?_ | refine p_block ?_ | refine t_skip ?_)
  refine t_drawO 9 (by kernel_rfl) rfl ?_
  refine fk_val (Only.refl _) (fun wF hR => v_move rfl) ?_
  first | refine fk_val (Only.refl _) (fun wF hR => v_nilCheck rfl) ?_ | refine fk_val (Only.refl _) (fun wF hR => v_nilCheck_iface rfl) ?_
  refine fk_val (Only.refl _) (fun wF hR => v_fieldAddr rfl (fo rfl)) ?_
  refine fk_val Only.refl' (fun wF hR => v_load1 rfl sc77 ((hB.only hR (by simp)).cell _ rfl)) ?_
  refine fk_val (Only.refl _) (fun wF hR => v_move rfl) ?_
  first | refine fk_val (Only.refl _) (fun wF hR => v_nilCheck rfl) ?_ | refine fk_val (Only.refl _) (fun wF hR => v_nilCheck_iface rfl) ?_
  refine fk_val (Only.refl _) (fun wF hR => v_fieldAddr rfl (fo rfl)) ?_
  refine fk_val (Only.refl _) (fun wF hR => v_load1 rfl (sc rfl) (by first | exact (hB.only hR (by simp)).cell _ rfl | assumption)) ?_
  refine fk_val (Only.refl _) (fun wF hR => v_move rfl) ?_
  refine fk_nil (fun w1 hw1 => ?_)
  have hs1 := hw1.size
  refine s_op (o_call rfl (en rfl) (c65 H hH (.func f us vs) A c secret [115, 32, 97, 112, 32, 116, 114, 97, 102, 102, 105, 99] msgs T w1 (hm.pure hw1) (hr.pure hw1) hc hl (by decide) (hT.pure hw1) hn (hK.only hw1 (by simp)) (by omega))) rfl rfl ?_
  rintro v2 w2 hw2 ⟨hv2, hf2⟩
  refine s_val (v_assign rfl) rfl ?_
  repeat (first | refine t_seq ?_ | refine t_region ?_ | refine s_nil ?_ | refine p_then ?_ | refine t_ret ?_ | refine p_then_ret ?_ | refine p_block_ret ?_ | refine t_block ?_ | refine t_exit ?_ | refine p_then_exit ?_ | refine p_block_exit ?_ | refine p_block ?_ | refine t_skip ?_)
  exact ret1 rfl rfl ⟨_, rfl, hw1.trans hw2, hv2, hf2.mono hs1⟩

/-- a secret -/
theorem c57 (H : HK) (hH : H.ok) (e : Nat) (secret msgs : Bytes) (T : Value) (w : World) (hS : SecAt 91 H w e secret) (hl : secret.length ≤ 60000) (hT : TrAt H w T msgs) (hn : msgs.length ≤ 200000) (hK : KT w) (hw0 : 0 < w.heap.size) :
    Calls Tryz.prog 57 #[pt e 0, T] w (Ret [] w (Fresh w (derive H secret [114, 101, 115, 32, 109, 97, 115, 116, 101, 114] msgs))) := by
  obtain ⟨A, c, f, us, vs, hB, hc, hr, hni, hm⟩ := hS
  refine enter (Γ := [(0, .ex (pt e 0)), (1, .ex T)]) Tryz.func57 rfl rfl rfl ⟨⟨_, rfl, rfl⟩, ⟨_, rfl, rfl⟩, trivial⟩ ?_
  repeat (first | refine t_seq ?_ | refine t_region ?_ | refine s_nil ?_ | refine p_then ?_ | refine t_ret ?_ | refine p_then_ret ?_ | refine p_block_ret ?_ | refine t_block ?_ | refine t_exit ?_ | refine p_then_exit ?_ | refine p_block_exit ?_ | refine p_block ?_ | refine t_skip ?_)
  refine s_val (v_assign rfl) rfl ?_
  repeat (first | refine t_seq ?_ | refine t_region ?_ | refine s_nil ?_ | refine p_then ?_ | refine t_ret ?_ | refine p_then_ret ?_ | refine p_block_ret ?_ | refine t_block ?_ | refine t_exit ?_ | refine p_then_exit ?_ | refine p_block_exit ?_ | refine p_block ?_ | refine t_skip ?_)
  refine t_drawO 9 (by kernel_rfl) rfl ?_
  refine fk_val (Only.refl _) (fun wF hR => v_move rfl) ?_
  first | refine fk_val (Only.refl _) (fun wF hR => v_nilCheck rfl) ?_ | refine fk_val (Only.refl _) (fun wF hR => v_nilCheck_iface rfl) ?_
  refine fk_val (Only.refl _) (fun wF hR => v_fieldAddr rfl (fo rfl)) ?_
  refine fk_val Only.refl' (fun wF hR => v_load1 rfl sc77 ((hB.only hR (by simp)).cell _ rfl)) ?_
  refine fk_val (Only.refl _) (fun wF hR => v_move rfl) ?_
  first | refine fk_val (Only.refl _) (fun wF hR => v_nilCheck rfl) ?_ | refine fk_val (Only.refl _) (fun wF hR => v_nilCheck_iface rfl) ?_
  refine fk_val (Only.refl _) (fun wF hR => v_fieldAddr rfl (fo rfl)) ?_
  refine fk_val (Only.refl _) (fun wF hR => v_load1 rfl (sc rfl) (by first | exact (hB.only hR (by simp)).cell _ rfl | assumption)) ?_
  refine fk_val (Only.refl _) (fun wF hR => v_move rfl) ?_
  refine fk_nil (fun w1 hw1 => ?_)
  have hs1 := hw1.size
  refine s_op (o_call rfl (en rfl) (c65 H hH (.func f us vs) A c secret [114, 101, 115, 32, 109, 97, 115, 116, 101, 114] msgs T w1 (hm.pure hw1) (hr.pure hw1) hc hl (by decide) (hT.pure hw1) hn (hK.only hw1 (by simp)) (by omega))) rfl rfl ?_
  rintro v2 w2 hw2 ⟨hv2, hf2⟩
  refine s_val (v_assign rfl) rfl ?_
  repeat (first | refine t_seq ?_ | refine t_region ?_ | refine s_nil ?_ | refine p_then ?_ | refine t_ret ?_ | refine p_then_ret ?_ | refine p_block_ret ?_ | refine t_block ?_ | refine t_exit ?_ | refine p_then_exit ?_ | refine p_block_exit ?_ | refine p_block ?_ | refine t_skip ?_)
  exact ret1 rfl rfl ⟨_, rfl, hw1.trans hw2, hv2, hf2.mono hs1⟩

/-- an exporter master secret -/
theorem c39 (H : HK) (hH : H.ok) (e : Nat) (secret msgs : Bytes) (T : Value) (w : World) (hS : SecAt 79 H w e secret) (hl : secret.length ≤ 60000) (hT : TrAt H w T msgs) (hn : msgs.length ≤ 200000) (hK : KT w) (hw0 : 0 < w.heap.size) :
    Calls Tryz.prog 39 #[pt e 0, T] w (Ret [] w (SecPt 84 H (derive H secret [101, 32, 101, 120, 112, 32, 109, 97, 115, 116, 101, 114] msgs))) := by
  obtain ⟨A, c, f, us, vs, hB, hc, hr, hni, hm⟩ := hS
  refine enter (Γ := [(0, .ex (pt e 0)), (1, .ex T)]) Tryz.func39 rfl rfl rfl ⟨⟨_, rfl, rfl⟩, ⟨_, rfl, rfl⟩, trivial⟩ ?_
  repeat (first | refine t_seq ?_ | refine t_region ?_ | refine s_nil ?_ | refine p_then ?_ | refine t_ret ?_ | refine p_then_ret ?_ | refine p_block_ret ?_ | refine t_block ?_ | refine t_exit ?_ | refine p_then_exit ?_ | refine p_block_exit ?_ | refine p_block ?_ | refine t_skip ?_)
  refine s_val (v_assign rfl) rfl ?_
  repeat (first | refine t_seq ?_ | refine t_region ?_ | refine s_nil ?_ | refine p_then ?_ | refine t_ret ?_ | refine p_then_ret ?_ | refine p_block_ret ?_ | refine t_block ?_ | refine t_exit ?_ | refine p_then_exit ?_ | refine p_block_exit ?_ | refine p_block ?_ | refine t_skip ?_)
  refine t_drawO 14 (by kernel_rfl) rfl ?_
  refine fk_val (Only.refl _) (fun wF hR => v_move rfl) ?_
  first | refine fk_val (Only.refl _) (fun wF hR => v_nilCheck rfl) ?_ | refine fk_val (Only.refl _) (fun wF hR => v_nilCheck_iface rfl) ?_
  refine fk_val (Only.refl _) (fun wF hR => v_fieldAddr rfl (fo rfl)) ?_
  refine fk_val Only.refl' (fun wF hR => v_load1 rfl sc77 ((hB.only hR (by simp)).cell _ rfl)) ?_
  refine fk_val (Only.refl _) (fun wF hR => v_move rfl) ?_
  first | refine fk_val (Only.refl _) (fun wF hR => v_nilCheck rfl) ?_ | refine fk_val (Only.refl _) (fun wF hR => v_nilCheck_iface rfl) ?_
  refine fk_val (Only.refl _) (fun wF hR => v_fieldAddr rfl (fo rfl)) ?_
  refine fk_val (Only.refl _) (fun wF hR => v_load1 rfl (sc rfl) (by first | exact (hB.only hR (by simp)).cell _ rfl | assumption)) ?_
  refine fk_val (Only.refl _) (fun wF hR => v_move rfl) ?_
  refine fk_op (st_fresh (b := w.heap.size) (l := derive H secret [101, 32, 101, 120, 112, 32, 109, 97, 115, 116, 101, 114] msgs)) (fun w1 hw1 => opAt_mono (o_call rfl (en rfl) (c65 H hH (.func f us vs) A c secret [101, 32, 101, 120, 112, 32, 109, 97, 115, 116, 101, 114] msgs T w1 (hm.pure hw1) (hr.pure hw1) hc hl (by decide) (hT.pure hw1) hn (hK.only hw1 (by simp)) (by have := hw1.size; omega))) (fun _ h => h) (fun _ _ _ h => ⟨h.1, h.2.mono hw1.size⟩)) ?_
  refine fk_val (Only.refl _) (fun wF hR => v_move rfl) ?_
  first | refine fk_val (Only.refl _) (fun wF hR => v_nilCheck rfl) ?_ | refine fk_val (Only.refl _) (fun wF hR => v_nilCheck_iface rfl) ?_
  refine fk_val (Only.refl _) (fun wF hR => v_fieldAddr rfl (fo rfl)) ?_
  refine fk_val Only.refl' (fun wF hR => v_load1 rfl sc77 ((hB.only hR (by simp)).cell _ rfl)) ?_
  refine fk_nil (fun w1 hw1 => ?_)
  refine x_open 14 rfl (fun v ⟨hv, _⟩ => ?_)
  obtain ⟨A1, c1, rfl, hc1, hr1, _⟩ := hv.slice
  refine x_weak [(14, .ex (.slice A1 (derive H secret [101, 32, 101, 120, 112, 32, 109, 97, 115, 116, 101, 114] msgs).length c1)), (18, .ex (.func f us vs))] ⟨rfl, rfl, trivial⟩ ?_
  have hdl : (derive H secret [101, 32, 101, 120, 112, 32, 109, 97, 115, 116, 101, 114] msgs).length = H.size := expand_length hH _ _ _
  have hsp := HK.size_pos hH
  refine s_val (v_build rfl (bv84 _ _ _ _ _ _)) rfl ?_
  refine s_op (o_box rfl) rfl rfl ?_
  rintro _ w2 hw2 ⟨rfl, hB2⟩
  refine s_val (v_assign rfl) rfl ?_
  repeat (first | refine t_seq ?_ | refine t_region ?_ | refine s_nil ?_ | refine p_then ?_ | refine t_ret ?_ | refine p_then_ret ?_ | refine p_block_ret ?_ | refine t_block ?_ | refine t_exit ?_ | refine p_then_exit ?_ | refine p_block_exit ?_ | refine p_block ?_ | refine t_skip ?_)
  exact ret1 rfl rfl ⟨_, rfl, hw1.trans hw2, w1.heap.size, rfl, A1, c1, f, us, vs, hB2, hc1, hr1.pure hw2, fun e => by rw [e] at hdl; simp at hdl; omega, (hm.pure hw1).pure hw2⟩

/-- an exporter master secret -/
theorem c56 (H : HK) (hH : H.ok) (e : Nat) (secret msgs : Bytes) (T : Value) (w : World) (hS : SecAt 91 H w e secret) (hl : secret.length ≤ 60000) (hT : TrAt H w T msgs) (hn : msgs.length ≤ 200000) (hK : KT w) (hw0 : 0 < w.heap.size) :
    Calls Tryz.prog 56 #[pt e 0, T] w (Ret [] w (SecPt 84 H (derive H secret [101, 120, 112, 32, 109, 97, 115, 116, 101, 114] msgs))) := by
  obtain ⟨A, c, f, us, vs, hB, hc, hr, hni, hm⟩ := hS
  refine enter (Γ := [(0, .ex (pt e 0)), (1, .ex T)]) Tryz.func56 rfl rfl rfl ⟨⟨_, rfl, rfl⟩, ⟨_, rfl, rfl⟩, trivial⟩ ?_
  repeat (first | refine t_seq ?_ | refine t_region ?_ | refine s_nil ?_ | refine p_then ?_ | refine t_ret ?_ | refine p_then_ret ?_ | refine p_block_ret ?_ | refine t_block ?_ | refine t_exit ?_ | refine p_then_exit ?_ | refine p_block_exit ?_ | refine p_block ?_ | refine t_skip ?_)
  refine s_val (v_assign rfl) rfl ?_
  repeat (first | refine t_seq ?_ | refine t_region ?_ | refine s_nil ?_ | refine p_then ?_ | refine t_ret ?_ | refine p_then_ret ?_ | refine p_block_ret ?_ | refine t_block ?_ | refine t_exit ?_ | refine p_then_exit ?_ | refine p_block_exit ?_ | refine p_block ?_ | refine t_skip ?_)
  refine t_drawO 14 (by kernel_rfl) rfl ?_
  refine fk_val (Only.refl _) (fun wF hR => v_move rfl) ?_
  first | refine fk_val (Only.refl _) (fun wF hR => v_nilCheck rfl) ?_ | refine fk_val (Only.refl _) (fun wF hR => v_nilCheck_iface rfl) ?_
  refine fk_val (Only.refl _) (fun wF hR => v_fieldAddr rfl (fo rfl)) ?_
  refine fk_val Only.refl' (fun wF hR => v_load1 rfl sc77 ((hB.only hR (by simp)).cell _ rfl)) ?_
  refine fk_val (Only.refl _) (fun wF hR => v_move rfl) ?_
  first | refine fk_val (Only.refl _) (fun wF hR => v_nilCheck rfl) ?_ | refine fk_val (Only.refl _) (fun wF hR => v_nilCheck_iface rfl) ?_
  refine fk_val (Only.refl _) (fun wF hR => v_fieldAddr rfl (fo rfl)) ?_
  refine fk_val (Only.refl _) (fun wF hR => v_load1 rfl (sc rfl) (by first | exact (hB.only hR (by simp)).cell _ rfl | assumption)) ?_
  refine fk_val (Only.refl _) (fun wF hR => v_move rfl) ?_
  refine fk_op (st_fresh (b := w.heap.size) (l := derive H secret [101, 120, 112, 32, 109, 97, 115, 116, 101, 114] msgs)) (fun w1 hw1 => opAt_mono (o_call rfl (en rfl) (c65 H hH (.func f us vs) A c secret [101, 120, 112, 32, 109, 97, 115, 116, 101, 114] msgs T w1 (hm.pure hw1) (hr.pure hw1) hc hl (by decide) (hT.pure hw1) hn (hK.only hw1 (by simp)) (by have := hw1.size; omega))) (fun _ h => h) (fun _ _ _ h => ⟨h.1, h.2.mono hw1.size⟩)) ?_
  refine fk_val (Only.refl _) (fun wF hR => v_move rfl) ?_
  first | refine fk_val (Only.refl _) (fun wF hR => v_nilCheck rfl) ?_ | refine fk_val (Only.refl _) (fun wF hR => v_nilCheck_iface rfl) ?_
  refine fk_val (Only.refl _) (fun wF hR => v_fieldAddr rfl (fo rfl)) ?_
  refine fk_val Only.refl' (fun wF hR => v_load1 rfl sc77 ((hB.only hR (by simp)).cell _ rfl)) ?_
  refine fk_nil (fun w1 hw1 => ?_)
  refine x_open 14 rfl (fun v ⟨hv, _⟩ => ?_)
  obtain ⟨A1, c1, rfl, hc1, hr1, _⟩ := hv.slice
  refine x_weak [(14, .ex (.slice A1 (derive H secret [101, 120, 112, 32, 109, 97, 115, 116, 101, 114] msgs).length c1)), (18, .ex (.func f us vs))] ⟨rfl, rfl, trivial⟩ ?_
  have hdl : (derive H secret [101, 120, 112, 32, 109, 97, 115, 116, 101, 114] msgs).length = H.size := expand_length hH _ _ _
  have hsp := HK.size_pos hH
  refine s_val (v_build rfl (bv84 _ _ _ _ _ _)) rfl ?_
  refine s_op (o_box rfl) rfl rfl ?_
  rintro _ w2 hw2 ⟨rfl, hB2⟩
  refine s_val (v_assign rfl) rfl ?_
  repeat (first | refine t_seq ?_ | refine t_region ?_ | refine s_nil ?_ | refine p_then ?_ | refine t_ret ?_ | refine p_then_ret ?_ | refine p_block_ret ?_ | refine t_block ?_ | refine t_exit ?_ | refine p_then_exit ?_ | refine p_block_exit ?_ | refine p_block ?_ | refine t_skip ?_)
  exact ret1 rfl rfl ⟨_, rfl, hw1.trans hw2, w1.heap.size, rfl, A1, c1, f, us, vs, hB2, hc1, hr1.pure hw2, fun e => by rw [e] at hdl; simp at hdl; omega, (hm.pure hw1).pure hw2⟩

/-- ResumptionBinderKey -/
theorem c42 (H : HK) (hH : H.ok) (e : Nat) (secret : Bytes) (w : World) (hS : SecAt 79 H w e secret) (hl : secret.length ≤ 60000) (hK : KT w) (hw0 : 0 < w.heap.size) :
    Calls Tryz.prog 42 #[pt e 0] w (Ret [] w (Fresh w (derive H secret [114, 101, 115, 32, 98, 105, 110, 100, 101, 114] []))) := by
  obtain ⟨A, c, f, us, vs, hB, hc, hr, hni, hm⟩ := hS
  refine enter (Γ := [(0, .ex (pt e 0))]) Tryz.func42 rfl rfl rfl ⟨⟨_, rfl, rfl⟩, trivial⟩ ?_
  repeat (first | refine t_seq ?_ | refine t_region ?_ | refine s_nil ?_ | refine p_then ?_ | refine t_ret ?_ | refine p_then_ret ?_ | refine p_block_ret ?_ | refine t_block ?_ | refine t_exit ?_ | refine p_then_exit ?_ | refine p_block_exit ?_ | refine p_block ?_ | refine t_skip ?_)
  refine s_val (v_assign rfl) rfl ?_
  repeat (first | refine t_seq ?_ | refine t_region ?_ | refine s_nil ?_ | refine p_then ?_ | refine t_ret ?_ | refine p_then_ret ?_ | refine p_block_ret ?_ | refine t_block ?_ | refine t_exit ?_ | refine p_then_exit ?_ | refine p_block_exit ?_ | refine p_block ?_ | refine t_skip ?_)
  refine t_drawO 8 (by kernel_rfl) rfl ?_
  refine fk_val (Only.refl _) (fun wF hR => v_move rfl) ?_
  first | refine fk_val (Only.refl _) (fun wF hR => v_nilCheck rfl) ?_ | refine fk_val (Only.refl _) (fun wF hR => v_nilCheck_iface rfl) ?_
  refine fk_val (Only.refl _) (fun wF hR => v_fieldAddr rfl (fo rfl)) ?_
  refine fk_val Only.refl' (fun wF hR => v_load1 rfl sc77 ((hB.only hR (by simp)).cell _ rfl)) ?_
  refine fk_val (Only.refl _) (fun wF hR => v_move rfl) ?_
  first | refine fk_val (Only.refl _) (fun wF hR => v_nilCheck rfl) ?_ | refine fk_val (Only.refl _) (fun wF hR => v_nilCheck_iface rfl) ?_
  refine fk_val (Only.refl _) (fun wF hR => v_fieldAddr rfl (fo rfl)) ?_
  refine fk_val (Only.refl _) (fun wF hR => v_load1 rfl (sc rfl) (by first | exact (hB.only hR (by simp)).cell _ rfl | assumption)) ?_
  refine fk_nil (fun w1 hw1 => ?_)
  have hs1 := hw1.size
  refine s_op (o_call rfl (en rfl) (c65 H hH (.func f us vs) A c secret [114, 101, 115, 32, 98, 105, 110, 100, 101, 114] [] .nilIface w1 (hm.pure hw1) (hr.pure hw1) hc hl (by decide) (.inl ⟨rfl, rfl⟩) (by simp) (hK.only hw1 (by simp)) (by omega))) rfl rfl ?_
  rintro v2 w2 hw2 ⟨hv2, hf2⟩
  refine s_val (v_assign rfl) rfl ?_
  repeat (first | refine t_seq ?_ | refine t_region ?_ | refine s_nil ?_ | refine p_then ?_ | refine t_ret ?_ | refine p_then_ret ?_ | refine p_block_ret ?_ | refine t_block ?_ | refine t_exit ?_ | refine p_then_exit ?_ | refine p_block_exit ?_ | refine p_block ?_ | refine t_skip ?_)
  exact ret1 rfl rfl ⟨_, rfl, hw1.trans hw2, hv2, hf2.mono hs1⟩

end Go.Proofs.YtnaefgnjdmmmcaaGreatDoor
/- tls13's key schedule in the program: its stages; the exporter. -/
namespace Go.Proofs.YtnaefgnjdmmmcaaGreatDoor
open Go.RowKit
attribute [local irreducible] ValAt OpAt RunX Tr Post FlowK

theorem derive_length {H : HK} (hH : H.ok) (s l m : Bytes) : (derive H s l m).length = H.size := expand_length hH _ _ _
theorem extract_length (H : HK) (s t : Bytes) : (extract H s t).length = H.size := mac_length _ _ _
theorem ne_nil_of {H : HK} (hH : H.ok) {l : Bytes} (h : l.length = H.size) : l ≠ [] := by
  have := HK.size_pos hH
  rintro rfl; simp at h; omega

theorem Mk.func {H : HK} {h : Value} (hm : Mk H h) : ∃ f us vs, h = .func f us vs := by
  cases H with
  | sha => exact ⟨_, _, _, hm⟩
  | own s b => obtain ⟨_, _, _, e, _⟩ := hm; exact ⟨_, _, _, e⟩
/-- NewEarlySecret -/
theorem c63  (hH : HK.sha.ok) (h : Value) (A : Option Addr) (c : Nat) (psk : Bytes) (w : World) (hm : Mk HK.sha h) (hp : Rd w A psk) (hc : psk.length ≤ c) (hl : psk.length ≤ 20000) (hnil : psk = [] → A = none) (hK : KT w) (hw0 : 0 < w.heap.size) :
    Calls Tryz.prog 63 #[h, .slice A psk.length c] w (Ret [] w (SecPt 79 HK.sha (early HK.sha psk))) := by
  refine enter (Γ := [(0, .ex h), (1, .ex (.slice A psk.length c))]) Tryz.func63 rfl rfl rfl ⟨⟨_, rfl, rfl⟩, ⟨_, rfl, rfl⟩, trivial⟩ ?_
  repeat (first | refine t_seq ?_ | refine t_region ?_ | refine s_nil ?_ | refine p_then ?_ | refine t_ret ?_ | refine p_then_ret ?_ | refine p_block_ret ?_ | refine t_block ?_ | refine t_exit ?_ | refine p_then_exit ?_ | refine p_block_exit ?_ | refine p_block ?_ | refine t_skip ?_)
  refine s_op (o_box rfl) rfl rfl ?_
  rintro _ w1 hw1 ⟨rfl, hB1⟩
  refine s_val (v_assign rfl) rfl ?_
  have hcell : w1.cell? ⟨w.heap.size, 0, none⟩ = some h := by
    have := hm
    obtain ⟨f, us, vs, rfl⟩ : ∃ f us vs, h = .func f us vs := hm.func
    exact hB1.cell _ rfl
  have hBu : Blk w1 w.heap.size 65 #[h] := by
    obtain ⟨f, us, vs, rfl⟩ : ∃ f us vs, h = .func f us vs := hm.func
    exact hB1
  repeat (first | refine t_seq ?_ | refine t_region ?_ | refine s_nil ?_ | refine p_then ?_ | refine t_ret ?_ | refine p_then_ret ?_ | refine p_block_ret ?_ | refine t_block ?_ | refine t_exit ?_ | refine p_then_exit ?_ | refine p_block_exit ?_ | refine p_block ?_ | refine t_skip ?_)
  refine s_val (v_load1 rfl (sc rfl) (by first | exact hcell | assumption)) rfl ?_
  refine s_val (v_move rfl) rfl ?_
  refine s_op (o_call rfl (en rfl) (c82  hH h A none c 0 psk [] w1 hm (hp.pure hw1) hc hl hnil (Rd.nil _ _) (by simp) (by simp) (fun _ => rfl) (hK.only hw1 (by simp)) (by have := hw1.size; omega))) rfl rfl ?_
  rintro v2 w2 hw2 ⟨hv2, hf2⟩
  obtain ⟨A2, c2, rfl, hc2, hr2, _⟩ := hv2.slice
  refine s_val (v_makeFunc rfl rfl) rfl ?_
  refine s_val (v_build rfl (bv79 _ _ _ _ _ _)) rfl ?_
  refine s_op (o_box rfl) rfl rfl ?_
  rintro _ w3 hw3 ⟨rfl, hB3⟩
  refine s_val (v_assign rfl) rfl ?_
  repeat (first | refine t_seq ?_ | refine t_region ?_ | refine s_nil ?_ | refine p_then ?_ | refine t_ret ?_ | refine p_then_ret ?_ | refine p_block_ret ?_ | refine t_block ?_ | refine t_exit ?_ | refine p_then_exit ?_ | refine p_block_exit ?_ | refine p_block ?_ | refine t_skip ?_)
  exact ret1 rfl rfl ⟨_, rfl, (hw1.trans hw2).trans hw3, w2.heap.size, rfl, A2, c2, _, _, _, hB3, hc2, hr2.pure hw3, fun e => absurd e (ne_nil_of hH (extract_length _ _ _)), w.heap.size, h, hm, rfl, (hBu.only hw2 (by simp)).only hw3 (by simp)⟩
/-- ZZExtract -/
theorem c69  (hH : HK.sha.ok) (h : Value) (A A' : Option Addr) (c c' : Nat) (secret salt : Bytes) (w : World) (hm : Mk HK.sha h) (hp : Rd w A secret) (hc : secret.length ≤ c) (hl : secret.length ≤ 20000) (hnil : secret = [] → A = none)
    (hp' : Rd w A' salt) (hc' : salt.length ≤ c') (hl' : salt.length ≤ 20000) (hnil' : salt = [] → A' = none) (hK : KT w) (hw0 : 0 < w.heap.size) :
    Calls Tryz.prog 69 #[h, .slice A secret.length c, .slice A' salt.length c'] w (Ret [] w (Fresh w (extract HK.sha (given HK.sha secret) salt))) := by
  refine enter (Γ := [(0, .ex h), (1, .ex (.slice A secret.length c)), (2, .ex (.slice A' salt.length c'))]) Tryz.func69 rfl rfl rfl ⟨⟨_, rfl, rfl⟩, ⟨_, rfl, rfl⟩, ⟨_, rfl, rfl⟩, trivial⟩ ?_
  repeat (first | refine t_seq ?_ | refine t_region ?_ | refine s_nil ?_ | refine p_then ?_ | refine t_ret ?_ | refine p_then_ret ?_ | refine p_block_ret ?_ | refine t_block ?_ | refine t_exit ?_ | refine p_then_exit ?_ | refine p_block_exit ?_ | refine p_block ?_ | refine t_skip ?_)
  refine s_val (v_assign rfl) rfl ?_
  repeat (first | refine t_seq ?_ | refine t_region ?_ | refine s_nil ?_ | refine p_then ?_ | refine t_ret ?_ | refine p_then_ret ?_ | refine p_block_ret ?_ | refine t_block ?_ | refine t_exit ?_ | refine p_then_exit ?_ | refine p_block_exit ?_ | refine p_block ?_ | refine t_skip ?_)
  refine s_val (v_move rfl) rfl ?_
  refine s_val (v_move rfl) rfl ?_
  refine s_val (v_move rfl) rfl ?_
  refine s_op (o_call rfl (en rfl) (c82  hH h A A' c c' secret salt w hm hp hc hl hnil hp' hc' hl' hnil' hK hw0)) rfl rfl ?_
  rintro v2 w2 hw2 ⟨hv2, hf2⟩
  refine s_val (v_assign rfl) rfl ?_
  repeat (first | refine t_seq ?_ | refine t_region ?_ | refine s_nil ?_ | refine p_then ?_ | refine t_ret ?_ | refine p_then_ret ?_ | refine p_block_ret ?_ | refine t_block ?_ | refine t_exit ?_ | refine p_then_exit ?_ | refine p_block_exit ?_ | refine p_block ?_ | refine t_skip ?_)
  exact ret1 rfl rfl ⟨_, rfl, hw2, hv2, hf2⟩
/-- NewEarlySecret -/
theorem c64 (sz bk : Nat) (hH : (HK.own sz bk).ok) (h : Value) (A : Option Addr) (c : Nat) (psk : Bytes) (w : World) (hm : Mk (HK.own sz bk) h) (hp : Rd w A psk) (hc : psk.length ≤ c) (hl : psk.length ≤ 20000) (hnil : psk = [] → A = none) (hK : KT w) (hw0 : 0 < w.heap.size) :
    Calls Tryz.prog 64 #[h, .slice A psk.length c] w (Ret [] w (SecPt 79 (HK.own sz bk) (early (HK.own sz bk) psk))) := by
  refine enter (Γ := [(0, .ex h), (1, .ex (.slice A psk.length c))]) Tryz.func64 rfl rfl rfl ⟨⟨_, rfl, rfl⟩, ⟨_, rfl, rfl⟩, trivial⟩ ?_
  repeat (first | refine t_seq ?_ | refine t_region ?_ | refine s_nil ?_ | refine p_then ?_ | refine t_ret ?_ | refine p_then_ret ?_ | refine p_block_ret ?_ | refine t_block ?_ | refine t_exit ?_ | refine p_then_exit ?_ | refine p_block_exit ?_ | refine p_block ?_ | refine t_skip ?_)
  refine s_op (o_box rfl) rfl rfl ?_
  rintro _ w1 hw1 ⟨rfl, hB1⟩
  refine s_val (v_assign rfl) rfl ?_
  have hcell : w1.cell? ⟨w.heap.size, 0, none⟩ = some h := by
    have := hm
    obtain ⟨f, us, vs, rfl⟩ : ∃ f us vs, h = .func f us vs := hm.func
    exact hB1.cell _ rfl
  have hBu : Blk w1 w.heap.size 68 #[h] := by
    obtain ⟨f, us, vs, rfl⟩ : ∃ f us vs, h = .func f us vs := hm.func
    exact hB1
  repeat (first | refine t_seq ?_ | refine t_region ?_ | refine s_nil ?_ | refine p_then ?_ | refine t_ret ?_ | refine p_then_ret ?_ | refine p_block_ret ?_ | refine t_block ?_ | refine t_exit ?_ | refine p_then_exit ?_ | refine p_block_exit ?_ | refine p_block ?_ | refine t_skip ?_)
  refine s_val (v_load1 rfl (sc rfl) (by first | exact hcell | assumption)) rfl ?_
  refine s_val (v_move rfl) rfl ?_
  refine s_op (o_call rfl (en rfl) (c84 sz bk hH h A none c 0 psk [] w1 hm (hp.pure hw1) hc hl hnil (Rd.nil _ _) (by simp) (by simp) (fun _ => rfl) (hK.only hw1 (by simp)) (by have := hw1.size; omega))) rfl rfl ?_
  rintro v2 w2 hw2 ⟨hv2, hf2⟩
  obtain ⟨A2, c2, rfl, hc2, hr2, _⟩ := hv2.slice
  refine s_val (v_makeFunc rfl rfl) rfl ?_
  refine s_val (v_build rfl (bv79 _ _ _ _ _ _)) rfl ?_
  refine s_op (o_box rfl) rfl rfl ?_
  rintro _ w3 hw3 ⟨rfl, hB3⟩
  refine s_val (v_assign rfl) rfl ?_
  repeat (first | refine t_seq ?_ | refine t_region ?_ | refine s_nil ?_ | refine p_then ?_ | refine t_ret ?_ | refine p_then_ret ?_ | refine p_block_ret ?_ | refine t_block ?_ | refine t_exit ?_ | refine p_then_exit ?_ | refine p_block_exit ?_ | refine p_block ?_ | refine t_skip ?_)
  exact ret1 rfl rfl ⟨_, rfl, (hw1.trans hw2).trans hw3, w2.heap.size, rfl, A2, c2, _, _, _, hB3, hc2, hr2.pure hw3, fun e => absurd e (ne_nil_of hH (extract_length _ _ _)), w.heap.size, h, hm, rfl, (hBu.only hw2 (by simp)).only hw3 (by simp)⟩
/-- ZZExtract -/
theorem c70 (sz bk : Nat) (hH : (HK.own sz bk).ok) (h : Value) (A A' : Option Addr) (c c' : Nat) (secret salt : Bytes) (w : World) (hm : Mk (HK.own sz bk) h) (hp : Rd w A secret) (hc : secret.length ≤ c) (hl : secret.length ≤ 20000) (hnil : secret = [] → A = none)
    (hp' : Rd w A' salt) (hc' : salt.length ≤ c') (hl' : salt.length ≤ 20000) (hnil' : salt = [] → A' = none) (hK : KT w) (hw0 : 0 < w.heap.size) :
    Calls Tryz.prog 70 #[h, .slice A secret.length c, .slice A' salt.length c'] w (Ret [] w (Fresh w (extract (HK.own sz bk) (given (HK.own sz bk) secret) salt))) := by
  refine enter (Γ := [(0, .ex h), (1, .ex (.slice A secret.length c)), (2, .ex (.slice A' salt.length c'))]) Tryz.func70 rfl rfl rfl ⟨⟨_, rfl, rfl⟩, ⟨_, rfl, rfl⟩, ⟨_, rfl, rfl⟩, trivial⟩ ?_
  repeat (first | refine t_seq ?_ | refine t_region ?_ | refine s_nil ?_ | refine p_then ?_ | refine t_ret ?_ | refine p_then_ret ?_ | refine p_block_ret ?_ | refine t_block ?_ | refine t_exit ?_ | refine p_then_exit ?_ | refine p_block_exit ?_ | refine p_block ?_ | refine t_skip ?_)
  refine s_val (v_assign rfl) rfl ?_
  repeat (first | refine t_seq ?_ | refine t_region ?_ | refine s_nil ?_ | refine p_then ?_ | refine t_ret ?_ | refine p_then_ret ?_ | refine p_block_ret ?_ | refine t_block ?_ | refine t_exit ?_ | refine p_then_exit ?_ | refine p_block_exit ?_ | refine p_block ?_ | refine t_skip ?_)
  refine s_val (v_move rfl) rfl ?_
  refine s_val (v_move rfl) rfl ?_
  refine s_val (v_move rfl) rfl ?_
  refine s_op (o_call rfl (en rfl) (c84 sz bk hH h A A' c c' secret salt w hm hp hc hl hnil hp' hc' hl' hnil' hK hw0)) rfl rfl ?_
  rintro v2 w2 hw2 ⟨hv2, hf2⟩
  refine s_val (v_assign rfl) rfl ?_
  repeat (first | refine t_seq ?_ | refine t_region ?_ | refine s_nil ?_ | refine p_then ?_ | refine t_ret ?_ | refine p_then_ret ?_ | refine p_block_ret ?_ | refine t_block ?_ | refine t_exit ?_ | refine p_then_exit ?_ | refine p_block_exit ?_ | refine p_block ?_ | refine t_skip ?_)
  exact ret1 rfl rfl ⟨_, rfl, hw2, hv2, hf2⟩

set_option maxHeartbeats 1000000 in
/-- HandshakeSecret -/
theorem c73 (H : HK) (hH : H.ok) (e : Nat) (secret shared : Bytes) (A' : Option Addr) (c' : Nat) (w : World) (hS : SecAt 79 H w e secret) (hl : secret.length ≤ 20000) (hp' : Rd w A' shared) (hc' : shared.length ≤ c') (hl' : shared.length ≤ 20000) (hnil' : shared = [] → A' = none) (hK : KT w) (hw0 : 0 < w.heap.size) :
    Calls Tryz.prog 73 #[pt e 0, .slice A' shared.length c'] w (Ret [] w (SecPt 89 H (extract H (given H shared) (derive H secret derived [])))) := by
  obtain ⟨A, c, f, us, vs, hB, hc, hr, hni, hm⟩ := hS
  have hsl := HK.size_le hH
  refine enter (Γ := [(0, .ex (pt e 0)), (1, .ex (.slice A' shared.length c'))]) Tryz.func73 rfl rfl rfl ⟨⟨_, rfl, rfl⟩, ⟨_, rfl, rfl⟩, trivial⟩ ?_
  repeat (first | refine t_seq ?_ | refine t_region ?_ | refine s_nil ?_ | refine p_then ?_ | refine t_ret ?_ | refine p_then_ret ?_ | refine p_block_ret ?_ | refine t_block ?_ | refine t_exit ?_ | refine p_then_exit ?_ | refine p_block_exit ?_ | refine p_block ?_ | refine t_skip ?_)
  refine s_val (v_assign rfl) rfl ?_
  repeat (first | refine t_seq ?_ | refine t_region ?_ | refine s_nil ?_ | refine p_then ?_ | refine t_ret ?_ | refine p_then_ret ?_ | refine p_block_ret ?_ | refine t_block ?_ | refine t_exit ?_ | refine p_then_exit ?_ | refine p_block_exit ?_ | refine p_block ?_ | refine t_skip ?_)
  refine t_drawO 8 (by kernel_rfl) rfl ?_
  refine fk_val (Only.refl _) (fun wF hR => v_move rfl) ?_
  first | refine fk_val (Only.refl _) (fun wF hR => v_nilCheck rfl) ?_ | refine fk_val (Only.refl _) (fun wF hR => v_nilCheck_iface rfl) ?_
  refine fk_val (Only.refl _) (fun wF hR => v_fieldAddr rfl (fo rfl)) ?_
  refine fk_val Only.refl' (fun wF hR => v_load1 rfl sc77 ((hB.only hR (by simp)).cell _ rfl)) ?_
  refine fk_val (Only.refl _) (fun wF hR => v_move rfl) ?_
  first | refine fk_val (Only.refl _) (fun wF hR => v_nilCheck rfl) ?_ | refine fk_val (Only.refl _) (fun wF hR => v_nilCheck_iface rfl) ?_
  refine fk_val (Only.refl _) (fun wF hR => v_fieldAddr rfl (fo rfl)) ?_
  refine fk_val (Only.refl _) (fun wF hR => v_load1 rfl (sc rfl) (by first | exact (hB.only hR (by simp)).cell _ rfl | assumption)) ?_
  refine fk_nil (fun w1 hw1 => ?_)
  have hs1 := hw1.size
  refine s_op (o_call rfl (en rfl) (c65 H hH (.func f us vs) A c secret derived [] .nilIface w1 (hm.pure hw1) (hr.pure hw1) hc (by omega) (by decide) (.inl ⟨rfl, rfl⟩) (by simp) (hK.only hw1 (by simp)) (by omega))) rfl rfl ?_
  rintro v2 w2 hw2 ⟨hv2, hf2⟩
  refine s_val (v_assign rfl) rfl ?_
  have hdl := derive_length hH secret derived []
  obtain ⟨D, hD⟩ : ∃ D, D = derive H secret derived [] := ⟨_, rfl⟩
  rw [← hD] at hv2 hdl
  rw [← hD]
  obtain ⟨A2, c2, rfl, hc2, hr2, _⟩ := hv2.slice
  have hz2 := hw1.trans hw2
  have hs2 := hw2.size
  have hB2 := hB.only hz2 (by simp)
  repeat (first | refine t_seq ?_ | refine t_region ?_ | refine s_nil ?_ | refine p_then ?_ | refine t_ret ?_ | refine p_then_ret ?_ | refine p_block_ret ?_ | refine t_block ?_ | refine t_exit ?_ | refine p_then_exit ?_ | refine p_block_exit ?_ | refine p_block ?_ | refine t_skip ?_)
  refine t_drawO 11 (by kernel_rfl) rfl ?_
  refine fk_val (Only.refl _) (fun wF hR => v_move rfl) ?_
  first | refine fk_val (Only.refl _) (fun wF hR => v_nilCheck rfl) ?_ | refine fk_val (Only.refl _) (fun wF hR => v_nilCheck_iface rfl) ?_
  refine fk_val (Only.refl _) (fun wF hR => v_fieldAddr rfl (fo rfl)) ?_
  refine fk_val Only.refl' (fun wF hR => v_load1 rfl sc77 ((hB2.only hR (by simp)).cell _ rfl)) ?_
  refine fk_val (Only.refl _) (fun wF hR => v_move rfl) ?_
  refine fk_val (Only.refl _) (fun wF hR => v_move rfl) ?_
  refine fk_op (st_fresh (b := w.heap.size) (l := extract H (given H shared) D)) (fun w3 hw3 => opAt_mono (o_call rfl (en rfl) (c74 H hH (.func f us vs) A' A2 c' c2 shared D w3 (hm.pure (hz2.trans hw3)) (hp'.pure (hz2.trans hw3)) hc' hl' hnil' (hr2.pure hw3) hc2 (by omega) (fun e => absurd e (ne_nil_of hH hdl)) (hK.only (hz2.trans hw3) (by simp)) (by have := hw3.size; omega))) (fun _ h => h) (fun _ _ _ h => ⟨h.1, h.2.mono (hz2.trans hw3).size⟩)) ?_
  refine fk_val (Only.refl _) (fun wF hR => v_move rfl) ?_
  first | refine fk_val (Only.refl _) (fun wF hR => v_nilCheck rfl) ?_ | refine fk_val (Only.refl _) (fun wF hR => v_nilCheck_iface rfl) ?_
  refine fk_val (Only.refl _) (fun wF hR => v_fieldAddr rfl (fo rfl)) ?_
  refine fk_val Only.refl' (fun wF hR => v_load1 rfl sc77 ((hB2.only hR (by simp)).cell _ rfl)) ?_
  refine fk_nil (fun w3 hw3 => ?_)
  refine x_open 21 rfl (fun v ⟨hv, _⟩ => ?_)
  obtain ⟨A3, c3, rfl, hc3, hr3, _⟩ := hv.slice
  refine x_weak [(21, .ex (.slice A3 (extract H (given H shared) D).length c3)), (25, .ex (.func f us vs))] ⟨rfl, rfl, trivial⟩ ?_
  refine s_val (v_build rfl (bv89 _ _ _ _ _ _)) rfl ?_
  refine s_op (o_box rfl) rfl rfl ?_
  rintro _ w4 hw4 ⟨rfl, hB4⟩
  refine s_val (v_assign rfl) rfl ?_
  repeat (first | refine t_seq ?_ | refine t_region ?_ | refine s_nil ?_ | refine p_then ?_ | refine t_ret ?_ | refine p_then_ret ?_ | refine p_block_ret ?_ | refine t_block ?_ | refine t_exit ?_ | refine p_then_exit ?_ | refine p_block_exit ?_ | refine p_block ?_ | refine t_skip ?_)
  exact ret1 rfl rfl ⟨_, rfl, (hz2.trans hw3).trans hw4, w3.heap.size, rfl, A3, c3, f, us, vs, hB4, hc3, hr3.pure hw4, fun e => absurd e (ne_nil_of hH (extract_length _ _ _)), (hm.pure (hz2.trans hw3)).pure hw4⟩

set_option maxHeartbeats 1000000 in
/-- MasterSecret -/
theorem c48 (H : HK) (hH : H.ok) (e : Nat) (secret : Bytes) (w : World) (hS : SecAt 89 H w e secret) (hl : secret.length ≤ 20000) (hK : KT w) (hw0 : 0 < w.heap.size) :
    Calls Tryz.prog 48 #[pt e 0] w (Ret [] w (SecPt 91 H (extract H (given H []) (derive H secret derived [])))) := by
  obtain ⟨A, c, f, us, vs, hB, hc, hr, hni, hm⟩ := hS
  have hsl := HK.size_le hH
  refine enter (Γ := [(0, .ex (pt e 0))]) Tryz.func48 rfl rfl rfl ⟨⟨_, rfl, rfl⟩, trivial⟩ ?_
  repeat (first | refine t_seq ?_ | refine t_region ?_ | refine s_nil ?_ | refine p_then ?_ | refine t_ret ?_ | refine p_then_ret ?_ | refine p_block_ret ?_ | refine t_block ?_ | refine t_exit ?_ | refine p_then_exit ?_ | refine p_block_exit ?_ | refine p_block ?_ | refine t_skip ?_)
  refine s_val (v_assign rfl) rfl ?_
  repeat (first | refine t_seq ?_ | refine t_region ?_ | refine s_nil ?_ | refine p_then ?_ | refine t_ret ?_ | refine p_then_ret ?_ | refine p_block_ret ?_ | refine t_block ?_ | refine t_exit ?_ | refine p_then_exit ?_ | refine p_block_exit ?_ | refine p_block ?_ | refine t_skip ?_)
  refine t_drawO 8 (by kernel_rfl) rfl ?_
  refine fk_val (Only.refl _) (fun wF hR => v_move rfl) ?_
  first | refine fk_val (Only.refl _) (fun wF hR => v_nilCheck rfl) ?_ | refine fk_val (Only.refl _) (fun wF hR => v_nilCheck_iface rfl) ?_
  refine fk_val (Only.refl _) (fun wF hR => v_fieldAddr rfl (fo rfl)) ?_
  refine fk_val Only.refl' (fun wF hR => v_load1 rfl sc77 ((hB.only hR (by simp)).cell _ rfl)) ?_
  refine fk_val (Only.refl _) (fun wF hR => v_move rfl) ?_
  first | refine fk_val (Only.refl _) (fun wF hR => v_nilCheck rfl) ?_ | refine fk_val (Only.refl _) (fun wF hR => v_nilCheck_iface rfl) ?_
  refine fk_val (Only.refl _) (fun wF hR => v_fieldAddr rfl (fo rfl)) ?_
  refine fk_val (Only.refl _) (fun wF hR => v_load1 rfl (sc rfl) (by first | exact (hB.only hR (by simp)).cell _ rfl | assumption)) ?_
  refine fk_nil (fun w1 hw1 => ?_)
  have hs1 := hw1.size
  refine s_op (o_call rfl (en rfl) (c65 H hH (.func f us vs) A c secret derived [] .nilIface w1 (hm.pure hw1) (hr.pure hw1) hc (by omega) (by decide) (.inl ⟨rfl, rfl⟩) (by simp) (hK.only hw1 (by simp)) (by omega))) rfl rfl ?_
  rintro v2 w2 hw2 ⟨hv2, hf2⟩
  refine s_val (v_assign rfl) rfl ?_
  have hdl := derive_length hH secret derived []
  obtain ⟨D, hD⟩ : ∃ D, D = derive H secret derived [] := ⟨_, rfl⟩
  rw [← hD] at hv2 hdl
  rw [← hD]
  obtain ⟨A2, c2, rfl, hc2, hr2, _⟩ := hv2.slice
  have hz2 := hw1.trans hw2
  have hs2 := hw2.size
  have hB2 := hB.only hz2 (by simp)
  repeat (first | refine t_seq ?_ | refine t_region ?_ | refine s_nil ?_ | refine p_then ?_ | refine t_ret ?_ | refine p_then_ret ?_ | refine p_block_ret ?_ | refine t_block ?_ | refine t_exit ?_ | refine p_then_exit ?_ | refine p_block_exit ?_ | refine p_block ?_ | refine t_skip ?_)
  refine t_drawO 10 (by kernel_rfl) rfl ?_
  refine fk_val (Only.refl _) (fun wF hR => v_move rfl) ?_
  first | refine fk_val (Only.refl _) (fun wF hR => v_nilCheck rfl) ?_ | refine fk_val (Only.refl _) (fun wF hR => v_nilCheck_iface rfl) ?_
  refine fk_val (Only.refl _) (fun wF hR => v_fieldAddr rfl (fo rfl)) ?_
  refine fk_val Only.refl' (fun wF hR => v_load1 rfl sc77 ((hB2.only hR (by simp)).cell _ rfl)) ?_
  refine fk_val (Only.refl _) (fun wF hR => v_move rfl) ?_
  refine fk_op (st_fresh (b := w.heap.size) (l := extract H (given H []) D)) (fun w3 hw3 => opAt_mono (o_call rfl (en rfl) (c74 H hH (.func f us vs) none A2 0 c2 [] D w3 (hm.pure (hz2.trans hw3)) (Rd.nil _ _) (by simp) (by simp) (fun _ => rfl) (hr2.pure hw3) hc2 (by omega) (fun e => absurd e (ne_nil_of hH hdl)) (hK.only (hz2.trans hw3) (by simp)) (by have := hw3.size; omega))) (fun _ h => h) (fun _ _ _ h => ⟨h.1, h.2.mono (hz2.trans hw3).size⟩)) ?_
  refine fk_val (Only.refl _) (fun wF hR => v_move rfl) ?_
  first | refine fk_val (Only.refl _) (fun wF hR => v_nilCheck rfl) ?_ | refine fk_val (Only.refl _) (fun wF hR => v_nilCheck_iface rfl) ?_
  refine fk_val (Only.refl _) (fun wF hR => v_fieldAddr rfl (fo rfl)) ?_
  refine fk_val Only.refl' (fun wF hR => v_load1 rfl sc77 ((hB2.only hR (by simp)).cell _ rfl)) ?_
  refine fk_nil (fun w3 hw3 => ?_)
  refine x_open 18 rfl (fun v ⟨hv, _⟩ => ?_)
  obtain ⟨A3, c3, rfl, hc3, hr3, _⟩ := hv.slice
  refine x_weak [(18, .ex (.slice A3 (extract H (given H []) D).length c3)), (22, .ex (.func f us vs))] ⟨rfl, rfl, trivial⟩ ?_
  refine s_val (v_build rfl (bv91 _ _ _ _ _ _)) rfl ?_
  refine s_op (o_box rfl) rfl rfl ?_
  rintro _ w4 hw4 ⟨rfl, hB4⟩
  refine s_val (v_assign rfl) rfl ?_
  repeat (first | refine t_seq ?_ | refine t_region ?_ | refine s_nil ?_ | refine p_then ?_ | refine t_ret ?_ | refine p_then_ret ?_ | refine p_block_ret ?_ | refine t_block ?_ | refine t_exit ?_ | refine p_then_exit ?_ | refine p_block_exit ?_ | refine p_block ?_ | refine t_skip ?_)
  exact ret1 rfl rfl ⟨_, rfl, (hz2.trans hw3).trans hw4, w3.heap.size, rfl, A3, c3, f, us, vs, hB4, hc3, hr3.pure hw4, fun e => absurd e (ne_nil_of hH (extract_length _ _ _)), (hm.pure (hz2.trans hw3)).pure hw4⟩

set_option maxHeartbeats 1000000 in
/-- Exporter -/
theorem c40 (H : HK) (hH : H.ok) (e : Nat) (secret label ctx : Bytes) (A' : Option Addr) (c' n : Nat) (w : World) (hS : SecAt 84 H w e secret) (hl : secret.length ≤ 20000) (hla : label.length ≤ 249) (hp' : Rd w A' ctx) (hc' : ctx.length ≤ c') (hl' : ctx.length ≤ 60000) (hn : n ≤ 32) (hK : KT w) (hw0 : 0 < w.heap.size) :
    Calls Tryz.prog 40 #[pt e 0, S label, .slice A' ctx.length c', I n] w (Ret [] w (Fresh w (expandLabel H (derive H secret label []) [101, 120, 112, 111, 114, 116, 101, 114] (H.hash ctx) n))) := by
  obtain ⟨A, c, f, us, vs, hB, hc, hr, hni, hm⟩ := hS
  have hsl := HK.size_le hH
  refine enter (Γ := [(0, .ex (pt e 0)), (1, .ex (S label)), (2, .ex (.slice A' ctx.length c')), (3, .ex (I n))]) Tryz.func40 rfl rfl rfl ⟨⟨_, rfl, rfl⟩, ⟨_, rfl, rfl⟩, ⟨_, rfl, rfl⟩, ⟨_, rfl, rfl⟩, trivial⟩ ?_
  repeat (first | refine t_seq ?_ | refine t_region ?_ | refine s_nil ?_ | refine p_then ?_ | refine t_ret ?_ | refine p_then_ret ?_ | refine p_block_ret ?_ | refine t_block ?_ | refine t_exit ?_ | refine p_then_exit ?_ | refine p_block_exit ?_ | refine p_block ?_ | refine t_skip ?_)
  refine s_val (v_assign rfl) rfl ?_
  repeat (first | refine t_seq ?_ | refine t_region ?_ | refine s_nil ?_ | refine p_then ?_ | refine t_ret ?_ | refine p_then_ret ?_ | refine p_block_ret ?_ | refine t_block ?_ | refine t_exit ?_ | refine p_then_exit ?_ | refine p_block_exit ?_ | refine p_block ?_ | refine t_skip ?_)
  refine t_drawO 9 (by kernel_rfl) rfl ?_
  refine fk_val (Only.refl _) (fun wF hR => v_move rfl) ?_
  first | refine fk_val (Only.refl _) (fun wF hR => v_nilCheck rfl) ?_ | refine fk_val (Only.refl _) (fun wF hR => v_nilCheck_iface rfl) ?_
  refine fk_val (Only.refl _) (fun wF hR => v_fieldAddr rfl (fo rfl)) ?_
  refine fk_val Only.refl' (fun wF hR => v_load1 rfl sc77 ((hB.only hR (by simp)).cell _ rfl)) ?_
  refine fk_val (Only.refl _) (fun wF hR => v_move rfl) ?_
  first | refine fk_val (Only.refl _) (fun wF hR => v_nilCheck rfl) ?_ | refine fk_val (Only.refl _) (fun wF hR => v_nilCheck_iface rfl) ?_
  refine fk_val (Only.refl _) (fun wF hR => v_fieldAddr rfl (fo rfl)) ?_
  refine fk_val (Only.refl _) (fun wF hR => v_load1 rfl (sc rfl) (by first | exact (hB.only hR (by simp)).cell _ rfl | assumption)) ?_
  refine fk_val (Only.refl _) (fun wF hR => v_move rfl) ?_
  refine fk_nil (fun w1 hw1 => ?_)
  have hs1 := hw1.size
  refine s_op (o_call rfl (en rfl) (c65 H hH (.func f us vs) A c secret label [] .nilIface w1 (hm.pure hw1) (hr.pure hw1) hc (by omega) hla (.inl ⟨rfl, rfl⟩) (by simp) (hK.only hw1 (by simp)) (by omega))) rfl rfl ?_
  rintro v2 w2 hw2 ⟨hv2, hf2⟩
  refine s_val (v_assign rfl) rfl ?_
  have hdl := derive_length hH secret label []
  obtain ⟨D, hD⟩ : ∃ D, D = derive H secret label [] := ⟨_, rfl⟩
  rw [← hD] at hv2 hdl
  rw [← hD]
  obtain ⟨A2, c2, rfl, hc2, hr2, _⟩ := hv2.slice
  have hz2 := hw1.trans hw2
  have hs2 := hw2.size
  have hB2 := hB.only hz2 (by simp)
  repeat (first | refine t_seq ?_ | refine t_region ?_ | refine s_nil ?_ | refine p_then ?_ | refine t_ret ?_ | refine p_then_ret ?_ | refine p_block_ret ?_ | refine t_block ?_ | refine t_exit ?_ | refine p_then_exit ?_ | refine p_block_exit ?_ | refine p_block ?_ | refine t_skip ?_)
  refine s_val (v_move rfl) rfl ?_
  first | refine s_val (v_nilCheck rfl) rfl ?_ | refine s_val (v_nilCheck_iface rfl) rfl ?_
  refine s_val (v_fieldAddr rfl (fo rfl)) rfl ?_
  refine s_val (v_load1 rfl sc77 (hB2.cell _ rfl)) rfl ?_
  refine s_op (o_mkI (b := w2.heap.size) (hm.pure hz2) rfl (Nat.le_refl _)) rfl rfl ?_
  rintro _ w3 hw3 ⟨g, rfl, fp, hg, hfp⟩
  refine s_val (v_assign rfl) rfl ?_
  have hz3 := hz2.trans hw3
  have hs3 := hw3.size
  have h0 : 0 ∉ fp := fun hk => by have := hfp 0 hk; omega
  have hoff : ctx ≠ [] → Off A' fp := fun hne => by
    obtain ⟨gA, iA, rfl, hgA, _⟩ := hp' hne
    exact Off.pt (fun hk => by have := hfp gA hk; omega)
  repeat (first | refine t_seq ?_ | refine t_region ?_ | refine s_nil ?_ | refine p_then ?_ | refine t_ret ?_ | refine p_then_ret ?_ | refine p_block_ret ?_ | refine t_block ?_ | refine t_exit ?_ | refine p_then_exit ?_ | refine p_block_exit ?_ | refine p_block ?_ | refine t_skip ?_)
  refine s_val (v_move rfl) rfl ?_
  refine s_val (v_move rfl) rfl ?_
  refine s_op (o_invoke rfl rfl (H.mew _ _) H.enw (hWrite hH hg (hp'.pure hz3) hoff hc' (by simp; omega) (hK.only hz3 (by simp)) h0)) rfl rfl ?_
  rintro _ w4 hw4 ⟨rfl, hg4⟩
  rw [List.nil_append] at hg4
  have hz4 : Only [] w w4 := hz3.trans_new hw4 (fun k hk => .inr (Nat.le_trans hz2.size (hfp k hk)))
  have hs4 := hw4.size
  have hhl := H.hash_length ctx
  have hB4 := hB.only hz4 (by simp)
  have hr4 : Rd w4 A2 D := (hr2.pure hw3).only hw4 (fun hne => by
    obtain ⟨gA, iA, rfl, hgA, _⟩ := hr2 hne
    exact Off.pt (fun hk => by have := hfp gA hk; omega))
  repeat (first | refine t_seq ?_ | refine t_region ?_ | refine s_nil ?_ | refine p_then ?_ | refine t_ret ?_ | refine p_then_ret ?_ | refine p_block_ret ?_ | refine t_block ?_ | refine t_exit ?_ | refine p_then_exit ?_ | refine p_block_exit ?_ | refine p_block ?_ | refine t_skip ?_)
  refine t_drawO 8 (by kernel_rfl) rfl ?_
  refine fk_val (Only.refl _) (fun wF hR => v_move rfl) ?_
  first | refine fk_val (Only.refl _) (fun wF hR => v_nilCheck rfl) ?_ | refine fk_val (Only.refl _) (fun wF hR => v_nilCheck_iface rfl) ?_
  refine fk_val (Only.refl _) (fun wF hR => v_fieldAddr rfl (fo rfl)) ?_
  refine fk_val Only.refl' (fun wF hR => v_load1 rfl sc77 ((hB4.only hR (by simp)).cell _ rfl)) ?_
  refine fk_val (Only.refl _) (fun wF hR => v_move rfl) ?_
  refine fk_val (Only.refl _) (fun wF hR => v_move rfl) ?_
  refine fk_op (st_fresh (b := w.heap.size) (l := H.hash ctx)) (fun wF hR => opAt_mono (o_hSum hH rfl (hg4.only hR (by simp)) (by omega) (hK.only (hz4.trans hR) (by simp))) (fun _ h => h) (fun _ _ _ h => ⟨h.1, h.2.mono (hz4.trans hR).size⟩)) ?_
  refine fk_val (Only.refl _) (fun wF hR => v_move rfl) ?_
  refine fk_nil (fun w5 hw5 => ?_)
  refine x_open 35 rfl (fun v ⟨hv, _⟩ => ?_)
  obtain ⟨A5, c5, rfl, hc5, hr5, _⟩ := hv.slice
  refine x_weak [(32, .ex (.func f us vs)), (33, .ex (.slice A2 D.length c2)), (35, .ex (.slice A5 (H.hash ctx).length c5)), (36, .ex (I n))] ⟨rfl, rfl, rfl, rfl, trivial⟩ ?_
  have hz5 := hz4.trans hw5
  have hs5 := hw5.size
  refine s_op (o_call rfl (en rfl) (c68 H hH (.func f us vs) A2 A5 c2 c5 D [101, 120, 112, 111, 114, 116, 101, 114] (H.hash ctx) n w5 (hm.pure hz5) (hr4.pure hw5) hc2 (by omega) hr5 (by decide) (by omega) hn (hK.only hz5 (by simp)) (by omega))) rfl rfl ?_
  rintro v6 w6 hw6 ⟨hv6, hf6⟩
  refine s_val (v_assign rfl) rfl ?_
  repeat (first | refine t_seq ?_ | refine t_region ?_ | refine s_nil ?_ | refine p_then ?_ | refine t_ret ?_ | refine p_then_ret ?_ | refine p_block_ret ?_ | refine t_block ?_ | refine t_exit ?_ | refine p_then_exit ?_ | refine p_block_exit ?_ | refine p_block ?_ | refine t_skip ?_)
  exact ret1 rfl rfl ⟨_, rfl, hz5.trans hw6, hv6, hf6.mono hz5.size⟩
end Go.Proofs.YtnaefgnjdmmmcaaGreatDoor
/- The thin package in the program: copied, Sum, said. -/
namespace Go.Proofs.YtnaefgnjdmmmcaaGreatDoor
open Go.RowKit

/-- A slice that reads as these bytes; nil, if there are none. -/
def SlAt (l : Bytes) : Pred := fun v w => ∃ A c, v = .slice A l.length c ∧ l.length ≤ c ∧ Rd w A l ∧ (l = [] → A = none)
theorem st_sl {l : Bytes} : ∀ (v : Value) (w w' : World), SlAt l v w → Only [] w w' → SlAt l v w' := fun _ _ _ ⟨A, c, h1, h2, h3, h4⟩ k => ⟨A, c, h1, h2, h3.pure k, h4⟩
theorem From.off {b : Nat} {A : Option Addr} {n c : Nat} {fp : List Nat} (h : From b (.slice A n c)) (hf : ∀ k ∈ fp, k < b) : Off A fp := fun a ha hm => by
  subst ha
  have := h a.block rfl
  have := hf _ hm
  omega
theorem hkOf_one (s b : Int) : hkOf 1 s b = .sha := by unfold hkOf; rw [if_pos rfl]
theorem hkOf_own {k s b : Int} (h : k ≠ 1) : ∃ sz bk, hkOf k s b = .own sz bk := by
  unfold hkOf; rw [if_neg h]; split <;> exact ⟨_, _, rfl⟩
/-- append to nil, of nothing. -/
theorem o_app_nil {P : Program} {N : Nat} {Γ : Env} {w : World} {d : Option Tmp} {ty : TypeId} {pos : String} {af : Array Edge} {gd : Option (Nat × Bool)} {x y : Operand} {t tx e' : TypeId} (hT : RowTy P t 5 (B 0) 1) {A : Option Addr} {c : Nat} (hx : Γ.op x = some (.ex (.slice none 0 0))) (hy : Γ.op y = some (.ex (.slice A 0 c))) (hk : P.underlying tx = some (.slice e')) :
    OpAt P N Γ w ⟨d, .call ⟨.builtin .append, #[x, y], #[t, tx]⟩, ty, pos, af, gd⟩ (Only []) (fun v _ => v = .slice none 0 0) :=
  opAt_val fun a ha => by
    have h1 := ha.val (x := x) (by simp [Op.operands, Call.operands]) hx
    have h2 := ha.val (x := y) (by simp [Op.operands, Call.operands]) hy
    obtain ⟨i, hi, hz, hs, hb⟩ := hT.info
    have hs0 := Src.ofRd (P := P) (w := w) (A := A) (c := c) (m := []) hk (Rd.nil _ _)
    have hcl := hs0.cells
    rw [← hs] at hcl
    refine ⟨.slice none 0 0, w, ?_, Only.refl _ _, rfl⟩
    have hr : (Builtin.append_ #[t, tx] ty #[.slice none 0 0, .slice A 0 c]).run P w = .ok (.slice none 0 0) w := by
      have hl := hs0.len
      simp only [List.length_nil] at hl hcl
      simp [Builtin.append_, run_underlying hT.und, run_underlying hk, sizeOf, typeInfo, hi, hl, hcl]
    simp only [execOp, resolve, invoke, builtin, Sem.run_bind, Sem.run_pure, Result.andThen_ok, List.map_toArray, List.map_cons, List.map_nil, h1, h2, hr]
theorem c52m (w : World) : Calls Tryz.prog 52 #[] w (Ret [] w fun v w' => ∃ g, v = pt g 0 ∧ Made .sha w.heap.size w' g) :=
  (c52 w).mono fun e w' ⟨v, h1, h2, h3, h4⟩ => ⟨v, h1, h2, _, h3, [w.heap.size], ⟨rfl, ShaAt.new (by simp [zeros]) h4⟩, by simp⟩
theorem c54m (k s b : Int) (w : World) (hk : k ≠ 1) : Calls Tryz.prog 54 #[hv k s b] w (Ret [] w fun v w' => ∃ g, v = pt g 0 ∧ Made (hkOf k s b) w.heap.size w' g) := by
  obtain ⟨sz, bk, he⟩ := hkOf_own (s := s) (b := b) hk
  refine (c54 k s b w hk).mono fun e w' ⟨v, h1, h2, g, t, h3, h4, h5⟩ => ⟨v, h1, h2, g, h3, [g, t], ?_, by simp; omega⟩
  rw [he] at h5 ⊢
  exact ⟨t, rfl, h5⟩
section
attribute [local irreducible] ValAt OpAt RunX Tr Post FlowK
/-- copied -/
theorem c41 (A : Option Addr) (c : Nat) (l : Bytes) (w : World) (hp : Rd w A l) (hl : l.length ≤ 100000) : Calls Tryz.prog 41 #[.slice A l.length c] w (Ret [] w fun v w' => SlAt l v w' ∧ From w.heap.size v) := by
  refine enter (Γ := [(0, .ex (.slice A l.length c))]) Tryz.func41 rfl rfl rfl ⟨⟨_, rfl, rfl⟩, trivial⟩ ?_
  repeat (first | refine t_seq ?_ | refine t_region ?_ | refine s_nil ?_ | refine p_then ?_ | refine t_ret ?_ | refine p_then_ret ?_ | refine p_block_ret ?_ | refine t_block ?_ | refine t_exit ?_ | refine p_then_exit ?_ | refine p_block_exit ?_ | refine p_block ?_ | refine t_skip ?_)
  refine s_val (v_assign rfl) rfl ?_
  repeat (first | refine t_seq ?_ | refine t_region ?_ | refine s_nil ?_ | refine p_then ?_ | refine t_ret ?_ | refine p_then_ret ?_ | refine p_block_ret ?_ | refine t_block ?_ | refine t_exit ?_ | refine p_then_exit ?_ | refine p_block_exit ?_ | refine p_block ?_ | refine t_skip ?_)
  by_cases hl0 : l = []
  · subst hl0
    refine s_val (v_move rfl) rfl ?_
    refine s_op (o_app_nil rt24 rfl rfl Tryz.underlying24) rfl rfl ?_
    rintro _ w1 hw1 rfl
    refine s_val (v_assign rfl) rfl ?_
    repeat (first | refine t_seq ?_ | refine t_region ?_ | refine s_nil ?_ | refine p_then ?_ | refine t_ret ?_ | refine p_then_ret ?_ | refine p_block_ret ?_ | refine t_block ?_ | refine t_exit ?_ | refine p_then_exit ?_ | refine p_block_exit ?_ | refine p_block ?_ | refine t_skip ?_)
    exact ret1 rfl rfl ⟨_, rfl, hw1, ⟨none, 0, rfl, by simp, Rd.nil _ _, fun _ => rfl⟩, From.nil _⟩
  · refine s_val (v_move rfl) rfl ?_
    refine s_op (o_appB rt24 rfl rfl rfl Tryz.underlying24 (Own.nil w) hp (by simp; omega) mem_own) rfl rfl ?_
    rintro v1 w1 hw1 ⟨hv1, hk1⟩
    refine s_val (v_assign rfl) rfl ?_
    obtain ⟨A1, c1, rfl, hc1, hr1, _⟩ := hv1.slice
    repeat (first | refine t_seq ?_ | refine t_region ?_ | refine s_nil ?_ | refine p_then ?_ | refine t_ret ?_ | refine p_then_ret ?_ | refine p_block_ret ?_ | refine t_block ?_ | refine t_exit ?_ | refine p_then_exit ?_ | refine p_block_exit ?_ | refine p_block ?_ | refine t_skip ?_)
    exact ret1 rfl rfl ⟨_, rfl, hw1, ⟨A1, c1, rfl, hc1, hr1, fun e => absurd e hl0⟩, fun k hk => (hk1 k hk).elim (fun e => by cases e) id⟩

theorem oneH (k s b : Int) : sizeIs Tryz.prog 23 (hv k s b).cells.size = true := si rfl

end
end Go.Proofs.YtnaefgnjdmmmcaaGreatDoor
/- The thin package in the program: Sum, said. -/
namespace Go.Proofs.YtnaefgnjdmmmcaaGreatDoor
open Go.RowKit
attribute [local irreducible] ValAt OpAt RunX Tr Post FlowK
set_option maxHeartbeats 1000000 in
/-- impl.Sum -/
theorem c44 (k s b : Int) (A : Option Addr) (c : Nat) (l : Bytes) (w : World) (hp : Rd w A l) (hl : l.length ≤ 60000) (hK : KT w) (hw0 : 0 < w.heap.size) :
    Calls Tryz.prog 44 #[hv k s b, .slice A l.length c] w (Ret [] w (Fresh w ((hkOf k s b).hash l))) := by
  have hok := hkOf_ok k s b
  refine enter (Γ := [(0, .ex (hv k s b)), (1, .ex (.slice A l.length c))]) Tryz.func44 rfl rfl rfl ⟨⟨_, rfl, rfl⟩, ⟨_, rfl, rfl⟩, trivial⟩ ?_
  repeat (first | refine t_seq ?_ | refine t_region ?_ | refine s_nil ?_ | refine p_then ?_ | refine t_ret ?_ | refine p_then_ret ?_ | refine p_block_ret ?_ | refine t_block ?_ | refine t_exit ?_ | refine p_then_exit ?_ | refine p_block_exit ?_ | refine p_block ?_ | refine t_skip ?_)
  refine s_op (o_box rfl) rfl rfl ?_
  rintro _ w1 hw1 ⟨rfl, hB1⟩
  refine s_val (v_assign rfl) rfl ?_
  have hs1 := hw1.size
  repeat (first | refine t_seq ?_ | refine t_region ?_ | refine s_nil ?_ | refine p_then ?_ | refine t_ret ?_ | refine p_then_ret ?_ | refine p_block_ret ?_ | refine t_block ?_ | refine t_exit ?_ | refine p_then_exit ?_ | refine p_block_exit ?_ | refine p_block ?_ | refine t_skip ?_)
  refine s_val (v_fieldAddr rfl (fo rfl)) rfl ?_
  refine s_val (v_load1 rfl (sc rfl) (by first | exact hB1.cell _ rfl | assumption)) rfl ?_
  refine s_val (v_eqI rfl rfl) rfl ?_
  repeat (first | refine t_seq ?_ | refine t_region ?_ | refine s_nil ?_ | refine p_then ?_ | refine t_ret ?_ | refine p_then_ret ?_ | refine p_block_ret ?_ | refine t_block ?_ | refine t_exit ?_ | refine p_then_exit ?_ | refine p_block_exit ?_ | refine p_block ?_ | refine t_skip ?_)
  refine t_if rfl (fun hb => ?_) (fun hb => ?_)
  · have hk1 : k = 1 := by simpa using hb
    subst hk1
    rw [hkOf_one]
    clear hb hok
    repeat (first | refine t_seq ?_ | refine t_region ?_ | refine s_nil ?_ | refine p_then ?_ | refine t_ret ?_ | refine p_then_ret ?_ | refine p_block_ret ?_ | refine t_block ?_ | refine t_exit ?_ | refine p_then_exit ?_ | refine p_block_exit ?_ | refine p_block ?_ | refine t_skip ?_)
    refine s_op (o_call rfl (en rfl) (c52m w1)) rfl rfl ?_
    rintro _ w2 hw2 ⟨g, rfl, fp, hg, hfp⟩
    refine s_val (v_assign rfl) rfl ?_
    have hs2 := hw2.size
    have hz2 := hw1.trans hw2
    repeat (first | refine t_seq ?_ | refine t_region ?_ | refine s_nil ?_ | refine p_then ?_ | refine t_ret ?_ | refine p_then_ret ?_ | refine p_block_ret ?_ | refine t_block ?_ | refine t_exit ?_ | refine p_then_exit ?_ | refine p_block_exit ?_ | refine p_block ?_ | refine t_skip ?_)
    refine s_val (v_move rfl) rfl ?_
    refine s_val (v_move rfl) rfl ?_
    refine s_op (o_call rfl (en rfl) (c41 A c l w2 (hp.pure hz2) (by omega))) rfl rfl ?_
    rintro _ w3 hw3 ⟨⟨A3, c3, rfl, hc3, hr3, _⟩, hf3⟩
    refine s_op (o_call rfl (en rfl) (hWrite (H := HK.sha) trivial (hg.only hw3 (by simp)) hr3 (fun _ => hf3.off hg.lt) hc3 (by simp; omega) (hK.only (hz2.trans hw3) (by simp)) (fun hk => by have := hfp 0 hk; omega))) rfl rfl ?_
    rintro _ w4 hw4 ⟨rfl, hg4⟩
    rw [List.nil_append] at hg4
    have hz4 : Only [] w w4 := (hz2.trans hw3).trans_new hw4 (fun k hk => .inr (Nat.le_trans hs1 (hfp k hk)))
    repeat (first | refine t_seq ?_ | refine t_region ?_ | refine s_nil ?_ | refine p_then ?_ | refine t_ret ?_ | refine p_then_ret ?_ | refine p_block_ret ?_ | refine t_block ?_ | refine t_exit ?_ | refine p_then_exit ?_ | refine p_block_exit ?_ | refine p_block ?_ | refine t_skip ?_)
    refine s_val (v_move rfl) rfl ?_
    refine s_op (o_call rfl (en rfl) (hSum (H := HK.sha) trivial hg4 (Own.nil w4) (Nots.nil _) (by omega) (by simp) (hK.only hz4 (by simp)))) rfl rfl ?_
    rintro v5 w5 hw5 h5
    refine s_val (v_assign rfl) rfl ?_
    repeat (first | refine t_seq ?_ | refine t_region ?_ | refine s_nil ?_ | refine p_then ?_ | refine t_ret ?_ | refine p_then_ret ?_ | refine p_block_ret ?_ | refine t_block ?_ | refine t_exit ?_ | refine p_then_exit ?_ | refine p_block_exit ?_ | refine p_block ?_ | refine t_skip ?_)
    exact ret1 rfl rfl ⟨_, rfl, hz4.trans (hw5 : Only [] w4 w5), by simpa using h5.1, fun k hk => (h5.2 k hk).elim (fun e => by cases e) (fun e => Nat.le_trans hz4.size e)⟩
  · have hk1 : k ≠ 1 := by simpa using hb
    clear hb
    obtain ⟨sz, bk, hE⟩ := hkOf_own (s := s) (b := b) hk1
    repeat (first | refine t_seq ?_ | refine t_region ?_ | refine s_nil ?_ | refine p_then ?_ | refine t_ret ?_ | refine p_then_ret ?_ | refine p_block_ret ?_ | refine t_block ?_ | refine t_exit ?_ | refine p_then_exit ?_ | refine p_block_exit ?_ | refine p_block ?_ | refine t_skip ?_)
    refine s_val (v_load rfl (loadVar_whole (Classical.choose_spec (st (t := 23) rfl)) rfl (oneH k s b) hB1)) rfl ?_
    refine s_op (o_call rfl (en rfl) (c54m k s b w1 hk1)) rfl rfl ?_
    rintro _ w2 hw2 ⟨g, rfl, fp, hg, hfp⟩
    refine s_val (v_assign rfl) rfl ?_
    rw [hE] at hg hok
    rw [hE]
    have hs2 := hw2.size
    have hz2 := hw1.trans hw2
    repeat (first | refine t_seq ?_ | refine t_region ?_ | refine s_nil ?_ | refine p_then ?_ | refine t_ret ?_ | refine p_then_ret ?_ | refine p_block_ret ?_ | refine t_block ?_ | refine t_exit ?_ | refine p_then_exit ?_ | refine p_block_exit ?_ | refine p_block ?_ | refine t_skip ?_)
    refine s_val (v_move rfl) rfl ?_
    refine s_val (v_move rfl) rfl ?_
    refine s_op (o_call rfl (en rfl) (c41 A c l w2 (hp.pure hz2) (by omega))) rfl rfl ?_
    rintro _ w3 hw3 ⟨⟨A3, c3, rfl, hc3, hr3, _⟩, hf3⟩
    refine s_op (o_call rfl (en rfl) (hWrite (H := HK.own sz bk) hok (hg.only hw3 (by simp)) hr3 (fun _ => hf3.off hg.lt) hc3 (by simp; omega) (hK.only (hz2.trans hw3) (by simp)) (fun hk => by have := hfp 0 hk; omega))) rfl rfl ?_
    rintro _ w4 hw4 ⟨rfl, hg4⟩
    rw [List.nil_append] at hg4
    have hz4 : Only [] w w4 := (hz2.trans hw3).trans_new hw4 (fun k hk => .inr (Nat.le_trans hs1 (hfp k hk)))
    repeat (first | refine t_seq ?_ | refine t_region ?_ | refine s_nil ?_ | refine p_then ?_ | refine t_ret ?_ | refine p_then_ret ?_ | refine p_block_ret ?_ | refine t_block ?_ | refine t_exit ?_ | refine p_then_exit ?_ | refine p_block_exit ?_ | refine p_block ?_ | refine t_skip ?_)
    refine s_val (v_move rfl) rfl ?_
    refine s_op (o_call rfl (en rfl) (hSum (H := HK.own sz bk) hok hg4 (Own.nil w4) (Nots.nil _) (by omega) (by simp) (hK.only hz4 (by simp)))) rfl rfl ?_
    rintro v5 w5 hw5 h5
    refine s_val (v_assign rfl) rfl ?_
    repeat (first | refine t_seq ?_ | refine t_region ?_ | refine s_nil ?_ | refine p_then ?_ | refine t_ret ?_ | refine p_then_ret ?_ | refine p_block_ret ?_ | refine t_block ?_ | refine t_exit ?_ | refine p_then_exit ?_ | refine p_block_exit ?_ | refine p_block ?_ | refine t_skip ?_)
    exact ret1 rfl rfl ⟨_, rfl, hz4.trans (hw5 : Only [] w4 w5), by simpa using h5.1, fun k hk => (h5.2 k hk).elim (fun e => by cases e) (fun e => Nat.le_trans hz4.size e)⟩
set_option maxHeartbeats 1000000 in
/-- impl.said -/
theorem c38 (k s b : Int) (A : Option Addr) (c : Nat) (l : Bytes) (w : World) (hp : Rd w A l) (hl : l.length ≤ 60000) (hK : KT w) (hw0 : 0 < w.heap.size) :
    Calls Tryz.prog 38 #[hv k s b, .slice A l.length c] w (Ret [] w fun v w' => TrAt (hkOf k s b) w' v l) := by
  have hok := hkOf_ok k s b
  refine enter (Γ := [(0, .ex (hv k s b)), (1, .ex (.slice A l.length c))]) Tryz.func38 rfl rfl rfl ⟨⟨_, rfl, rfl⟩, ⟨_, rfl, rfl⟩, trivial⟩ ?_
  repeat (first | refine t_seq ?_ | refine t_region ?_ | refine s_nil ?_ | refine p_then ?_ | refine t_ret ?_ | refine p_then_ret ?_ | refine p_block_ret ?_ | refine t_block ?_ | refine t_exit ?_ | refine p_then_exit ?_ | refine p_block_exit ?_ | refine p_block ?_ | refine t_skip ?_)
  refine s_op (o_box rfl) rfl rfl ?_
  rintro _ w1 hw1 ⟨rfl, hB1⟩
  refine s_val (v_assign rfl) rfl ?_
  have hs1 := hw1.size
  repeat (first | refine t_seq ?_ | refine t_region ?_ | refine s_nil ?_ | refine p_then ?_ | refine t_ret ?_ | refine p_then_ret ?_ | refine p_block_ret ?_ | refine t_block ?_ | refine t_exit ?_ | refine p_then_exit ?_ | refine p_block_exit ?_ | refine p_block ?_ | refine t_skip ?_)
  refine s_val (v_fieldAddr rfl (fo rfl)) rfl ?_
  refine s_val (v_load1 rfl (sc rfl) (by first | exact hB1.cell _ rfl | assumption)) rfl ?_
  refine s_val (v_eqI rfl rfl) rfl ?_
  repeat (first | refine t_seq ?_ | refine t_region ?_ | refine s_nil ?_ | refine p_then ?_ | refine t_ret ?_ | refine p_then_ret ?_ | refine p_block_ret ?_ | refine t_block ?_ | refine t_exit ?_ | refine p_then_exit ?_ | refine p_block_exit ?_ | refine p_block ?_ | refine t_skip ?_)
  refine t_if rfl (fun hb => ?_) (fun hb => ?_)
  · have hk1 : k = 1 := by simpa using hb
    subst hk1
    rw [hkOf_one]
    clear hb hok
    repeat (first | refine t_seq ?_ | refine t_region ?_ | refine s_nil ?_ | refine p_then ?_ | refine t_ret ?_ | refine p_then_ret ?_ | refine p_block_ret ?_ | refine t_block ?_ | refine t_exit ?_ | refine p_then_exit ?_ | refine p_block_exit ?_ | refine p_block ?_ | refine t_skip ?_)
    refine s_op (o_call rfl (en rfl) (c52m w1)) rfl rfl ?_
    rintro _ w2 hw2 ⟨g, rfl, fp, hg, hfp⟩
    refine s_val (v_assign rfl) rfl ?_
    have hs2 := hw2.size
    have hz2 := hw1.trans hw2
    repeat (first | refine t_seq ?_ | refine t_region ?_ | refine s_nil ?_ | refine p_then ?_ | refine t_ret ?_ | refine p_then_ret ?_ | refine p_block_ret ?_ | refine t_block ?_ | refine t_exit ?_ | refine p_then_exit ?_ | refine p_block_exit ?_ | refine p_block ?_ | refine t_skip ?_)
    refine s_val (v_move rfl) rfl ?_
    refine s_val (v_move rfl) rfl ?_
    refine s_op (o_call rfl (en rfl) (c41 A c l w2 (hp.pure hz2) (by omega))) rfl rfl ?_
    rintro _ w3 hw3 ⟨⟨A3, c3, rfl, hc3, hr3, _⟩, hf3⟩
    refine s_op (o_call rfl (en rfl) (hWrite (H := HK.sha) trivial (hg.only hw3 (by simp)) hr3 (fun _ => hf3.off hg.lt) hc3 (by simp; omega) (hK.only (hz2.trans hw3) (by simp)) (fun hk => by have := hfp 0 hk; omega))) rfl rfl ?_
    rintro _ w4 hw4 ⟨rfl, hg4⟩
    rw [List.nil_append] at hg4
    have hz4 : Only [] w w4 := (hz2.trans hw3).trans_new hw4 (fun k hk => .inr (Nat.le_trans hs1 (hfp k hk)))
    repeat (first | refine t_seq ?_ | refine t_region ?_ | refine s_nil ?_ | refine p_then ?_ | refine t_ret ?_ | refine p_then_ret ?_ | refine p_block_ret ?_ | refine t_block ?_ | refine t_exit ?_ | refine p_then_exit ?_ | refine p_block_exit ?_ | refine p_block ?_ | refine t_skip ?_)
    refine s_val (v_move rfl) rfl ?_
    refine s_val (v_makeInterface rfl (co rfl)) rfl ?_
    refine s_val (v_assign rfl) rfl ?_
    repeat (first | refine t_seq ?_ | refine t_region ?_ | refine s_nil ?_ | refine p_then ?_ | refine t_ret ?_ | refine p_then_ret ?_ | refine p_block_ret ?_ | refine t_block ?_ | refine t_exit ?_ | refine p_then_exit ?_ | refine p_block_exit ?_ | refine p_block ?_ | refine t_skip ?_)
    exact ret1 rfl rfl ⟨_, rfl, hz4, .inr ⟨g, fp, rfl, hg4⟩⟩
  · have hk1 : k ≠ 1 := by simpa using hb
    clear hb
    obtain ⟨sz, bk, hE⟩ := hkOf_own (s := s) (b := b) hk1
    repeat (first | refine t_seq ?_ | refine t_region ?_ | refine s_nil ?_ | refine p_then ?_ | refine t_ret ?_ | refine p_then_ret ?_ | refine p_block_ret ?_ | refine t_block ?_ | refine t_exit ?_ | refine p_then_exit ?_ | refine p_block_exit ?_ | refine p_block ?_ | refine t_skip ?_)
    refine s_val (v_load rfl (loadVar_whole (Classical.choose_spec (st (t := 23) rfl)) rfl (oneH k s b) hB1)) rfl ?_
    refine s_op (o_call rfl (en rfl) (c54m k s b w1 hk1)) rfl rfl ?_
    rintro _ w2 hw2 ⟨g, rfl, fp, hg, hfp⟩
    refine s_val (v_assign rfl) rfl ?_
    rw [hE] at hg hok
    rw [hE]
    have hs2 := hw2.size
    have hz2 := hw1.trans hw2
    repeat (first | refine t_seq ?_ | refine t_region ?_ | refine s_nil ?_ | refine p_then ?_ | refine t_ret ?_ | refine p_then_ret ?_ | refine p_block_ret ?_ | refine t_block ?_ | refine t_exit ?_ | refine p_then_exit ?_ | refine p_block_exit ?_ | refine p_block ?_ | refine t_skip ?_)
    refine s_val (v_move rfl) rfl ?_
    refine s_val (v_move rfl) rfl ?_
    refine s_op (o_call rfl (en rfl) (c41 A c l w2 (hp.pure hz2) (by omega))) rfl rfl ?_
    rintro _ w3 hw3 ⟨⟨A3, c3, rfl, hc3, hr3, _⟩, hf3⟩
    refine s_op (o_call rfl (en rfl) (hWrite (H := HK.own sz bk) hok (hg.only hw3 (by simp)) hr3 (fun _ => hf3.off hg.lt) hc3 (by simp; omega) (hK.only (hz2.trans hw3) (by simp)) (fun hk => by have := hfp 0 hk; omega))) rfl rfl ?_
    rintro _ w4 hw4 ⟨rfl, hg4⟩
    rw [List.nil_append] at hg4
    have hz4 : Only [] w w4 := (hz2.trans hw3).trans_new hw4 (fun k hk => .inr (Nat.le_trans hs1 (hfp k hk)))
    repeat (first | refine t_seq ?_ | refine t_region ?_ | refine s_nil ?_ | refine p_then ?_ | refine t_ret ?_ | refine p_then_ret ?_ | refine p_block_ret ?_ | refine t_block ?_ | refine t_exit ?_ | refine p_then_exit ?_ | refine p_block_exit ?_ | refine p_block ?_ | refine t_skip ?_)
    refine s_val (v_move rfl) rfl ?_
    refine s_val (v_makeInterface rfl (co rfl)) rfl ?_
    refine s_val (v_assign rfl) rfl ?_
    repeat (first | refine t_seq ?_ | refine t_region ?_ | refine s_nil ?_ | refine p_then ?_ | refine t_ret ?_ | refine p_then_ret ?_ | refine p_block_ret ?_ | refine t_block ?_ | refine t_exit ?_ | refine p_then_exit ?_ | refine p_block_exit ?_ | refine p_block ?_ | refine t_skip ?_)
    exact ret1 rfl rfl ⟨_, rfl, hz4, .inr ⟨g, fp, rfl, hg4⟩⟩
end Go.Proofs.YtnaefgnjdmmmcaaGreatDoor
