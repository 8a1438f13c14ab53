/-
  What is proved here, of the given program in the given model, of every input, with no condition but those that each theorem states ahead of its conclusion: The spec in the program: padded, Mac, Extract. The spec in the program: Expand. The spec in the program: ExpandLabel. The spec in the program: the secrets of the schedule. Keys, finished, exported: the spec's and the thin package's. finished, exported: the spec's and the thin package's. laws.same. spec.Joined of a cut of an array; (Connection).Up. A connection in memory; (Connection).Up. ROWS OF SLICES OF THE CALL'S OWN, known whole: append. Rows of slices of the call's own: the rule of append. The tickets: the spec's and the thin package's.
-/
import Derived.Test.YtnaefgnjdmmmcaaGreatDoorM09
/- The spec in the program: padded, Mac, Extract. -/
namespace Go.Proofs.YtnaefgnjdmmmcaaGreatDoor
open Go.RowKit
section
attribute [local irreducible] ValAt OpAt RunX Tr Post FlowK
variable {N : Nat} {Γ : Env} {w w0 : World} {d : Option Tmp} {ty : TypeId} {pos : String} {af : Array Edge} {gd : Option (Nat × Bool)}
theorem f35 {ls : List Bytes} {x : Operand} {ats : Array TypeId} (hx : Γ.op x = some (.ab (JP ls))) (hn : ls.flatten.length ≤ 200000) (hl : ls.length ≤ 1000) :
    OpAt Tryz.prog N Γ w ⟨d, .call ⟨.value (.func 35), #[x], ats⟩, ty, pos, af, gd⟩ (Only []) (Sl ls.flatten) :=
  opAt_mono (o_callA (xs := [x]) (S := Fresh w ls.flatten) (fp := []) (en rfl) fun a ha => by
    have h : JP ls (a.eval x) w := ha.get x (by simp [Op.operands, Call.operands]) _ hx
    rw [show ([x].map a.eval).toArray = #[a.eval x] from rfl]
    exact c35 _ ls w h hn hl) (fun _ h => h) (fun _ _ _ h => h.sl)
theorem o_byteRow {t : TypeId} {x : Operand} {b : UInt8} (hT : RowTy Tryz.prog t 5 (B 0) 1) (hx : Γ.op x = some (.ex (B b))) : OpAt Tryz.prog N Γ w ⟨d, .buildSlice t 1 #[(0, x)], ty, pos, af, gd⟩ (Only []) (Sl [b]) :=
  opAt_mono (o_buildSlice (vs := [B b]) hT (by simp [Env.ops, hx]) rfl rfl (by show 0 < 1; decide) (by show 1 ≤ 16777216; decide) (by simp [Value.cells])) (fun _ h => h) (fun v w' _ ⟨h1, h2⟩ => ⟨some ⟨w.heap.size, 0, none⟩, 1, h1, by simp, Blk.rd0 (l := [b]) h2⟩)
end
section
attribute [local irreducible] ValAt OpAt RunX Tr Post FlowK
set_option maxHeartbeats 2000000 in
/-- spec.padded -/
theorem c81 (k s b : Int) (A : Option Addr) (c : Nat) (key : Bytes) (x : UInt8) (w : World) (hp : Rd w A key) (hl : key.length ≤ 60000) :
    Calls Tryz.prog 81 #[hv k s b, .slice A key.length c, B x] w (Ret [] w (Fresh w (padded (hkOf k s b) key x))) := by
  have hok := hkOf_ok k s b
  obtain ⟨H, hH⟩ : ∃ H, H = hkOf k s b := ⟨_, rfl⟩
  rw [← hH] at hok ⊢
  have hbl := HK.block_le hok
  refine enter (Γ := [(0, .ex (hv k s b)), (1, .ex (.slice A key.length c)), (2, .ex (B x))]) Tryz.func81 rfl rfl rfl ⟨⟨_, rfl, rfl⟩, ⟨_, rfl, rfl⟩, ⟨_, rfl, rfl⟩, trivial⟩ ?_
  repeat (first | refine t_seq ?_ | refine t_region ?_ | refine s_nil ?_ | refine p_then ?_ | refine t_ret ?_ | refine p_then_ret ?_ | refine p_block_ret ?_ | refine t_block ?_ | refine t_exit ?_ | refine p_then_exit ?_ | refine p_block_exit ?_ | refine p_block ?_ | refine t_skip ?_)
  refine s_op (o_box rfl) rfl rfl ?_
  rintro _ w1 hw1 ⟨rfl, hB1⟩
  refine s_val (v_assign rfl) rfl ?_
  have hs1 := hw1.size
  have hlt1 := hB1.lt
  have hsk := shortKey_length hok key
  refine s_nil (p_then ?_)
  refine t_cut (fun s : KS => [(3, .ex (pt w.heap.size 0)), (1, .ex (.slice s.A s.k.length s.c)), (2, .ex (B x))]) (fun s w' => Only [] w1 w' ∧ s.k = shortKey H key ∧ Rd w' s.A s.k) ?_ ?_
  · repeat (first | refine t_seq ?_ | refine t_region ?_ | refine s_nil ?_ | refine p_then ?_ | refine t_ret ?_ | refine p_then_ret ?_ | refine p_block_ret ?_ | refine t_block ?_ | refine t_exit ?_ | refine p_then_exit ?_ | refine p_block_exit ?_ | refine p_block ?_ | refine t_skip ?_)
    refine s_val (v_move rfl) rfl ?_
    refine s_val (v_len rfl (so rfl) rfl) rfl ?_
    refine s_val (v_load rfl (ld23 hB1)) rfl ?_
    refine s_op (o_call rfl (en rfl) (c96 k s b w1)) rfl rfl ?_
    rintro _ w2 hw2 rfl
    refine s_val (v_gtI rfl rfl) rfl ?_
    rw [← hH]
    repeat (first | refine t_seq ?_ | refine t_region ?_ | refine s_nil ?_ | refine p_then ?_ | refine t_ret ?_ | refine p_then_ret ?_ | refine p_block_ret ?_ | refine t_block ?_ | refine t_exit ?_ | refine p_then_exit ?_ | refine p_block_exit ?_ | refine p_block ?_ | refine t_skip ?_)
    refine t_if rfl (fun hb => ?_) (fun hb => ?_)
    · have hbk : H.block < key.length := by have := of_decide_eq_true hb; omega
      clear hb
      repeat (first | refine t_seq ?_ | refine t_region ?_ | refine s_nil ?_ | refine p_then ?_ | refine t_ret ?_ | refine p_then_ret ?_ | refine p_block_ret ?_ | refine t_block ?_ | refine t_exit ?_ | refine p_then_exit ?_ | refine p_block_exit ?_ | refine p_block ?_ | refine t_skip ?_)
      refine s_val (v_load rfl (ld23 (hB1.only hw2 (by simp)))) rfl ?_
      refine s_val (v_move rfl) rfl ?_
      refine s_op (o_call rfl (en rfl) (c60 k s b A c key w2 (hp.pure (hw1.trans hw2)) hl)) rfl rfl ?_
      rintro v3 w3 hw3 ⟨hv3, hf3⟩
      refine s_val (v_assign rfl) rfl ?_
      obtain ⟨A3, c3, rfl, hc3, hr3, _⟩ := hv3.slice
      repeat (first | refine t_seq ?_ | refine t_region ?_ | refine s_nil ?_ | refine p_then ?_ | refine t_ret ?_ | refine p_then_ret ?_ | refine p_block_ret ?_ | refine t_block ?_ | refine t_exit ?_ | refine p_then_exit ?_ | refine p_block_exit ?_ | refine p_block ?_ | refine t_skip ?_)
      exact p_cut ⟨A3, c3, (hkOf k s b).hash key⟩ ⟨rfl, rfl, rfl, trivial⟩ ⟨hw2.trans hw3, by rw [← hH]; simp [shortKey, hbk], hr3⟩
    · have hbk : ¬ H.block < key.length := by have := of_decide_eq_false hb; omega
      clear hb
      repeat (first | refine t_seq ?_ | refine t_region ?_ | refine s_nil ?_ | refine p_then ?_ | refine t_ret ?_ | refine p_then_ret ?_ | refine p_block_ret ?_ | refine t_block ?_ | refine t_exit ?_ | refine p_then_exit ?_ | refine p_block_exit ?_ | refine p_block ?_ | refine t_skip ?_)
      exact p_cut ⟨A, c, key⟩ ⟨rfl, rfl, rfl, trivial⟩ ⟨hw2, by simp [shortKey, hbk], hp.pure (hw1.trans hw2)⟩
  rintro ⟨A2, c2, k2⟩ w2 ⟨hz2, hk2, hr2⟩
  simp only at hk2 hr2
  refine t_weak [(3, .ex (pt w.heap.size 0)), (1, .ex (.slice A2 k2.length c2)), (2, .ex (B x))] ⟨rfl, rfl, rfl, trivial⟩ ?_
  have hs2 := hz2.size
  rw [← hk2] at hsk
  repeat (first | refine t_seq ?_ | refine t_region ?_ | refine s_nil ?_ | refine p_then ?_ | refine t_ret ?_ | refine p_then_ret ?_ | refine p_block_ret ?_ | refine t_block ?_ | refine t_exit ?_ | refine p_then_exit ?_ | refine p_block_exit ?_ | refine p_block ?_ | refine t_skip ?_)
  refine s_val (v_load rfl (ld23 (hB1.only hz2 (by simp)))) rfl ?_
  refine s_op (o_call rfl (en rfl) (c96 k s b w2)) rfl rfl ?_
  rintro _ w3 hw3 rfl
  rw [← hH]
  refine s_op (o_makeSlice rt24 rfl rfl (Nat.le_refl _) (by omega) (by omega)) rfl rfl ?_
  rintro _ w4 hw4 ⟨rfl, hB4⟩
  refine s_val (v_assign rfl) rfl ?_
  obtain ⟨g, hg⟩ : ∃ g, g = w3.heap.size := ⟨_, rfl⟩
  rw [← hg] at hB4
  rw [← hg]
  have hB4' : Blk w4 g 5 ((zeros H.block).map B).toArray := by simpa [zeros] using hB4
  have hz4 : Only [] w w4 := ((hw1.trans hz2).trans hw3).trans hw4
  have hgw : w.heap.size ≤ g := by have := hw3.size; omega
  obtain ⟨K, hKe⟩ : ∃ K, K = k2 ++ zeros (H.block - k2.length) := ⟨_, rfl⟩
  have hKl : K.length = H.block := by rw [hKe]; simp [zeros]; omega
  repeat (first | refine t_seq ?_ | refine t_region ?_ | refine s_nil ?_ | refine p_then ?_ | refine t_ret ?_ | refine p_then_ret ?_ | refine p_block_ret ?_ | refine t_block ?_ | refine t_exit ?_ | refine p_then_exit ?_ | refine p_block_exit ?_ | refine p_block ?_ | refine t_skip ?_)
  refine s_val (v_move rfl) rfl ?_
  refine s_val (v_move rfl) rfl ?_
  refine s_op (o_copy (i := 0) rt24 rfl rfl rfl hB4' ((hr2.pure hw3).pure hw4) (fun _ => rfl) (by simp [zeros]; omega)) rfl rfl ?_
  rintro _ w5 hw5 ⟨_, hB5⟩
  rw [splC_bytes, spl_zeros _ _ hsk, ← hKe] at hB5
  have hz5 : Only [] w w5 := hz4.trans_new hw5 (by simp; omega)
  refine s_nil (p_then ?_)
  refine t_cut (fun _ : Unit => [(7, .ex (.slice (some ⟨g, 0, none⟩) H.block H.block))]) (fun _ w' => Only [] w w' ∧ Blk w' g 5 ((K.map (· ^^^ x)).map B).toArray) ?_ ?_
  · repeat (first | refine t_seq ?_ | refine t_region ?_ | refine s_nil ?_ | refine p_then ?_ | refine t_ret ?_ | refine p_then_ret ?_ | refine p_block_ret ?_ | refine t_block ?_ | refine t_exit ?_ | refine p_then_exit ?_ | refine p_block_exit ?_ | refine p_block ?_ | refine t_skip ?_)
    refine s_val (v_move rfl) rfl ?_
    refine s_val (v_len rfl (so rfl) rfl) rfl ?_
    refine s_val (v_move rfl) rfl ?_
    repeat (first | refine t_seq ?_ | refine t_region ?_ | refine s_nil ?_ | refine p_then ?_ | refine t_ret ?_ | refine p_then_ret ?_ | refine p_block_ret ?_ | refine t_block ?_ | refine t_exit ?_ | refine p_then_exit ?_ | refine p_block_exit ?_ | refine p_block ?_ | refine t_skip ?_)
    refine t_loop (fun i : Nat => [(25, .ex (I i)), (24, .ex (I H.block)), (7, .ex (.slice (some ⟨g, 0, none⟩) H.block H.block)), (2, .ex (B x))]) (fun i w' => i ≤ H.block ∧ Only [] w w' ∧ Blk w' g 5 ((spl K 0 ((K.map (· ^^^ x)).take i)).map B).toArray) (fun i => H.block - i) 0 ⟨rfl, rfl, rfl, rfl, trivial⟩
      ⟨Nat.zero_le _, hz5, by simpa [spl_nil] using hB5⟩ ?_
    rintro i w6 ⟨hi, hz6, hB6⟩
    repeat (first | refine t_seq ?_ | refine t_region ?_ | refine s_nil ?_ | refine p_then ?_ | refine t_ret ?_ | refine p_then_ret ?_ | refine p_block_ret ?_ | refine t_block ?_ | refine t_exit ?_ | refine p_then_exit ?_ | refine p_block_exit ?_ | refine p_block ?_ | refine t_skip ?_)
    refine s_val (v_ltI rfl rfl) rfl ?_
    repeat (first | refine t_seq ?_ | refine t_region ?_ | refine s_nil ?_ | refine p_then ?_ | refine t_ret ?_ | refine p_then_ret ?_ | refine p_block_ret ?_ | refine t_block ?_ | refine t_exit ?_ | refine p_then_exit ?_ | refine p_block_exit ?_ | refine p_block ?_ | refine t_skip ?_)
    refine t_if rfl (fun hb => ?_) (fun hb => ?_)
    · have hi' : i < H.block := by have := of_decide_eq_true hb; omega
      have hml : 0 + ((K.map (· ^^^ x)).take i).length ≤ K.length := by simp; omega
      have hsl := spl_length hml
      have hval : (spl K 0 ((K.map (· ^^^ x)).take i)).getD i 0 = K.getD i 0 := spl_at K _ i (by omega) (by simp)
      repeat (first | refine t_seq ?_ | refine t_region ?_ | refine s_nil ?_ | refine p_then ?_ | refine t_ret ?_ | refine p_then_ret ?_ | refine p_block_ret ?_ | refine t_block ?_ | refine t_exit ?_ | refine p_then_exit ?_ | refine p_block_exit ?_ | refine p_block ?_ | refine t_skip ?_)
      refine s_val (v_move rfl) rfl ?_
      refine s_val (v_assign rfl) rfl ?_
      repeat (first | refine t_seq ?_ | refine t_region ?_ | refine s_nil ?_ | refine p_then ?_ | refine t_ret ?_ | refine p_then_ret ?_ | refine p_block_ret ?_ | refine t_block ?_ | refine t_exit ?_ | refine p_then_exit ?_ | refine p_block_exit ?_ | refine p_block ?_ | refine t_skip ?_)
      refine s_val (v_move rfl) rfl ?_
      refine s_val (v_move rfl) rfl ?_
      refine s_val (v_indexSlice rfl rfl (so rfl) (by omega)) rfl ?_
      refine s_val (v_load1 rfl (sc rfl) (by first | exact hB6.byte0 (by omega) | assumption)) rfl ?_
      refine s_val (v_move rfl) rfl ?_
      refine s_val (v_xorB rfl rfl) rfl ?_
      refine s_val (v_indexSlice rfl rfl (so rfl) (by omega)) rfl ?_
      refine s_storeB rfl rfl (si rfl) hB6 (by omega) rfl (fun w7 hw7 hB7 => ?_)
      rw [hval, spl_set (b := K.getD i 0 ^^^ x) (by simp) (map_get K x i (by omega))] at hB7
      repeat (first | refine t_seq ?_ | refine t_region ?_ | refine s_nil ?_ | refine p_then ?_ | refine t_ret ?_ | refine p_then_ret ?_ | refine p_block_ret ?_ | refine t_block ?_ | refine t_exit ?_ | refine p_then_exit ?_ | refine p_block_exit ?_ | refine p_block ?_ | refine t_skip ?_)
      refine s_val (v_addI rfl opc (by omega)) rfl ?_
      refine s_val (v_move rfl) rfl ?_
      repeat (first | refine t_seq ?_ | refine t_region ?_ | refine s_nil ?_ | refine p_then ?_ | refine t_ret ?_ | refine p_then_ret ?_ | refine p_block_ret ?_ | refine t_block ?_ | refine t_exit ?_ | refine p_then_exit ?_ | refine p_block_exit ?_ | refine p_block ?_ | refine t_skip ?_)
      exact p_round (i + 1) (Nat.sub_lt_sub_left hi' (Nat.lt_succ_self i)) ⟨rfl, rfl, rfl, rfl, trivial⟩ ⟨hi', hz6.trans_new hw7 (by simp; omega), hB7⟩
    · have hi' : i = H.block := by have := of_decide_eq_false hb; omega
      subst hi'
      rw [List.take_of_length_le (by rw [List.length_map]; omega), spl_all (by simp)] at hB6
      repeat (first | refine t_seq ?_ | refine t_region ?_ | refine s_nil ?_ | refine p_then ?_ | refine t_ret ?_ | refine p_then_ret ?_ | refine p_block_ret ?_ | refine t_block ?_ | refine t_exit ?_ | refine p_then_exit ?_ | refine p_block_exit ?_ | refine p_block ?_ | refine t_skip ?_)
      exact p_cut () ⟨rfl, trivial⟩ ⟨hz6, hB6⟩
  rintro _ w6 ⟨hz6, hB6⟩
  have hpd : K.map (· ^^^ x) = padded H key x := by rw [hKe, hk2, padded_eq]
  rw [hpd] at hB6
  have hpl := padded_length hok key x
  have hown := Own.of hB6 (by rw [hpl]; simp only [maxLen]; omega)
  rw [hpl] at hown
  repeat (first | refine t_seq ?_ | refine t_region ?_ | refine s_nil ?_ | refine p_then ?_ | refine t_ret ?_ | refine p_then_ret ?_ | refine p_block_ret ?_ | refine t_block ?_ | refine t_exit ?_ | refine p_then_exit ?_ | refine p_block_exit ?_ | refine p_block ?_ | refine t_skip ?_)
  refine s_val (v_move rfl) rfl ?_
  refine s_val (v_assign rfl) rfl ?_
  repeat (first | refine t_seq ?_ | refine t_region ?_ | refine s_nil ?_ | refine p_then ?_ | refine t_ret ?_ | refine p_then_ret ?_ | refine p_block_ret ?_ | refine t_block ?_ | refine t_exit ?_ | refine p_then_exit ?_ | refine p_block_exit ?_ | refine p_block ?_ | refine t_skip ?_)
  exact ret1 rfl rfl ⟨_, rfl, hz6, hown, fun k hk => by cases hk; exact hgw⟩
theorem f81 {N : Nat} {Γ : Env} {w w0 : World} {d : Option Tmp} {ty : TypeId} {pos : String} {af : Array Edge} {gd : Option (Nat × Bool)} {k s b : Int} {A : Option Addr} {c : Nat} {key : Bytes} {z : UInt8} {x y u : Operand} {ats : Array TypeId} (hx : Γ.ops [x, y, u] = some [hv k s b, .slice A key.length c, B z]) (hp : Rd w0 A key) (hl : key.length ≤ 60000) (hz : Only [] w0 w) :
    OpAt Tryz.prog N Γ w ⟨d, .call ⟨.value (.func 81), #[x, y, u], ats⟩, ty, pos, af, gd⟩ (Only []) (Sl (padded (hkOf k s b) key z)) :=
  opAt_mono (o_call (vs := [hv k s b, .slice A key.length c, B z]) hx (en rfl) (c81 k s b A c key z w (hp.pure hz) hl)) (fun _ h => h) (fun _ _ _ h => h.sl)
set_option maxHeartbeats 2000000 in
/-- spec.Mac -/
theorem c61 (k s b : Int) (A A' : Option Addr) (c c' : Nat) (key data : Bytes) (w : World) (hp : Rd w A key) (hl : key.length ≤ 60000) (hp' : Rd w A' data) (hl' : data.length ≤ 50000) (hc' : data.length ≤ c') :
    Calls Tryz.prog 61 #[hv k s b, .slice A key.length c, .slice A' data.length c'] w (Ret [] w (Fresh w (mac (hkOf k s b) key data))) := by
  have hok := hkOf_ok k s b
  have hbl := HK.block_le hok
  have hsl := HK.size_le hok
  have hpl := padded_length hok key
  refine enter (Γ := [(0, .ex (hv k s b)), (1, .ex (.slice A key.length c)), (2, .ex (.slice A' data.length c'))]) Tryz.func61 rfl rfl rfl ⟨⟨_, rfl, rfl⟩, ⟨_, rfl, rfl⟩, ⟨_, rfl, rfl⟩, trivial⟩ ?_
  repeat (first | refine t_seq ?_ | refine t_region ?_ | refine s_nil ?_ | refine p_then ?_ | refine t_ret ?_ | refine p_then_ret ?_ | refine p_block_ret ?_ | refine t_block ?_ | refine t_exit ?_ | refine p_then_exit ?_ | refine p_block_exit ?_ | refine p_block ?_ | refine t_skip ?_)
  refine s_op (o_box rfl) rfl rfl ?_
  rintro _ w1 hw1 ⟨rfl, hB1⟩
  refine s_val (v_assign rfl) rfl ?_
  have hs1 := hw1.size
  repeat (first | refine t_seq ?_ | refine t_region ?_ | refine s_nil ?_ | refine p_then ?_ | refine t_ret ?_ | refine p_then_ret ?_ | refine p_block_ret ?_ | refine t_block ?_ | refine t_exit ?_ | refine p_then_exit ?_ | refine p_block_exit ?_ | refine p_block ?_ | refine t_skip ?_)
  refine t_drawO 7 (by kernel_rfl) rfl ?_
  refine fk_val Only.refl' (fun wF hR => v_load rfl (ld23 (hB1.only hR (by simp)))) ?_
  refine fk_val Only.refl' (fun wF hR => v_load rfl (ld23 (hB1.only hR (by simp)))) ?_
  refine fk_val (Only.refl _) (fun wF hR => v_move rfl) ?_
  refine fk_op (st_s (l := padded (hkOf k s b) key 0x36)) (fun wF hR => f81 (z := 0x36) rfl (hp.pure hw1) hl hR) ?_
  refine fk_val (Only.refl _) (fun wF hR => v_move rfl) ?_
  refine fk_op st_jp (fun wF hR => o_parts (ls := [padded (hkOf k s b) key 0x36, data]) rt30 rfl rfl (by show 0 < 2; decide) (by show 2 ≤ 1000; decide) (fun a ha => ⟨ha.get (.tmp 11) (by simp [Op.operands]) _ rfl, ⟨A', c', ha.val (x := .tmp 12) (by simp [Op.operands]) rfl, hc', (hp'.pure hw1).pure hR⟩, trivial⟩)) ?_
  refine fk_op st_s (fun wF hR => f35 rfl (by simp [hpl]; omega) (by show 2 ≤ 1000; decide)) ?_
  refine fk_nil (fun w2 hw2 => ?_)
  refine x_open 14 rfl (fun v h => ?_)
  obtain ⟨A2, c2, rfl, hc2, hr2⟩ := h
  have hfl : [padded (hkOf k s b) key 0x36, data].flatten = padded (hkOf k s b) key 0x36 ++ data := by simp
  rw [hfl] at hc2 hr2
  rw [hfl]
  refine x_weak [(8, .ex (hv k s b)), (14, .ex (.slice A2 (padded (hkOf k s b) key 0x36 ++ data).length c2)), (1, .ex (.slice A key.length c)), (3, .ex (pt w.heap.size 0))] ⟨rfl, rfl, rfl, rfl, trivial⟩ ?_
  refine s_op (o_call rfl (en rfl) (c60 k s b A2 c2 _ w2 hr2 (by simp [hpl]; omega))) rfl rfl ?_
  rintro v3 w3 hw3 ⟨hv3, hf3⟩
  refine s_val (v_assign rfl) rfl ?_
  obtain ⟨X, hX⟩ : ∃ X, X = (hkOf k s b).hash (padded (hkOf k s b) key 0x36 ++ data) := ⟨_, rfl⟩
  have hXl : X.length = (hkOf k s b).size := by rw [hX, HK.hash_length]
  rw [← hX] at hv3
  obtain ⟨A3, c3, rfl, hc3, hr3, _⟩ := hv3.slice
  have hz3 := (hw1.trans hw2).trans hw3
  have hB3 := (hB1.only hw2 (by simp)).only hw3 (by simp)
  repeat (first | refine t_seq ?_ | refine t_region ?_ | refine s_nil ?_ | refine p_then ?_ | refine t_ret ?_ | refine p_then_ret ?_ | refine p_block_ret ?_ | refine t_block ?_ | refine t_exit ?_ | refine p_then_exit ?_ | refine p_block_exit ?_ | refine p_block ?_ | refine t_skip ?_)
  refine t_drawO 7 (by kernel_rfl) rfl ?_
  refine fk_val Only.refl' (fun wF hR => v_load rfl (ld23 (hB3.only hR (by simp)))) ?_
  refine fk_val Only.refl' (fun wF hR => v_load rfl (ld23 (hB3.only hR (by simp)))) ?_
  refine fk_val (Only.refl _) (fun wF hR => v_move rfl) ?_
  refine fk_op (st_s (l := padded (hkOf k s b) key 0x5c)) (fun wF hR => f81 (z := 0x5c) rfl (hp.pure hz3) hl hR) ?_
  refine fk_val (Only.refl _) (fun wF hR => v_move rfl) ?_
  refine fk_op st_jp (fun wF hR => o_parts (ls := [padded (hkOf k s b) key 0x5c, X]) rt30 rfl rfl (by show 0 < 2; decide) (by show 2 ≤ 1000; decide) (fun a ha => ⟨ha.get (.tmp 19) (by simp [Op.operands]) _ rfl, ⟨A3, c3, ha.val (x := .tmp 20) (by simp [Op.operands]) rfl, hc3, hr3.pure hR⟩, trivial⟩)) ?_
  refine fk_op st_s (fun wF hR => f35 rfl (by simp [hpl]; omega) (by show 2 ≤ 1000; decide)) ?_
  refine fk_nil (fun w4 hw4 => ?_)
  refine x_open 22 rfl (fun v h => ?_)
  obtain ⟨A4, c4, rfl, hc4, hr4⟩ := h
  have hfl : [padded (hkOf k s b) key 0x5c, X].flatten = padded (hkOf k s b) key 0x5c ++ X := by simp
  rw [hfl] at hc4 hr4
  rw [hfl]
  refine x_weak [(16, .ex (hv k s b)), (22, .ex (.slice A4 (padded (hkOf k s b) key 0x5c ++ X).length c4))] ⟨rfl, rfl, trivial⟩ ?_
  refine s_op (o_call rfl (en rfl) (c60 k s b A4 c4 _ w4 hr4 (by simp [hpl]; omega))) rfl rfl ?_
  rintro v5 w5 hw5 ⟨hv5, hf5⟩
  refine s_val (v_assign rfl) rfl ?_
  rw [hX] at hv5
  repeat (first | refine t_seq ?_ | refine t_region ?_ | refine s_nil ?_ | refine p_then ?_ | refine t_ret ?_ | refine p_then_ret ?_ | refine p_block_ret ?_ | refine t_block ?_ | refine t_exit ?_ | refine p_then_exit ?_ | refine p_block_exit ?_ | refine p_block ?_ | refine t_skip ?_)
  exact ret1 rfl rfl ⟨_, rfl, (hz3.trans hw4).trans hw5, hv5, hf5.mono (hz3.trans hw4).size⟩
/-- spec.Extract -/
theorem c58 (k s b : Int) (A A' : Option Addr) (c c' : Nat) (secret salt : Bytes) (w : World) (hp : Rd w A secret) (hl : secret.length ≤ 50000) (hc : secret.length ≤ c) (hp' : Rd w A' salt) (hl' : salt.length ≤ 50000) (hc' : salt.length ≤ c') :
    Calls Tryz.prog 58 #[hv k s b, .slice A secret.length c, .slice A' salt.length c'] w (Ret [] w (Fresh w (extract (hkOf k s b) secret salt))) := by
  have hok := hkOf_ok k s b
  have hsl := HK.size_le hok
  refine enter (Γ := [(0, .ex (hv k s b)), (1, .ex (.slice A secret.length c)), (2, .ex (.slice A' salt.length c'))]) Tryz.func58 rfl rfl rfl ⟨⟨_, rfl, rfl⟩, ⟨_, rfl, rfl⟩, ⟨_, rfl, rfl⟩, trivial⟩ ?_
  repeat (first | refine t_seq ?_ | refine t_region ?_ | refine s_nil ?_ | refine p_then ?_ | refine t_ret ?_ | refine p_then_ret ?_ | refine p_block_ret ?_ | refine t_block ?_ | refine t_exit ?_ | refine p_then_exit ?_ | refine p_block_exit ?_ | refine p_block ?_ | refine t_skip ?_)
  refine s_op (o_box rfl) rfl rfl ?_
  rintro _ w1 hw1 ⟨rfl, hB1⟩
  refine s_val (v_assign rfl) rfl ?_
  have hs1 := hw1.size
  refine s_nil (p_then ?_)
  refine t_cut (fun s : KS => [(3, .ex (pt w.heap.size 0)), (1, .ex (.slice A secret.length c)), (2, .ex (.slice s.A s.k.length s.c))]) (fun q w' => Only [] w1 w' ∧ q.k = given (hkOf k s b) salt ∧ Rd w' q.A q.k ∧ q.k.length ≤ q.c ∧ q.k.length ≤ 50000) ?_ ?_
  · repeat (first | refine t_seq ?_ | refine t_region ?_ | refine s_nil ?_ | refine p_then ?_ | refine t_ret ?_ | refine p_then_ret ?_ | refine p_block_ret ?_ | refine t_block ?_ | refine t_exit ?_ | refine p_then_exit ?_ | refine p_block_exit ?_ | refine p_block ?_ | refine t_skip ?_)
    refine s_val (v_move rfl) rfl ?_
    refine s_val (v_len rfl (so rfl) rfl) rfl ?_
    refine s_val (v_eqI rfl rfl) rfl ?_
    repeat (first | refine t_seq ?_ | refine t_region ?_ | refine s_nil ?_ | refine p_then ?_ | refine t_ret ?_ | refine p_then_ret ?_ | refine p_block_ret ?_ | refine t_block ?_ | refine t_exit ?_ | refine p_then_exit ?_ | refine p_block_exit ?_ | refine p_block ?_ | refine t_skip ?_)
    refine t_if rfl (fun hb => ?_) (fun hb => ?_)
    · have hs0 : salt = [] := by
        have := eq_of_beq hb
        exact List.eq_nil_of_length_eq_zero (by omega)
      repeat (first | refine t_seq ?_ | refine t_region ?_ | refine s_nil ?_ | refine p_then ?_ | refine t_ret ?_ | refine p_then_ret ?_ | refine p_block_ret ?_ | refine t_block ?_ | refine t_exit ?_ | refine p_then_exit ?_ | refine p_block_exit ?_ | refine p_block ?_ | refine t_skip ?_)
      refine s_val (v_load rfl (ld23 hB1)) rfl ?_
      refine s_op (o_call rfl (en rfl) (c24 k s b w1)) rfl rfl ?_
      rintro _ w2 hw2 rfl
      refine s_op (o_makeSlice rt24 rfl rfl (Nat.le_refl _) (by omega) (by omega)) rfl rfl ?_
      rintro _ w3 hw3 ⟨rfl, hB3⟩
      refine s_val (v_assign rfl) rfl ?_
      have hB3' : Blk w3 w2.heap.size 5 ((zeros (hkOf k s b).size).map B).toArray := by simpa [zeros] using hB3
      repeat (first | refine t_seq ?_ | refine t_region ?_ | refine s_nil ?_ | refine p_then ?_ | refine t_ret ?_ | refine p_then_ret ?_ | refine p_block_ret ?_ | refine t_block ?_ | refine t_exit ?_ | refine p_then_exit ?_ | refine p_block_exit ?_ | refine p_block ?_ | refine t_skip ?_)
      exact p_cut ⟨some ⟨w2.heap.size, 0, none⟩, (hkOf k s b).size, zeros (hkOf k s b).size⟩ ⟨rfl, rfl, congrArg (fun n => some (Slot.ex (.slice (some ⟨w2.heap.size, 0, none⟩) n (hkOf k s b).size))) (zeros_length _).symm, trivial⟩ ⟨hw2.trans hw3, by rw [given, if_pos hs0], hB3'.rd0, by simp [zeros], by simp [zeros]; omega⟩
    · have hs0 : salt ≠ [] := by
        have := ne_of_beq_false hb
        rintro rfl
        simp at this
      repeat (first | refine t_seq ?_ | refine t_region ?_ | refine s_nil ?_ | refine p_then ?_ | refine t_ret ?_ | refine p_then_ret ?_ | refine p_block_ret ?_ | refine t_block ?_ | refine t_exit ?_ | refine p_then_exit ?_ | refine p_block_exit ?_ | refine p_block ?_ | refine t_skip ?_)
      exact p_cut ⟨A', c', salt⟩ ⟨rfl, rfl, rfl, trivial⟩ ⟨Only.refl _ _, by rw [given, if_neg hs0], hp'.pure hw1, hc', hl'⟩
  rintro ⟨A2, c2, k2⟩ w2 ⟨hz2, hk2, hr2, hc2, hl2⟩
  simp only at hk2 hr2 hc2 hl2
  refine t_weak [(3, .ex (pt w.heap.size 0)), (1, .ex (.slice A secret.length c)), (2, .ex (.slice A2 k2.length c2))] ⟨rfl, rfl, rfl, trivial⟩ ?_
  repeat (first | refine t_seq ?_ | refine t_region ?_ | refine s_nil ?_ | refine p_then ?_ | refine t_ret ?_ | refine p_then_ret ?_ | refine p_block_ret ?_ | refine t_block ?_ | refine t_exit ?_ | refine p_then_exit ?_ | refine p_block_exit ?_ | refine p_block ?_ | refine t_skip ?_)
  refine s_val (v_load rfl (ld23 (hB1.only hz2 (by simp)))) rfl ?_
  refine s_val (v_move rfl) rfl ?_
  refine s_val (v_move rfl) rfl ?_
  refine s_op (o_call rfl (en rfl) (c61 k s b A2 A c2 c k2 secret w2 hr2 (by omega) (hp.pure (hw1.trans hz2)) (by omega) hc)) rfl rfl ?_
  rintro v3 w3 hw3 ⟨hv3, hf3⟩
  refine s_val (v_assign rfl) rfl ?_
  rw [hk2] at hv3
  repeat (first | refine t_seq ?_ | refine t_region ?_ | refine s_nil ?_ | refine p_then ?_ | refine t_ret ?_ | refine p_then_ret ?_ | refine p_block_ret ?_ | refine t_block ?_ | refine t_exit ?_ | refine p_then_exit ?_ | refine p_block_exit ?_ | refine p_block ?_ | refine t_skip ?_)
  exact ret1 rfl rfl ⟨_, rfl, (hw1.trans hz2).trans hw3, hv3, hf3.mono (hw1.trans hz2).size⟩
end
end Go.Proofs.YtnaefgnjdmmmcaaGreatDoor
/- The spec in the program: Expand. -/
namespace Go.Proofs.YtnaefgnjdmmmcaaGreatDoor
open Go.RowKit
attribute [local irreducible] ValAt OpAt RunX Tr Post FlowK
structure XS where
  i : Nat
  o : Value
  A : Option Addr
  c : Nat
set_option maxHeartbeats 2000000 in
/-- spec.Expand -/
theorem c62 (k s b : Int) (A A' : Option Addr) (c c' : Nat) (prk info : Bytes) (n : Nat) (w : World) (hp : Rd w A prk) (hl : prk.length ≤ 50000) (hp' : Rd w A' info) (hl' : info.length ≤ 20000) (hc' : info.length ≤ c') (hn : n ≤ 32) :
    Calls Tryz.prog 62 #[hv k s b, .slice A prk.length c, .slice A' info.length c', I n] w (Ret [] w (Sl (expand (hkOf k s b) prk info n))) := by
  have hok := hkOf_ok k s b
  have hsl := HK.size_le hok
  have hsp := HK.size_pos hok
  obtain ⟨H, hH⟩ : ∃ H, H = hkOf k s b := ⟨_, rfl⟩
  rw [← hH] at hok hsl hsp
  rw [← hH]
  refine enter (Γ := [(0, .ex (hv k s b)), (1, .ex (.slice A prk.length c)), (2, .ex (.slice A' info.length c')), (3, .ex (I n))]) Tryz.func62 rfl rfl rfl ⟨⟨_, rfl, rfl⟩, ⟨_, rfl, rfl⟩, ⟨_, rfl, rfl⟩, ⟨_, rfl, rfl⟩, trivial⟩ ?_
  repeat (first | refine t_seq ?_ | refine t_region ?_ | refine s_nil ?_ | refine p_then ?_ | refine t_ret ?_ | refine p_then_ret ?_ | refine p_block_ret ?_ | refine t_block ?_ | refine t_exit ?_ | refine p_then_exit ?_ | refine p_block_exit ?_ | refine p_block ?_ | refine t_skip ?_)
  refine s_op (o_box rfl) rfl rfl ?_
  rintro _ w1 hw1 ⟨rfl, hB1⟩
  refine s_val (v_assign rfl) rfl ?_
  repeat (first | refine t_seq ?_ | refine t_region ?_ | refine s_nil ?_ | refine p_then ?_ | refine t_ret ?_ | refine p_then_ret ?_ | refine p_block_ret ?_ | refine t_block ?_ | refine t_exit ?_ | refine p_then_exit ?_ | refine p_block_exit ?_ | refine p_block ?_ | refine t_skip ?_)
  refine s_op (o_buildSlice0 rt24) rfl rfl ?_
  rintro _ w2 hw2 ⟨rfl, hB2⟩
  refine s_op (o_buildSlice0 rt24) rfl rfl ?_
  rintro _ w3 hw3 ⟨rfl, hB3⟩
  refine s_val (v_assign rfl) rfl ?_
  refine s_val (v_assign rfl) rfl ?_
  have hv3 : Own w3 (.slice (some ⟨w1.heap.size, 0, none⟩) 0 0) [] := (Own.zero hB2 rfl (by simp)).only hw3 (by simp [Nots])
  have hf3 : From w1.heap.size (.slice (some ⟨w1.heap.size, 0, none⟩) 0 0) := fun k hk => by
    cases hk; exact Nat.le_refl _
  have hlt1 := hB1.lt
  have hz3 := hw2.trans hw3
  have hbx := (hB1.only hw2 (by simp)).only hw3 (by simp)
  refine s_nil (p_then ?_)
  refine t_cut (fun s : XS => [(9, .ex s.o), (3, .ex (I n))]) (fun s w' => Only [] w w' ∧ n ≤ s.i * H.size ∧ Own w' s.o (tees H prk info s.i)) ?_ ?_
  · repeat (first | refine t_seq ?_ | refine t_region ?_ | refine s_nil ?_ | refine p_then ?_ | refine t_ret ?_ | refine p_then_ret ?_ | refine p_block_ret ?_ | refine t_block ?_ | refine t_exit ?_ | refine p_then_exit ?_ | refine p_block_exit ?_ | refine p_block ?_ | refine t_skip ?_)
    refine s_val (v_assign rfl) rfl ?_
    repeat (first | refine t_seq ?_ | refine t_region ?_ | refine s_nil ?_ | refine p_then ?_ | refine t_ret ?_ | refine p_then_ret ?_ | refine p_block_ret ?_ | refine t_block ?_ | refine t_exit ?_ | refine p_then_exit ?_ | refine p_block_exit ?_ | refine p_block ?_ | refine t_skip ?_)
    refine t_loop (fun s : XS => [(9, .ex s.o), (10, .ex (.slice s.A (tee H prk info s.i).length s.c)), (11, .ex (I (s.i + 1))), (4, .ex (pt w.heap.size 0)), (1, .ex (.slice A prk.length c)), (2, .ex (.slice A' info.length c')), (3, .ex (I n))])
      (fun q w' => q.i ≤ 32 ∧ Only [] w1 w' ∧ Blk w' w.heap.size 23 (hv k s b).cells ∧ Own w' q.o (tees H prk info q.i) ∧ From w1.heap.size q.o ∧ Rd w' q.A (tee H prk info q.i) ∧ (tee H prk info q.i).length ≤ q.c) (fun s => n - s.i * H.size) ⟨0, .slice (some ⟨w1.heap.size, 0, none⟩) 0 0, some ⟨w2.heap.size, 0, none⟩, 0⟩ ⟨rfl, rfl, rfl, rfl, rfl, rfl, rfl, trivial⟩
      ⟨by simp, hz3, hbx, hv3, hf3, Rd.nil _ _, by simp [tee]⟩ ?_
    clear hv3 hf3 hz3 hbx hB1 hB2 hB3
    rintro ⟨i, o, At, ct⟩ w4 ⟨hi, hz4, hB4, ho4, hf4, hr4, hct⟩
    simp only at hi ho4 hf4 hr4 hct
    have htl := tees_length H prk info i
    obtain ⟨Ao, co, rfl, hco, hro, hoo⟩ := ho4.slice
    refine t_weak [(9, .ex (.slice Ao (tees H prk info i).length co)), (10, .ex (.slice At (tee H prk info i).length ct)), (11, .ex (I (i + 1))), (4, .ex (pt w.heap.size 0)), (1, .ex (.slice A prk.length c)), (2, .ex (.slice A' info.length c')), (3, .ex (I n))] ⟨rfl, rfl, rfl, rfl, rfl, rfl, rfl, trivial⟩ ?_
    repeat (first | refine t_seq ?_ | refine t_region ?_ | refine s_nil ?_ | refine p_then ?_ | refine t_ret ?_ | refine p_then_ret ?_ | refine p_block_ret ?_ | refine t_block ?_ | refine t_exit ?_ | refine p_then_exit ?_ | refine p_block_exit ?_ | refine p_block ?_ | refine t_skip ?_)
    refine s_val (v_move rfl) rfl ?_
    refine s_val (v_len rfl (so rfl) rfl) rfl ?_
    refine s_val (v_move rfl) rfl ?_
    refine s_val (v_ltI rfl rfl) rfl ?_
    repeat (first | refine t_seq ?_ | refine t_region ?_ | refine s_nil ?_ | refine p_then ?_ | refine t_ret ?_ | refine p_then_ret ?_ | refine p_block_ret ?_ | refine t_block ?_ | refine t_exit ?_ | refine p_then_exit ?_ | refine p_block_exit ?_ | refine p_block ?_ | refine t_skip ?_)
    refine t_if rfl (fun hb => ?_) (fun hb => ?_)
    · have hin : i * H.size < n := by have := of_decide_eq_true hb; omega
      clear hb
      have hi31 : i < 32 := by
        rcases Nat.lt_or_ge i 32 with h | h
        · exact h
        · have := Nat.le_mul_of_pos_right i hsp; omega
      have htee : (tee H prk info i).length ≤ 32 := by
        cases i with
        | zero => simp [tee]
        | succ j => rw [tee_length]; exact hsl
      repeat (first | refine t_seq ?_ | refine t_region ?_ | refine s_nil ?_ | refine p_then ?_ | refine t_ret ?_ | refine p_then_ret ?_ | refine p_block_ret ?_ | refine t_block ?_ | refine t_exit ?_ | refine p_then_exit ?_ | refine p_block_exit ?_ | refine p_block ?_ | refine t_skip ?_)
      refine t_drawO 9 (by kernel_rfl) rfl ?_
      refine fk_val Only.refl' (fun wF hR => v_load rfl (ld23 (hB4.only hR (by simp)))) ?_
      refine fk_val (Only.refl _) (fun wF hR => v_move rfl) ?_
      refine fk_val (Only.refl _) (fun wF hR => v_move rfl) ?_
      refine fk_val (Only.refl _) (fun wF hR => v_move rfl) ?_
      refine fk_val (Only.refl _) (fun wF hR => v_move rfl) ?_
      refine fk_val (Only.refl _) (fun wF hR => v_convIB rfl (ko rfl) (ko rfl)) ?_
      refine fk_op (st_s (l := [UInt8.ofNat (i + 1)])) (fun wF hR => o_byteRow rt24 rfl) ?_
      refine fk_op st_jp (fun wF hR => o_parts (ls := [tee H prk info i, info, [UInt8.ofNat (i + 1)]]) rt30 rfl rfl (by show 0 < 3; decide) (by show 3 ≤ 1000; decide) (fun a ha => ⟨⟨At, ct, ha.val (x := .tmp 22) (by simp [Op.operands]) rfl, hct, hr4.pure hR⟩, ⟨A', c', ha.val (x := .tmp 23) (by simp [Op.operands]) rfl, hc', (hp'.pure (hw1.trans hz4)).pure hR⟩, ha.get (.tmp 26) (by simp [Op.operands]) _ rfl, trivial⟩)) ?_
      refine fk_op st_s (fun wF hR => f35 rfl (by simp; omega) (by show 3 ≤ 1000; decide)) ?_
      refine fk_nil (fun w5 hw5 => ?_)
      refine x_open 28 rfl (fun v h => ?_)
      obtain ⟨A5, c5, rfl, hc5, hr5⟩ := h
      have hfl : [tee H prk info i, info, [UInt8.ofNat (i + 1)]].flatten = tee H prk info i ++ info ++ [UInt8.ofNat (i + 1)] := by simp
      rw [hfl] at hc5 hr5
      rw [hfl]
      refine x_weak [(20, .ex (hv k s b)), (21, .ex (.slice A prk.length c)), (28, .ex (.slice A5 (tee H prk info i ++ info ++ [UInt8.ofNat (i + 1)]).length c5)), (9, .ex (.slice Ao (tees H prk info i).length co)), (11, .ex (I (i + 1))), (4, .ex (pt w.heap.size 0)), (1, .ex (.slice A prk.length c)), (2, .ex (.slice A' info.length c')), (3, .ex (I n))] ⟨rfl, rfl, rfl, rfl, rfl, rfl, rfl, rfl, rfl, trivial⟩ ?_
      have hz5 := hz4.trans hw5
      refine s_op (o_call rfl (en rfl) (c61 k s b A A5 c c5 prk _ w5 (hp.pure (hw1.trans hz5)) (by omega) hr5 (by simp; omega) hc5)) rfl rfl ?_
      rintro v6 w6 hw6 ⟨hv6, hf6⟩
      refine s_val (v_assign rfl) rfl ?_
      rw [← hH] at hv6
      have hteq : mac H prk (tee H prk info i ++ info ++ [UInt8.ofNat (i + 1)]) = tee H prk info (i + 1) := rfl
      rw [hteq] at hv6
      obtain ⟨A6, c6, rfl, hc6, hr6, _⟩ := hv6.slice
      have hz6 := hz5.trans hw6
      have htl1 := tee_length H prk info i
      repeat (first | refine t_seq ?_ | refine t_region ?_ | refine s_nil ?_ | refine p_then ?_ | refine t_ret ?_ | refine p_then_ret ?_ | refine p_block_ret ?_ | refine t_block ?_ | refine t_exit ?_ | refine p_then_exit ?_ | refine p_block_exit ?_ | refine p_block ?_ | refine t_skip ?_)
      refine s_val (v_move rfl) rfl ?_
      refine s_val (v_move rfl) rfl ?_
      refine s_op (o_appB rt24 rfl rfl rfl Tryz.underlying24 ((ho4.only hw5 (by simp [Nots])).only hw6 (by simp [Nots])) hr6 (by omega) mem_own) rfl rfl ?_
      rintro v7 w7 hw7 h7
      refine s_val (v_assign rfl) rfl ?_
      have hB6 := (hB4.only hw5 (by simp)).only hw6 (by simp)
      have hB7 := hB6.only hw7 (fun hm => by have := hf4 _ (of_own hm); omega)
      have hr7 : Rd w7 A6 (tee H prk info (i + 1)) := hr6.only hw7 (fun _ => hf6.off (fun k hm => by have := ho4.lt (of_own hm); have := hw5.size; omega))
      obtain ⟨ho7, hf7, hz7⟩ := grow hf4 hz6 hw7 h7
      repeat (first | refine t_seq ?_ | refine t_region ?_ | refine s_nil ?_ | refine p_then ?_ | refine t_ret ?_ | refine p_then_ret ?_ | refine p_block_ret ?_ | refine t_block ?_ | refine t_exit ?_ | refine p_then_exit ?_ | refine p_block_exit ?_ | refine p_block ?_ | refine t_skip ?_)
      refine s_val (v_move rfl) rfl ?_
      refine s_val (v_addI rfl opc (by omega)) rfl ?_
      refine s_val (v_assign rfl) rfl ?_
      repeat (first | refine t_seq ?_ | refine t_region ?_ | refine s_nil ?_ | refine p_then ?_ | refine t_ret ?_ | refine p_then_ret ?_ | refine p_block_ret ?_ | refine t_block ?_ | refine t_exit ?_ | refine p_then_exit ?_ | refine p_block_exit ?_ | refine p_block ?_ | refine t_skip ?_)
      exact p_round ⟨i + 1, v7, A6, c6⟩ (by show n - (i + 1) * H.size < n - i * H.size; rw [Nat.succ_mul]; omega) ⟨rfl, rfl, rfl, rfl, rfl, rfl, rfl, trivial⟩ ⟨hi31, hz7, hB7, ho7, hf7, hr7, hc6⟩
    · have hin : n ≤ i * H.size := by have := of_decide_eq_false hb; omega
      repeat (first | refine t_seq ?_ | refine t_region ?_ | refine s_nil ?_ | refine p_then ?_ | refine t_ret ?_ | refine p_then_ret ?_ | refine p_block_ret ?_ | refine t_block ?_ | refine t_exit ?_ | refine p_then_exit ?_ | refine p_block_exit ?_ | refine p_block ?_ | refine t_skip ?_)
      exact p_cut ⟨i, .slice Ao (tees H prk info i).length co, At, ct⟩ ⟨rfl, rfl, trivial⟩ ⟨hw1.trans hz4, hin, ho4⟩
  rintro ⟨i, o, At, ct⟩ w4 ⟨hz4, hin, ho4⟩
  simp only at hin ho4
  have htl := tees_length H prk info i
  obtain ⟨Ao, co, rfl, hco, hro, _⟩ := ho4.slice
  refine t_weak [(9, .ex (.slice Ao (tees H prk info i).length co)), (3, .ex (I n))] ⟨rfl, rfl, trivial⟩ ?_
  repeat (first | refine t_seq ?_ | refine t_region ?_ | refine s_nil ?_ | refine p_then ?_ | refine t_ret ?_ | refine p_then_ret ?_ | refine p_block_ret ?_ | refine t_block ?_ | refine t_exit ?_ | refine p_then_exit ?_ | refine p_block_exit ?_ | refine p_block ?_ | refine t_skip ?_)
  refine s_val (v_move rfl) rfl ?_
  refine s_val (v_move rfl) rfl ?_
  refine s_val (v_sliceHi rfl rfl (so rfl) (by omega)) rfl ?_
  refine s_val (v_assign rfl) rfl ?_
  repeat (first | refine t_seq ?_ | refine t_region ?_ | refine s_nil ?_ | refine p_then ?_ | refine t_ret ?_ | refine p_then_ret ?_ | refine p_block_ret ?_ | refine t_block ?_ | refine t_exit ?_ | refine p_then_exit ?_ | refine p_block_exit ?_ | refine p_block ?_ | refine t_skip ?_)
  have hel := expand_length hok prk info n
  refine ret1 rfl rfl ⟨_, rfl, hz4, Ao, co, by rw [hel], by rw [hel]; omega, ?_⟩
  rw [expand_eq hok hin]
  exact hro.take n
end Go.Proofs.YtnaefgnjdmmmcaaGreatDoor
/- The spec in the program: ExpandLabel. -/
namespace Go.Proofs.YtnaefgnjdmmmcaaGreatDoor
open Go.RowKit
/-- A slice of bytes converted to its own type: its block is marked, its bytes stay. -/
theorem o_mark {P : Program} {N : Nat} {Γ : Env} {w : World} {d : Option Tmp} {ty : TypeId} {pos : String} {af : Array Edge} {gd : Option (Nat × Bool)} {x : Operand} {t e T : TypeId} {g n c : Nat} {l : Bytes} (hx : Γ.op x = some (.ex (.slice (some ⟨g, 0, none⟩) n c))) (hu : P.underlying t = some (.slice e)) (he : P.underlying e = some (.int .u8)) (hB : Blk w g T (l.map B).toArray) :
    OpAt P N Γ w ⟨d, .convert t t x, ty, pos, af, gd⟩ (Only [g]) (fun v w' => v = .slice (some ⟨g, 0, none⟩) n c ∧ Rd w' (some ⟨g, 0, none⟩) l) :=
  opAt_val fun a ha => by
    have h1 := ha.val (x := x) (by simp [Op.operands]) hx
    have hsh : w.shape? g = some (T, l.length) := by
      unfold Blk at hB
      simp [World.shape?, hB]
    have hlt := hB.lt
    have hh : (w.freeze ⟨g, l.length, none⟩ 1).heap[g]? = some (.cells (l.map B).toArray T (l.length, l.length + 1)) := by
      unfold Blk at hB
      simp [World.freeze, Array.getElem?_modify, hB]
    refine ⟨.slice (some ⟨g, 0, none⟩) n c, w.freeze ⟨g, l.length, none⟩ 1, ?_, ⟨rfl, rfl, rfl, by simp [World.freeze], fun i hi hg => ?_⟩, rfl, fun hne => ⟨g, 0, rfl, by simpa [World.freeze] using hlt, fun j b hb => ?_⟩⟩
    · simp [execOp, h1, convert, run_underlying hu, run_underlying he, markStringish, hsh]
    · have : g ≠ i := fun e => hg (by simp [e])
      simp [World.freeze, Array.getElem?_modify, this]
    · simp [World.cell?, hh, hb]
theorem Rd.sl {w : World} {A : Option Addr} {l : Bytes} {c : Nat} (h : Rd w A l) (hc : l.length ≤ c) : Sl l (.slice A l.length c) w := ⟨A, c, rfl, hc, h⟩
section
attribute [local irreducible] ValAt OpAt RunX Tr Post FlowK
theorem f35' {N : Nat} {Γ : Env} {w : World} {d : Option Tmp} {ty : TypeId} {pos : String} {af : Array Edge} {gd : Option (Nat × Bool)} {ls : List Bytes} {v : Value} {x : Operand} {ats : Array TypeId} (hx : Γ.op x = some (.ex v)) (h : JP ls v w) (hn : ls.flatten.length ≤ 200000) (hl : ls.length ≤ 1000) :
    OpAt Tryz.prog N Γ w ⟨d, .call ⟨.value (.func 35), #[x], ats⟩, ty, pos, af, gd⟩ (Only []) (Fresh w ls.flatten) :=
  o_call (vs := [v]) (xs := [x]) (by simp [Env.ops, hx]) (en rfl) (c35 v ls w h hn hl)
set_option maxHeartbeats 2000000 in
/-- spec.ExpandLabel -/
theorem c34 (k s b : Int) (A A' : Option Addr) (c c' : Nat) (secret label ctx : Bytes) (n : Nat) (w : World) (hp : Rd w A secret) (hl : secret.length ≤ 50000) (hla : label.length ≤ 249) (hp' : Rd w A' ctx) (hl' : ctx.length ≤ 255) (hc' : ctx.length ≤ c') (hn : n ≤ 32) :
    Calls Tryz.prog 34 #[hv k s b, .slice A secret.length c, S label, .slice A' ctx.length c', I n] w (Ret [] w (Sl (expandLabel (hkOf k s b) secret label ctx n))) := by
  refine enter (Γ := [(0, .ex (hv k s b)), (1, .ex (.slice A secret.length c)), (2, .ex (S label)), (3, .ex (.slice A' ctx.length c')), (4, .ex (I n))]) Tryz.func34 rfl rfl rfl ⟨⟨_, rfl, rfl⟩, ⟨_, rfl, rfl⟩, ⟨_, rfl, rfl⟩, ⟨_, rfl, rfl⟩, ⟨_, rfl, rfl⟩, trivial⟩ ?_
  repeat (first | refine t_seq ?_ | refine t_region ?_ | refine s_nil ?_ | refine p_then ?_ | refine t_ret ?_ | refine p_then_ret ?_ | refine p_block_ret ?_ | refine t_block ?_ | refine t_exit ?_ | refine p_then_exit ?_ | refine p_block_exit ?_ | refine p_block ?_ | refine t_skip ?_)
  refine s_op (o_box rfl) rfl rfl ?_
  rintro _ w1 hw1 ⟨rfl, hB1⟩
  refine s_val (v_assign rfl) rfl ?_
  have hlt1 := hB1.lt
  repeat (first | refine t_seq ?_ | refine t_region ?_ | refine s_nil ?_ | refine p_then ?_ | refine t_ret ?_ | refine p_then_ret ?_ | refine p_block_ret ?_ | refine t_block ?_ | refine t_exit ?_ | refine p_then_exit ?_ | refine p_block_exit ?_ | refine p_block ?_ | refine t_skip ?_)
  refine s_op (o_buildSlice rt24 rfl rfl rfl (by decide) (by decide) (by simp [Value.cells])) rfl rfl ?_
  rintro _ w2 hw2 ⟨rfl, hB2⟩
  refine s_op (o_mark (l := [116, 108, 115, 49, 51, 32]) rfl Tryz.underlying24 u5 hB2) rfl rfl ?_
  rintro _ w3 hw3 ⟨rfl, hr3⟩
  refine s_val (v_move rfl) rfl ?_
  refine s_op (o_bytes rfl u9 Tryz.underlying24 u5) rfl rfl ?_
  rintro _ w4 hw4 ⟨c4, rfl, hc4, hr4, hlt4⟩
  refine s_op (o_parts (ls := [[116, 108, 115, 49, 51, 32], label]) rt30 rfl rfl (by show 0 < 2; decide) (by show 2 ≤ 1000; decide) (fun a ha => ⟨⟨_, 6, ha.val (x := .tmp 14) (by simp [Op.operands]) rfl, by decide, hr3.pure hw4⟩, ⟨_, c4, ha.val (x := .tmp 16) (by simp [Op.operands]) rfl, hc4, hr4⟩, trivial⟩)) rfl rfl ?_
  rintro v5 w5 hw5 h5
  refine s_op (f35' rfl h5 (by simp; omega) (by show 2 ≤ 1000; decide)) rfl rfl ?_
  rintro v6 w6 hw6 ⟨hv6, hf6⟩
  refine s_val (v_assign rfl) rfl ?_
  have hfl : [[116, 108, 115, 49, 51, 32], label].flatten = [116, 108, 115, 49, 51, 32] ++ label := by simp
  rw [hfl] at hv6
  obtain ⟨A6, c6, rfl, hc6, hr6, _⟩ := hv6.slice
  have hnl : (([116, 108, 115, 49, 51, 32] : Bytes) ++ label).length = 6 + label.length := by simp; omega
  rw [hnl] at hc6
  rw [hnl]
  have hs1 := hw1.size
  have hz3 : Only [] w w3 := (hw1.trans hw2).trans_new hw3 (by simp; omega)
  have hz6 : Only [] w w6 := ((hz3.trans hw4).trans hw5).trans hw6
  have hB3 := (hB1.only hw2 (by simp)).only hw3 (by simp; omega)
  have hB6 := ((hB3.only hw4 (by simp)).only hw5 (by simp)).only hw6 (by simp)
  have hlab : [[UInt8.ofNat (n / 2 ^ 8), UInt8.ofNat n, UInt8.ofNat (6 + label.length)], [116, 108, 115, 49, 51, 32] ++ label, [UInt8.ofNat ctx.length], ctx].flatten = labelOf label ctx n := by simp [labelOf]
  have hlabl : (labelOf label ctx n).length ≤ 20000 := by simp [labelOf]; omega
  repeat (first | refine t_seq ?_ | refine t_region ?_ | refine s_nil ?_ | refine p_then ?_ | refine t_ret ?_ | refine p_then_ret ?_ | refine p_block_ret ?_ | refine t_block ?_ | refine t_exit ?_ | refine p_then_exit ?_ | refine p_block_exit ?_ | refine p_block ?_ | refine t_skip ?_)
  refine s_val (v_move rfl) rfl ?_
  refine s_val (v_shrL rfl opc (by show 8 ≤ 64; decide)) rfl ?_
  refine s_val (v_convIB rfl (ko rfl) (ko rfl)) rfl ?_
  refine s_val (v_move rfl) rfl ?_
  refine s_val (v_convIB rfl (ko rfl) (ko rfl)) rfl ?_
  refine s_val (v_move rfl) rfl ?_
  refine s_val (v_len rfl (so rfl) rfl) rfl ?_
  refine s_val (v_convIB rfl (ko rfl) (ko rfl)) rfl ?_
  refine s_op (o_buildSlice rt24 rfl rfl rfl (by show 0 < 3; decide) (by show 3 ≤ 16777216; decide) (by simp [Value.cells])) rfl rfl ?_
  rintro _ w7 hw7 ⟨rfl, hB7⟩
  refine s_val (v_move rfl) rfl ?_
  refine s_val (v_move rfl) rfl ?_
  refine s_val (v_len rfl (so rfl) rfl) rfl ?_
  refine s_val (v_convIB rfl (ko rfl) (ko rfl)) rfl ?_
  refine s_op (o_buildSlice rt24 rfl rfl rfl (by show 0 < 1; decide) (by show 1 ≤ 16777216; decide) (by simp [Value.cells])) rfl rfl ?_
  rintro _ w8 hw8 ⟨rfl, hB8⟩
  refine s_val (v_move rfl) rfl ?_
  refine s_op (o_parts (ls := [[UInt8.ofNat (n / 2 ^ 8), UInt8.ofNat n, UInt8.ofNat (6 + label.length)], [116, 108, 115, 49, 51, 32] ++ label, [UInt8.ofNat ctx.length], ctx]) rt30 rfl rfl (by show 0 < 4; decide) (by show 4 ≤ 1000; decide) (fun a ha => ⟨⟨_, 3, ha.val (x := .tmp 27) (by simp [Op.operands]) rfl, by show 3 ≤ 3; decide, (Blk.rd0 (l := [UInt8.ofNat (n / 2 ^ 8), UInt8.ofNat n, UInt8.ofNat (6 + label.length)]) hB7).pure hw8⟩, ⟨A6, c6, by rw [hnl]; exact ha.val (x := .tmp 28) (by simp [Op.operands]) rfl, by rw [hnl]; exact hc6, (hr6.pure hw7).pure hw8⟩, ⟨_, 1, ha.val (x := .tmp 32) (by simp [Op.operands]) rfl, by show 1 ≤ 1; decide, Blk.rd0 (l := [UInt8.ofNat ctx.length]) hB8⟩, ⟨A', c', ha.val (x := .tmp 33) (by simp [Op.operands]) rfl, hc', ((hp'.pure hz6).pure hw7).pure hw8⟩, trivial⟩)) rfl rfl ?_
  rintro v9 w9 hw9 h9
  refine s_op (f35' rfl h9 (by rw [hlab]; omega) (by show 4 ≤ 1000; decide)) rfl rfl ?_
  rintro v10 w10 hw10 ⟨hv10, hf10⟩
  refine s_val (v_assign rfl) rfl ?_
  rw [hlab] at hv10
  obtain ⟨A10, c10, rfl, hc10, hr10, _⟩ := hv10.slice
  have hz10 := (((hz6.trans hw7).trans hw8).trans hw9).trans hw10
  have hB10 := (((hB6.only hw7 (by simp)).only hw8 (by simp)).only hw9 (by simp)).only hw10 (by simp)
  repeat (first | refine t_seq ?_ | refine t_region ?_ | refine s_nil ?_ | refine p_then ?_ | refine t_ret ?_ | refine p_then_ret ?_ | refine p_block_ret ?_ | refine t_block ?_ | refine t_exit ?_ | refine p_then_exit ?_ | refine p_block_exit ?_ | refine p_block ?_ | refine t_skip ?_)
  refine s_val (v_load rfl (ld23 hB10)) rfl ?_
  refine s_val (v_move rfl) rfl ?_
  refine s_val (v_move rfl) rfl ?_
  refine s_val (v_move rfl) rfl ?_
  refine s_op (o_call rfl (en rfl) (c62 k s b A A10 c c10 secret (labelOf label ctx n) n w10 (hp.pure hz10) hl hr10 hlabl hc10 hn)) rfl rfl ?_
  rintro v11 w11 hw11 h11
  refine s_val (v_assign rfl) rfl ?_
  repeat (first | refine t_seq ?_ | refine t_region ?_ | refine s_nil ?_ | refine p_then ?_ | refine t_ret ?_ | refine p_then_ret ?_ | refine p_block_ret ?_ | refine t_block ?_ | refine t_exit ?_ | refine p_then_exit ?_ | refine p_block_exit ?_ | refine p_block ?_ | refine t_skip ?_)
  exact ret1 rfl rfl ⟨_, rfl, hz10.trans hw11, h11⟩
end
end Go.Proofs.YtnaefgnjdmmmcaaGreatDoor
/- The spec in the program: the secrets of the schedule. -/
namespace Go.Proofs.YtnaefgnjdmmmcaaGreatDoor
open Go.RowKit
attribute [local irreducible] ValAt OpAt RunX Tr Post FlowK
section
variable {N : Nat} {Γ : Env} {w : World} {d : Option Tmp} {ty : TypeId} {pos : String} {af : Array Edge} {gd : Option (Nat × Bool)}
theorem f60 {k s b : Int} {A : Option Addr} {c : Nat} {l : Bytes} {x y : Operand} {ats : Array TypeId} (hx : Γ.ops [x, y] = some [hv k s b, .slice A l.length c]) (hp : Rd w A l) (hl : l.length ≤ 60000) :
    OpAt Tryz.prog N Γ w ⟨d, .call ⟨.value (.func 60), #[x, y], ats⟩, ty, pos, af, gd⟩ (Only []) (Sl ((hkOf k s b).hash l)) :=
  opAt_mono (o_call (vs := [hv k s b, .slice A l.length c]) hx (en rfl) (c60 k s b A c l w hp hl)) (fun _ h => h) (fun _ _ _ h => h.sl)
theorem f24 {k s b : Int} {x : Operand} {ats : Array TypeId} (hx : Γ.ops [x] = some [hv k s b]) :
    OpAt Tryz.prog N Γ w ⟨d, .call ⟨.value (.func 24), #[x], ats⟩, ty, pos, af, gd⟩ (Only []) (fun v _ => v = I (hkOf k s b).size) :=
  o_call (vs := [hv k s b]) hx (en rfl) (c24 k s b w)
theorem f59 {k s b : Int} {A : Option Addr} {c : Nat} {l : Bytes} {x y : Operand} {ats : Array TypeId} (hx : Γ.ops [x, y] = some [hv k s b, .slice A l.length c]) (hp : Rd w A l) (hc : l.length ≤ c) :
    OpAt Tryz.prog N Γ w ⟨d, .call ⟨.value (.func 59), #[x, y], ats⟩, ty, pos, af, gd⟩ (Only []) (Sl (given (hkOf k s b) l)) :=
  o_call (vs := [hv k s b, .slice A l.length c]) hx (en rfl) (c59 k s b A c l w hp hc)
end
set_option maxHeartbeats 1000000 in
/-- spec.DeriveSecret -/
theorem c30 (k s b : Int) (A A' : Option Addr) (c c' : Nat) (secret label msgs : Bytes) (w : World) (hp : Rd w A secret) (hl : secret.length ≤ 50000) (hla : label.length ≤ 249) (hp' : Rd w A' msgs) (hl' : msgs.length ≤ 60000) :
    Calls Tryz.prog 30 #[hv k s b, .slice A secret.length c, S label, .slice A' msgs.length c'] w (Ret [] w (Sl (derive (hkOf k s b) secret label msgs))) := by
  have hok := hkOf_ok k s b
  have hsl := HK.size_le hok
  refine enter (Γ := [(0, .ex (hv k s b)), (1, .ex (.slice A secret.length c)), (2, .ex (S label)), (3, .ex (.slice A' msgs.length c'))]) Tryz.func30 rfl rfl rfl ⟨⟨_, rfl, rfl⟩, ⟨_, rfl, rfl⟩, ⟨_, rfl, rfl⟩, ⟨_, rfl, rfl⟩, trivial⟩ ?_
  repeat (first | refine t_seq ?_ | refine t_region ?_ | refine s_nil ?_ | refine p_then ?_ | refine t_ret ?_ | refine p_then_ret ?_ | refine p_block_ret ?_ | refine t_block ?_ | refine t_exit ?_ | refine p_then_exit ?_ | refine p_block_exit ?_ | refine p_block ?_ | refine t_skip ?_)
  refine s_op (o_box rfl) rfl rfl ?_
  rintro _ w1 hw1 ⟨rfl, hB1⟩
  refine s_val (v_assign rfl) rfl ?_
  repeat (first | refine t_seq ?_ | refine t_region ?_ | refine s_nil ?_ | refine p_then ?_ | refine t_ret ?_ | refine p_then_ret ?_ | refine p_block_ret ?_ | refine t_block ?_ | refine t_exit ?_ | refine p_then_exit ?_ | refine p_block_exit ?_ | refine p_block ?_ | refine t_skip ?_)
  refine t_drawO 8 (by kernel_rfl) rfl ?_
  refine fk_val Only.refl' (fun wF hR => v_load rfl (ld23 (hB1.only hR (by simp)))) ?_
  refine fk_val (Only.refl _) (fun wF hR => v_move rfl) ?_
  refine fk_val (Only.refl _) (fun wF hR => v_move rfl) ?_
  refine fk_val Only.refl' (fun wF hR => v_load rfl (ld23 (hB1.only hR (by simp)))) ?_
  refine fk_val (Only.refl _) (fun wF hR => v_move rfl) ?_
  refine fk_op st_s (fun wF hR => f60 rfl ((hp'.pure hw1).pure hR) hl') ?_
  refine fk_val Only.refl' (fun wF hR => v_load rfl (ld23 (hB1.only hR (by simp)))) ?_
  refine fk_ex (fun wF hR => f24 rfl) ?_
  refine fk_nil (fun w2 hw2 => ?_)
  refine x_open 14 rfl (fun v h => ?_)
  obtain ⟨A2, c2, rfl, hc2, hr2⟩ := h
  have hhl := HK.hash_length (hkOf k s b) msgs
  refine x_weak [(9, .ex (hv k s b)), (10, .ex (.slice A secret.length c)), (11, .ex (S label)), (14, .ex (.slice A2 ((hkOf k s b).hash msgs).length c2)), (16, .ex (I (hkOf k s b).size))] ⟨rfl, rfl, rfl, rfl, rfl, trivial⟩ ?_
  refine s_op (o_call rfl (en rfl) (c34 k s b A A2 c c2 secret label _ (hkOf k s b).size w2 (hp.pure (hw1.trans hw2)) hl hla hr2 (by omega) hc2 hsl)) rfl rfl ?_
  rintro v3 w3 hw3 h3
  refine s_val (v_assign rfl) rfl ?_
  repeat (first | refine t_seq ?_ | refine t_region ?_ | refine s_nil ?_ | refine p_then ?_ | refine t_ret ?_ | refine p_then_ret ?_ | refine p_block_ret ?_ | refine t_block ?_ | refine t_exit ?_ | refine p_then_exit ?_ | refine p_block_exit ?_ | refine p_block ?_ | refine t_skip ?_)
  exact ret1 rfl rfl ⟨_, rfl, (hw1.trans hw2).trans hw3, h3⟩
theorem f30 {N : Nat} {Γ : Env} {w : World} {d : Option Tmp} {ty : TypeId} {pos : String} {af : Array Edge} {gd : Option (Nat × Bool)} {k s b : Int} {secret label : Bytes} {x y z : Operand} {ats : Array TypeId} (hx : Γ.op x = some (.ex (hv k s b))) (hy : Γ.op y = some (.ab (Sl secret))) (hz : Γ.op z = some (.ex (S label))) (hl : secret.length ≤ 50000) (hla : label.length ≤ 249) :
    OpAt Tryz.prog N Γ w ⟨d, .call ⟨.value (.func 30), #[x, y, z, .const (.slice none 0 0)], ats⟩, ty, pos, af, gd⟩ (Only []) (Sl (derive (hkOf k s b) secret label [])) :=
  o_callA (xs := [x, y, z, .const (.slice none 0 0)]) (en rfl) fun a ha => by
    obtain ⟨A, c, he, _, hr⟩ := ha.get y (by simp [Op.operands, Call.operands]) _ hy
    have e1 := ha.val (x := x) (by simp [Op.operands, Call.operands]) hx
    have e2 := ha.val (x := z) (by simp [Op.operands, Call.operands]) hz
    have e3 : a.eval (.const (.slice none 0 0)) = .slice none 0 0 := rfl
    rw [show ([x, y, z, .const (.slice none 0 0)].map a.eval).toArray = #[hv k s b, .slice A secret.length c, S label, .slice none ([] : Bytes).length 0] from by simp [he, e1, e2, e3]]
    exact c30 k s b A none c 0 secret label [] w hr hl hla (Rd.nil _ _) (by simp)
theorem given_le (H : HK) (l : Bytes) {n : Nat} (hl : l.length ≤ n) (hs : H.size ≤ n) : (given H l).length ≤ n := by
  unfold given
  split
  · rw [zeros_length]; exact hs
  · exact hl
set_option maxHeartbeats 1000000 in
/-- spec.Early -/
theorem c27 (k s b : Int) (A : Option Addr) (c : Nat) (psk : Bytes) (w : World) (hp : Rd w A psk) (hl : psk.length ≤ 20000) (hc : psk.length ≤ c) :
    Calls Tryz.prog 27 #[hv k s b, .slice A psk.length c] w (Ret [] w (Sl (early (hkOf k s b) psk))) := by
  have hok := hkOf_ok k s b
  have hsl := HK.size_le hok
  have hgl : (given (hkOf k s b) psk).length ≤ 20000 := given_le _ _ (by first | exact hl | exact hl' | simp) (by omega)
  refine enter (Γ := [(0, .ex (hv k s b)), (1, .ex (.slice A psk.length c))]) Tryz.func27 rfl rfl rfl ⟨⟨_, rfl, rfl⟩, ⟨_, rfl, rfl⟩, trivial⟩ ?_
  repeat (first | refine t_seq ?_ | refine t_region ?_ | refine s_nil ?_ | refine p_then ?_ | refine t_ret ?_ | refine p_then_ret ?_ | refine p_block_ret ?_ | refine t_block ?_ | refine t_exit ?_ | refine p_then_exit ?_ | refine p_block_exit ?_ | refine p_block ?_ | refine t_skip ?_)
  refine s_op (o_box rfl) rfl rfl ?_
  rintro _ w1 hw1 ⟨rfl, hB1⟩
  refine s_val (v_assign rfl) rfl ?_
  repeat (first | refine t_seq ?_ | refine t_region ?_ | refine s_nil ?_ | refine p_then ?_ | refine t_ret ?_ | refine p_then_ret ?_ | refine p_block_ret ?_ | refine t_block ?_ | refine t_exit ?_ | refine p_then_exit ?_ | refine p_block_exit ?_ | refine p_block ?_ | refine t_skip ?_)
  refine t_drawO 4 (by kernel_rfl) rfl ?_
  refine fk_val Only.refl' (fun wF hR => v_load rfl (ld23 (hB1.only hR (by simp)))) ?_
  refine fk_val Only.refl' (fun wF hR => v_load rfl (ld23 (hB1.only hR (by simp)))) ?_
  refine fk_val (Only.refl _) (fun wF hR => v_move rfl) ?_
  refine fk_op st_s (fun wF hR => f59 rfl ((hp.pure hw1).pure hR) hc) ?_
  refine fk_nil (fun w2 hw2 => ?_)
  refine x_open 8 rfl (fun v h => ?_)
  obtain ⟨A2, c2, rfl, hc2, hr2⟩ := h
  refine x_weak [(5, .ex (hv k s b)), (8, .ex (.slice A2 (given (hkOf k s b) psk).length c2))] ⟨rfl, rfl, trivial⟩ ?_
  refine s_op (o_call rfl (en rfl) (c58 k s b A2 none c2 0 _ [] w2 hr2 (by omega) hc2 (Rd.nil _ _) (by simp) (by simp))) rfl rfl ?_
  rintro v3 w3 hw3 h3
  refine s_val (v_assign rfl) rfl ?_
  repeat (first | refine t_seq ?_ | refine t_region ?_ | refine s_nil ?_ | refine p_then ?_ | refine t_ret ?_ | refine p_then_ret ?_ | refine p_block_ret ?_ | refine t_block ?_ | refine t_exit ?_ | refine p_then_exit ?_ | refine p_block_exit ?_ | refine p_block ?_ | refine t_skip ?_)
  exact ret1 rfl rfl ⟨_, rfl, (hw1.trans hw2).trans hw3, h3.sl⟩
set_option maxHeartbeats 1000000 in
theorem c28 (k s b : Int) (A A' : Option Addr) (c c' : Nat) (psk shared : Bytes) (w : World) (hp : Rd w A psk) (hl : psk.length ≤ 20000) (hc : psk.length ≤ c) (hp' : Rd w A' shared) (hl' : shared.length ≤ 20000) (hc' : shared.length ≤ c') :
    Calls Tryz.prog 28 #[hv k s b, .slice A psk.length c, .slice A' shared.length c'] w (Ret [] w (Sl (handshake (hkOf k s b) psk shared))) := by
  have hok := hkOf_ok k s b
  have hsl := HK.size_le hok
  have hgl : (given (hkOf k s b) shared).length ≤ 20000 := given_le _ _ (by first | exact hl | exact hl' | simp) (by omega)
  have hel := early_length (hkOf k s b) psk
  have hhl := handshake_length (hkOf k s b) psk shared
  refine enter (Γ := [(0, .ex (hv k s b)), (1, .ex (.slice A psk.length c)), (2, .ex (.slice A' shared.length c'))]) Tryz.func28 rfl rfl rfl ⟨⟨_, rfl, rfl⟩, ⟨_, rfl, rfl⟩, ⟨_, rfl, rfl⟩, trivial⟩ ?_
  repeat (first | refine t_seq ?_ | refine t_region ?_ | refine s_nil ?_ | refine p_then ?_ | refine t_ret ?_ | refine p_then_ret ?_ | refine p_block_ret ?_ | refine t_block ?_ | refine t_exit ?_ | refine p_then_exit ?_ | refine p_block_exit ?_ | refine p_block ?_ | refine t_skip ?_)
  refine s_op (o_box rfl) rfl rfl ?_
  rintro _ w1 hw1 ⟨rfl, hB1⟩
  refine s_val (v_assign rfl) rfl ?_
  repeat (first | refine t_seq ?_ | refine t_region ?_ | refine s_nil ?_ | refine p_then ?_ | refine t_ret ?_ | refine p_then_ret ?_ | refine p_block_ret ?_ | refine t_block ?_ | refine t_exit ?_ | refine p_then_exit ?_ | refine p_block_exit ?_ | refine p_block ?_ | refine t_skip ?_)
  refine t_drawO 9 (by kernel_rfl) rfl ?_
  refine fk_val Only.refl' (fun wF hR => v_load rfl (ld23 (hB1.only hR (by simp)))) ?_
  refine fk_val Only.refl' (fun wF hR => v_load rfl (ld23 (hB1.only hR (by simp)))) ?_
  refine fk_val (Only.refl _) (fun wF hR => v_move rfl) ?_
  refine fk_op st_s (fun wF hR => f59 rfl ((hp'.pure hw1).pure hR) hc') ?_
  refine fk_val Only.refl' (fun wF hR => v_load rfl (ld23 (hB1.only hR (by simp)))) ?_
  refine fk_val Only.refl' (fun wF hR => v_load rfl (ld23 (hB1.only hR (by simp)))) ?_
  refine fk_val (Only.refl _) (fun wF hR => v_move rfl) ?_
  refine fk_op st_s (fun wF hR => o_call rfl (en rfl) (c27 k s b A c psk wF ((hp.pure hw1).pure hR) hl hc)) ?_
  refine fk_op st_s (fun wF hR => f30 (label := [100, 101, 114, 105, 118, 101, 100]) rfl rfl rfl (by omega) (by decide)) ?_
  refine fk_nil (fun w2 hw2 => ?_)
  refine x_open 10 rfl (fun v h => ?_)
  obtain ⟨A2, c2, rfl, hc2, hr2⟩ := h
  refine x_open 15 rfl (fun v h => ?_)
  obtain ⟨A3, c3, rfl, hc3, hr3⟩ := h
  have hdl := derive_length hok (early (hkOf k s b) psk) [100, 101, 114, 105, 118, 101, 100] []
  refine x_weak [(7, .ex (hv k s b)), (10, .ex (.slice A2 (given (hkOf k s b) shared).length c2)), (15, .ex (.slice A3 (derive (hkOf k s b) (early (hkOf k s b) psk) [100, 101, 114, 105, 118, 101, 100] []).length c3))] ⟨rfl, rfl, rfl, trivial⟩ ?_
  refine s_op (o_call rfl (en rfl) (c58 k s b A2 A3 c2 c3 _ _ w2 hr2 (by omega) hc2 hr3 (by omega) hc3)) rfl rfl ?_
  rintro v3 w3 hw3 h3
  refine s_val (v_assign rfl) rfl ?_
  repeat (first | refine t_seq ?_ | refine t_region ?_ | refine s_nil ?_ | refine p_then ?_ | refine t_ret ?_ | refine p_then_ret ?_ | refine p_block_ret ?_ | refine t_block ?_ | refine t_exit ?_ | refine p_then_exit ?_ | refine p_block_exit ?_ | refine p_block ?_ | refine t_skip ?_)
  exact ret1 rfl rfl ⟨_, rfl, (hw1.trans hw2).trans hw3, h3.sl⟩
set_option maxHeartbeats 1000000 in
theorem c29 (k s b : Int) (A A' : Option Addr) (c c' : Nat) (psk shared : Bytes) (w : World) (hp : Rd w A psk) (hl : psk.length ≤ 20000) (hc : psk.length ≤ c) (hp' : Rd w A' shared) (hl' : shared.length ≤ 20000) (hc' : shared.length ≤ c') :
    Calls Tryz.prog 29 #[hv k s b, .slice A psk.length c, .slice A' shared.length c'] w (Ret [] w (Sl (master (hkOf k s b) psk shared))) := by
  have hok := hkOf_ok k s b
  have hsl := HK.size_le hok
  have hgl : (given (hkOf k s b) []).length ≤ 20000 := given_le _ _ (by first | exact hl | exact hl' | simp) (by omega)
  have hel := early_length (hkOf k s b) psk
  have hhl := handshake_length (hkOf k s b) psk shared
  refine enter (Γ := [(0, .ex (hv k s b)), (1, .ex (.slice A psk.length c)), (2, .ex (.slice A' shared.length c'))]) Tryz.func29 rfl rfl rfl ⟨⟨_, rfl, rfl⟩, ⟨_, rfl, rfl⟩, ⟨_, rfl, rfl⟩, trivial⟩ ?_
  repeat (first | refine t_seq ?_ | refine t_region ?_ | refine s_nil ?_ | refine p_then ?_ | refine t_ret ?_ | refine p_then_ret ?_ | refine p_block_ret ?_ | refine t_block ?_ | refine t_exit ?_ | refine p_then_exit ?_ | refine p_block_exit ?_ | refine p_block ?_ | refine t_skip ?_)
  refine s_op (o_box rfl) rfl rfl ?_
  rintro _ w1 hw1 ⟨rfl, hB1⟩
  refine s_val (v_assign rfl) rfl ?_
  repeat (first | refine t_seq ?_ | refine t_region ?_ | refine s_nil ?_ | refine p_then ?_ | refine t_ret ?_ | refine p_then_ret ?_ | refine p_block_ret ?_ | refine t_block ?_ | refine t_exit ?_ | refine p_then_exit ?_ | refine p_block_exit ?_ | refine p_block ?_ | refine t_skip ?_)
  refine t_drawO 9 (by kernel_rfl) rfl ?_
  refine fk_val Only.refl' (fun wF hR => v_load rfl (ld23 (hB1.only hR (by simp)))) ?_
  refine fk_val Only.refl' (fun wF hR => v_load rfl (ld23 (hB1.only hR (by simp)))) ?_
  refine fk_op st_s (fun wF hR => f59 (A := none) (c := 0) (l := []) rfl (Rd.nil _ _) (by simp)) ?_
  refine fk_val Only.refl' (fun wF hR => v_load rfl (ld23 (hB1.only hR (by simp)))) ?_
  refine fk_val Only.refl' (fun wF hR => v_load rfl (ld23 (hB1.only hR (by simp)))) ?_
  refine fk_val (Only.refl _) (fun wF hR => v_move rfl) ?_
  refine fk_val (Only.refl _) (fun wF hR => v_move rfl) ?_
  refine fk_op st_s (fun wF hR => o_call rfl (en rfl) (c28 k s b A A' c c' psk shared wF ((hp.pure hw1).pure hR) hl hc ((hp'.pure hw1).pure hR) hl' hc')) ?_
  refine fk_op st_s (fun wF hR => f30 (label := [100, 101, 114, 105, 118, 101, 100]) rfl rfl rfl (by omega) (by decide)) ?_
  refine fk_nil (fun w2 hw2 => ?_)
  refine x_open 9 rfl (fun v h => ?_)
  obtain ⟨A2, c2, rfl, hc2, hr2⟩ := h
  refine x_open 15 rfl (fun v h => ?_)
  obtain ⟨A3, c3, rfl, hc3, hr3⟩ := h
  have hdl := derive_length hok (handshake (hkOf k s b) psk shared) [100, 101, 114, 105, 118, 101, 100] []
  refine x_weak [(7, .ex (hv k s b)), (9, .ex (.slice A2 (given (hkOf k s b) []).length c2)), (15, .ex (.slice A3 (derive (hkOf k s b) (handshake (hkOf k s b) psk shared) [100, 101, 114, 105, 118, 101, 100] []).length c3))] ⟨rfl, rfl, rfl, trivial⟩ ?_
  refine s_op (o_call rfl (en rfl) (c58 k s b A2 A3 c2 c3 _ _ w2 hr2 (by omega) hc2 hr3 (by omega) hc3)) rfl rfl ?_
  rintro v3 w3 hw3 h3
  refine s_val (v_assign rfl) rfl ?_
  repeat (first | refine t_seq ?_ | refine t_region ?_ | refine s_nil ?_ | refine p_then ?_ | refine t_ret ?_ | refine p_then_ret ?_ | refine p_block_ret ?_ | refine t_block ?_ | refine t_exit ?_ | refine p_then_exit ?_ | refine p_block_exit ?_ | refine p_block ?_ | refine t_skip ?_)
  exact ret1 rfl rfl ⟨_, rfl, (hw1.trans hw2).trans hw3, h3.sl⟩
end Go.Proofs.YtnaefgnjdmmmcaaGreatDoor
/- Keys, finished, exported: the spec's and the thin package's. -/
namespace Go.Proofs.YtnaefgnjdmmmcaaGreatDoor
open Go.RowKit
attribute [local irreducible] ValAt OpAt RunX Tr Post FlowK
def keysOf (H : HK) (secret : Bytes) : List Bytes := [expandLabel H secret [107, 101, 121] [] 16, expandLabel H secret [107, 101, 121] [] 32, expandLabel H secret [105, 118] [] 12]
set_option maxHeartbeats 1000000 in
theorem c31 (k s b : Int) (A : Option Addr) (c : Nat) (secret : Bytes) (w : World) (hp : Rd w A secret) (hl : secret.length ≤ 20000) :
    Calls Tryz.prog 31 #[hv k s b, .slice A secret.length c] w (Ret [] w (JP (keysOf (hkOf k s b) secret))) := by
  refine enter (Γ := [(0, .ex (hv k s b)), (1, .ex (.slice A secret.length c))]) Tryz.func31 rfl rfl rfl ⟨⟨_, rfl, rfl⟩, ⟨_, rfl, rfl⟩, trivial⟩ ?_
  repeat (first | refine t_seq ?_ | refine t_region ?_ | refine s_nil ?_ | refine p_then ?_ | refine t_ret ?_ | refine p_then_ret ?_ | refine p_block_ret ?_ | refine t_block ?_ | refine t_exit ?_ | refine p_then_exit ?_ | refine p_block_exit ?_ | refine p_block ?_ | refine t_skip ?_)
  refine s_op (o_box rfl) rfl rfl ?_
  rintro _ w1 hw1 ⟨rfl, hB1⟩
  refine s_val (v_assign rfl) rfl ?_
  repeat (first | refine t_seq ?_ | refine t_region ?_ | refine s_nil ?_ | refine p_then ?_ | refine t_ret ?_ | refine p_then_ret ?_ | refine p_block_ret ?_ | refine t_block ?_ | refine t_exit ?_ | refine p_then_exit ?_ | refine p_block_exit ?_ | refine p_block ?_ | refine t_skip ?_)
  refine t_drawO 9 (by kernel_rfl) rfl ?_
  refine fk_val Only.refl' (fun wF hR => v_load rfl (ld23 (hB1.only hR (by simp)))) ?_
  refine fk_val (Only.refl _) (fun wF hR => v_move rfl) ?_
  refine fk_op (st_s (l := expandLabel (hkOf k s b) secret [107, 101, 121] [] 16)) (fun wF hR => o_call rfl (en rfl) (c34 k s b A none c 0 secret [107, 101, 121] [] 16 wF ((hp.pure hw1).pure hR) (by omega) (by decide) (Rd.nil _ _) (by simp) (by simp) (by decide))) ?_
  refine fk_val Only.refl' (fun wF hR => v_load rfl (ld23 (hB1.only hR (by simp)))) ?_
  refine fk_val (Only.refl _) (fun wF hR => v_move rfl) ?_
  refine fk_op (st_s (l := expandLabel (hkOf k s b) secret [107, 101, 121] [] 32)) (fun wF hR => o_call rfl (en rfl) (c34 k s b A none c 0 secret [107, 101, 121] [] 32 wF ((hp.pure hw1).pure hR) (by omega) (by decide) (Rd.nil _ _) (by simp) (by simp) (by decide))) ?_
  refine fk_val Only.refl' (fun wF hR => v_load rfl (ld23 (hB1.only hR (by simp)))) ?_
  refine fk_val (Only.refl _) (fun wF hR => v_move rfl) ?_
  refine fk_op (st_s (l := expandLabel (hkOf k s b) secret [105, 118] [] 12)) (fun wF hR => o_call rfl (en rfl) (c34 k s b A none c 0 secret [105, 118] [] 12 wF ((hp.pure hw1).pure hR) (by omega) (by decide) (Rd.nil _ _) (by simp) (by simp) (by decide))) ?_
  refine fk_nil (fun w2 hw2 => ?_)
  refine x_open 7 rfl (fun v h => ?_)
  obtain ⟨A2, c2, rfl, hc2, hr2⟩ := h
  refine x_open 10 rfl (fun v h => ?_)
  obtain ⟨A3, c3, rfl, hc3, hr3⟩ := h
  refine x_open 13 rfl (fun v h => ?_)
  obtain ⟨A4, c4, rfl, hc4, hr4⟩ := h
  refine x_weak [(7, .ex (.slice A2 (expandLabel (hkOf k s b) secret [107, 101, 121] [] 16).length c2)), (10, .ex (.slice A3 (expandLabel (hkOf k s b) secret [107, 101, 121] [] 32).length c3)), (13, .ex (.slice A4 (expandLabel (hkOf k s b) secret [105, 118] [] 12).length c4))] ⟨rfl, rfl, rfl, trivial⟩ ?_
  refine s_op (o_parts (ls := keysOf (hkOf k s b) secret) rt30 rfl rfl (by show 0 < 3; decide) (by show 3 ≤ 1000; decide) (fun a ha => ⟨⟨A2, c2, ha.val (x := .tmp 7) (by simp [Op.operands]) rfl, hc2, hr2⟩, ⟨A3, c3, ha.val (x := .tmp 10) (by simp [Op.operands]) rfl, hc3, hr3⟩, ⟨A4, c4, ha.val (x := .tmp 13) (by simp [Op.operands]) rfl, hc4, hr4⟩, trivial⟩)) rfl rfl ?_
  rintro v3 w3 hw3 h3
  refine s_val (v_assign rfl) rfl ?_
  repeat (first | refine t_seq ?_ | refine t_region ?_ | refine s_nil ?_ | refine p_then ?_ | refine t_ret ?_ | refine p_then_ret ?_ | refine p_block_ret ?_ | refine t_block ?_ | refine t_exit ?_ | refine p_then_exit ?_ | refine p_block_exit ?_ | refine p_block ?_ | refine t_skip ?_)
  exact ret1 rfl rfl ⟨_, rfl, (hw1.trans hw2).trans hw3, h3⟩
set_option maxHeartbeats 1000000 in
theorem c15 (k s b : Int) (A : Option Addr) (c : Nat) (secret : Bytes) (w : World) (hp : Rd w A secret) (hl : secret.length ≤ 20000) (hK : KT w) (hw0 : 0 < w.heap.size):
    Calls Tryz.prog 15 #[hv k s b, .slice A secret.length c] w (Ret [] w (JP (keysOf (hkOf k s b) secret))) := by
  refine enter (Γ := [(0, .ex (hv k s b)), (1, .ex (.slice A secret.length c))]) Tryz.func15 rfl rfl rfl ⟨⟨_, rfl, rfl⟩, ⟨_, rfl, rfl⟩, trivial⟩ ?_
  repeat (first | refine t_seq ?_ | refine t_region ?_ | refine s_nil ?_ | refine p_then ?_ | refine t_ret ?_ | refine p_then_ret ?_ | refine p_block_ret ?_ | refine t_block ?_ | refine t_exit ?_ | refine p_then_exit ?_ | refine p_block_exit ?_ | refine p_block ?_ | refine t_skip ?_)
  refine s_op (o_box rfl) rfl rfl ?_
  rintro _ w1 hw1 ⟨rfl, hB1⟩
  refine s_val (v_assign rfl) rfl ?_
  repeat (first | refine t_seq ?_ | refine t_region ?_ | refine s_nil ?_ | refine p_then ?_ | refine t_ret ?_ | refine p_then_ret ?_ | refine p_block_ret ?_ | refine t_block ?_ | refine t_exit ?_ | refine p_then_exit ?_ | refine p_block_exit ?_ | refine p_block ?_ | refine t_skip ?_)
  refine t_drawO 9 (by kernel_rfl) rfl ?_
  refine fk_val Only.refl' (fun wF hR => v_load rfl (ld23 (hB1.only hR (by simp)))) ?_
  refine fk_val (Only.refl _) (fun wF hR => v_move rfl) ?_
  refine fk_op (st_s (l := expandLabel (hkOf k s b) secret [107, 101, 121] [] 16)) (fun wF hR => opAt_mono (o_call rfl (en rfl) (c23 k s b A none c 0 secret [107, 101, 121] [] 16 wF ((hp.pure hw1).pure hR) hl (by decide) (Rd.nil _ _) (by simp) (by decide) (hK.only (hw1.trans hR) (by simp)) (by have := hw1.size; have := hR.size; omega))) (fun _ h => h) (fun _ _ _ (h : Fresh _ _ _ _) => h.sl)) ?_
  refine fk_val Only.refl' (fun wF hR => v_load rfl (ld23 (hB1.only hR (by simp)))) ?_
  refine fk_val (Only.refl _) (fun wF hR => v_move rfl) ?_
  refine fk_op (st_s (l := expandLabel (hkOf k s b) secret [107, 101, 121] [] 32)) (fun wF hR => opAt_mono (o_call rfl (en rfl) (c23 k s b A none c 0 secret [107, 101, 121] [] 32 wF ((hp.pure hw1).pure hR) hl (by decide) (Rd.nil _ _) (by simp) (by decide) (hK.only (hw1.trans hR) (by simp)) (by have := hw1.size; have := hR.size; omega))) (fun _ h => h) (fun _ _ _ (h : Fresh _ _ _ _) => h.sl)) ?_
  refine fk_val Only.refl' (fun wF hR => v_load rfl (ld23 (hB1.only hR (by simp)))) ?_
  refine fk_val (Only.refl _) (fun wF hR => v_move rfl) ?_
  refine fk_op (st_s (l := expandLabel (hkOf k s b) secret [105, 118] [] 12)) (fun wF hR => opAt_mono (o_call rfl (en rfl) (c23 k s b A none c 0 secret [105, 118] [] 12 wF ((hp.pure hw1).pure hR) hl (by decide) (Rd.nil _ _) (by simp) (by decide) (hK.only (hw1.trans hR) (by simp)) (by have := hw1.size; have := hR.size; omega))) (fun _ h => h) (fun _ _ _ (h : Fresh _ _ _ _) => h.sl)) ?_
  refine fk_nil (fun w2 hw2 => ?_)
  refine x_open 7 rfl (fun v h => ?_)
  obtain ⟨A2, c2, rfl, hc2, hr2⟩ := h
  refine x_open 10 rfl (fun v h => ?_)
  obtain ⟨A3, c3, rfl, hc3, hr3⟩ := h
  refine x_open 13 rfl (fun v h => ?_)
  obtain ⟨A4, c4, rfl, hc4, hr4⟩ := h
  refine x_weak [(7, .ex (.slice A2 (expandLabel (hkOf k s b) secret [107, 101, 121] [] 16).length c2)), (10, .ex (.slice A3 (expandLabel (hkOf k s b) secret [107, 101, 121] [] 32).length c3)), (13, .ex (.slice A4 (expandLabel (hkOf k s b) secret [105, 118] [] 12).length c4))] ⟨rfl, rfl, rfl, trivial⟩ ?_
  refine s_op (o_parts (ls := keysOf (hkOf k s b) secret) rt30 rfl rfl (by show 0 < 3; decide) (by show 3 ≤ 1000; decide) (fun a ha => ⟨⟨A2, c2, ha.val (x := .tmp 7) (by simp [Op.operands]) rfl, hc2, hr2⟩, ⟨A3, c3, ha.val (x := .tmp 10) (by simp [Op.operands]) rfl, hc3, hr3⟩, ⟨A4, c4, ha.val (x := .tmp 13) (by simp [Op.operands]) rfl, hc4, hr4⟩, trivial⟩)) rfl rfl ?_
  rintro v3 w3 hw3 h3
  refine s_val (v_assign rfl) rfl ?_
  repeat (first | refine t_seq ?_ | refine t_region ?_ | refine s_nil ?_ | refine p_then ?_ | refine t_ret ?_ | refine p_then_ret ?_ | refine p_block_ret ?_ | refine t_block ?_ | refine t_exit ?_ | refine p_then_exit ?_ | refine p_block_exit ?_ | refine p_block ?_ | refine t_skip ?_)
  exact ret1 rfl rfl ⟨_, rfl, (hw1.trans hw2).trans hw3, h3⟩
end Go.Proofs.YtnaefgnjdmmmcaaGreatDoor
/- finished, exported: the spec's and the thin package's. -/
namespace Go.Proofs.YtnaefgnjdmmmcaaGreatDoor
open Go.RowKit
attribute [local irreducible] ValAt OpAt RunX Tr Post FlowK
def finishedOf (H : HK) (secret msgs : Bytes) : Bytes := mac H (expandLabel H secret [102, 105, 110, 105, 115, 104, 101, 100] [] H.size) (H.hash msgs)
theorem finished_eq {H : HK} (hH : H.ok) (secret msgs : Bytes) : extract H (given H (H.hash msgs)) (expandLabel H secret [102, 105, 110, 105, 115, 104, 101, 100] [] H.size) = finishedOf H secret msgs := by
  have h1 : H.hash msgs ≠ [] := ne_nil_of hH (H.hash_length _)
  have h2 : expandLabel H secret [102, 105, 110, 105, 115, 104, 101, 100] [] H.size ≠ [] := ne_nil_of hH (expand_length hH _ _ _)
  rw [extract, finishedOf, given, if_neg h2, given, if_neg h1]
set_option maxHeartbeats 1000000 in
/-- spec.finished -/
theorem c33 (k s b : Int) (A A' : Option Addr) (c c' : Nat) (secret msgs : Bytes) (w : World) (hp : Rd w A secret) (hl : secret.length ≤ 20000) (hp' : Rd w A' msgs) (hl' : msgs.length ≤ 60000) :
    Calls Tryz.prog 33 #[hv k s b, .slice A secret.length c, .slice A' msgs.length c'] w (Ret [] w (Sl (finishedOf (hkOf k s b) secret msgs))) := by
  have hok := hkOf_ok k s b
  have hsl := HK.size_le hok
  have hhl := HK.hash_length (hkOf k s b) msgs
  have hel : (expandLabel (hkOf k s b) secret [102, 105, 110, 105, 115, 104, 101, 100] [] (hkOf k s b).size).length = (hkOf k s b).size := expand_length hok _ _ _
  refine enter (Γ := [(0, .ex (hv k s b)), (1, .ex (.slice A secret.length c)), (2, .ex (.slice A' msgs.length c'))]) Tryz.func33 rfl rfl rfl ⟨⟨_, rfl, rfl⟩, ⟨_, rfl, rfl⟩, ⟨_, rfl, rfl⟩, trivial⟩ ?_
  repeat (first | refine t_seq ?_ | refine t_region ?_ | refine s_nil ?_ | refine p_then ?_ | refine t_ret ?_ | refine p_then_ret ?_ | refine p_block_ret ?_ | refine t_block ?_ | refine t_exit ?_ | refine p_then_exit ?_ | refine p_block_exit ?_ | refine p_block ?_ | refine t_skip ?_)
  refine s_op (o_box rfl) rfl rfl ?_
  rintro _ w1 hw1 ⟨rfl, hB1⟩
  refine s_val (v_assign rfl) rfl ?_
  repeat (first | refine t_seq ?_ | refine t_region ?_ | refine s_nil ?_ | refine p_then ?_ | refine t_ret ?_ | refine p_then_ret ?_ | refine p_block_ret ?_ | refine t_block ?_ | refine t_exit ?_ | refine p_then_exit ?_ | refine p_block_exit ?_ | refine p_block ?_ | refine t_skip ?_)
  refine t_drawO 9 (by kernel_rfl) rfl ?_
  refine fk_val Only.refl' (fun wF hR => v_load rfl (ld23 (hB1.only hR (by simp)))) ?_
  refine fk_val Only.refl' (fun wF hR => v_load rfl (ld23 (hB1.only hR (by simp)))) ?_
  refine fk_val (Only.refl _) (fun wF hR => v_move rfl) ?_
  refine fk_val Only.refl' (fun wF hR => v_load rfl (ld23 (hB1.only hR (by simp)))) ?_
  refine fk_ex (fun wF hR => f24 rfl) ?_
  refine fk_op st_s (fun wF hR => o_call rfl (en rfl) (c34 k s b A none c 0 secret [102, 105, 110, 105, 115, 104, 101, 100] [] (hkOf k s b).size wF ((hp.pure hw1).pure hR) (by omega) (by decide) (Rd.nil _ _) (by simp) (by simp) hsl)) ?_
  refine fk_val Only.refl' (fun wF hR => v_load rfl (ld23 (hB1.only hR (by simp)))) ?_
  refine fk_val (Only.refl _) (fun wF hR => v_move rfl) ?_
  refine fk_op st_s (fun wF hR => f60 rfl ((hp'.pure hw1).pure hR) hl') ?_
  refine fk_nil (fun w2 hw2 => ?_)
  refine x_open 12 rfl (fun v h => ?_)
  obtain ⟨A2, c2, rfl, hc2, hr2⟩ := h
  refine x_open 15 rfl (fun v h => ?_)
  obtain ⟨A3, c3, rfl, hc3, hr3⟩ := h
  refine x_weak [(7, .ex (hv k s b)), (12, .ex (.slice A2 (expandLabel (hkOf k s b) secret [102, 105, 110, 105, 115, 104, 101, 100] [] (hkOf k s b).size).length c2)), (15, .ex (.slice A3 ((hkOf k s b).hash msgs).length c3))] ⟨rfl, rfl, rfl, trivial⟩ ?_
  refine s_op (o_call rfl (en rfl) (c61 k s b A2 A3 c2 c3 _ _ w2 hr2 (by omega) hr3 (by omega) hc3)) rfl rfl ?_
  rintro v3 w3 hw3 h3
  refine s_val (v_assign rfl) rfl ?_
  repeat (first | refine t_seq ?_ | refine t_region ?_ | refine s_nil ?_ | refine p_then ?_ | refine t_ret ?_ | refine p_then_ret ?_ | refine p_block_ret ?_ | refine t_block ?_ | refine t_exit ?_ | refine p_then_exit ?_ | refine p_block_exit ?_ | refine p_block ?_ | refine t_skip ?_)
  exact ret1 rfl rfl ⟨_, rfl, (hw1.trans hw2).trans hw3, h3.sl⟩
set_option maxHeartbeats 1000000 in
/-- laws.finished -/
theorem c18 (k s b : Int) (A A' : Option Addr) (c c' : Nat) (secret msgs : Bytes) (w : World) (hp : Rd w A secret) (hl : secret.length ≤ 20000) (hp' : Rd w A' msgs) (hl' : msgs.length ≤ 60000) (hK : KT w) (hw0 : 0 < w.heap.size) :
    Calls Tryz.prog 18 #[hv k s b, .slice A secret.length c, .slice A' msgs.length c'] w (Ret [] w (Sl (finishedOf (hkOf k s b) secret msgs))) := by
  have hok := hkOf_ok k s b
  have hsl := HK.size_le hok
  have hhl := HK.hash_length (hkOf k s b) msgs
  have hel : (expandLabel (hkOf k s b) secret [102, 105, 110, 105, 115, 104, 101, 100] [] (hkOf k s b).size).length = (hkOf k s b).size := expand_length hok _ _ _
  refine enter (Γ := [(0, .ex (hv k s b)), (1, .ex (.slice A secret.length c)), (2, .ex (.slice A' msgs.length c'))]) Tryz.func18 rfl rfl rfl ⟨⟨_, rfl, rfl⟩, ⟨_, rfl, rfl⟩, ⟨_, rfl, rfl⟩, trivial⟩ ?_
  repeat (first | refine t_seq ?_ | refine t_region ?_ | refine s_nil ?_ | refine p_then ?_ | refine t_ret ?_ | refine p_then_ret ?_ | refine p_block_ret ?_ | refine t_block ?_ | refine t_exit ?_ | refine p_then_exit ?_ | refine p_block_exit ?_ | refine p_block ?_ | refine t_skip ?_)
  refine s_op (o_box rfl) rfl rfl ?_
  rintro _ w1 hw1 ⟨rfl, hB1⟩
  refine s_val (v_assign rfl) rfl ?_
  have hs1 := hw1.size
  repeat (first | refine t_seq ?_ | refine t_region ?_ | refine s_nil ?_ | refine p_then ?_ | refine t_ret ?_ | refine p_then_ret ?_ | refine p_block_ret ?_ | refine t_block ?_ | refine t_exit ?_ | refine p_then_exit ?_ | refine p_block_exit ?_ | refine p_block ?_ | refine t_skip ?_)
  refine t_drawO 9 (by kernel_rfl) rfl ?_
  refine fk_val Only.refl' (fun wF hR => v_load rfl (ld23 (hB1.only hR (by simp)))) ?_
  refine fk_val Only.refl' (fun wF hR => v_load rfl (ld23 (hB1.only hR (by simp)))) ?_
  refine fk_val (Only.refl _) (fun wF hR => v_move rfl) ?_
  refine fk_op (st_s (l := (hkOf k s b).hash msgs)) (fun wF hR => opAt_mono (o_call rfl (en rfl) (c44 k s b A' c' msgs wF ((hp'.pure hw1).pure hR) hl' (hK.only (hw1.trans hR) (by simp)) (by have := hR.size; omega))) (fun _ h => h) (fun _ _ _ (h : Fresh _ _ _ _) => h.sl)) ?_
  refine fk_val Only.refl' (fun wF hR => v_load rfl (ld23 (hB1.only hR (by simp)))) ?_
  refine fk_val (Only.refl _) (fun wF hR => v_move rfl) ?_
  refine fk_val Only.refl' (fun wF hR => v_load rfl (ld23 (hB1.only hR (by simp)))) ?_
  refine fk_ex (fun wF hR => f24 rfl) ?_
  refine fk_op (st_s (l := expandLabel (hkOf k s b) secret [102, 105, 110, 105, 115, 104, 101, 100] [] (hkOf k s b).size)) (fun wF hR => opAt_mono (o_call rfl (en rfl) (c23 k s b A none c 0 secret [102, 105, 110, 105, 115, 104, 101, 100] [] (hkOf k s b).size wF ((hp.pure hw1).pure hR) hl (by decide) (Rd.nil _ _) (by simp) hsl (hK.only (hw1.trans hR) (by simp)) (by have := hR.size; omega))) (fun _ h => h) (fun _ _ _ (h : Fresh _ _ _ _) => h.sl)) ?_
  refine fk_nil (fun w2 hw2 => ?_)
  refine x_open 10 rfl (fun v h => ?_)
  obtain ⟨A2, c2, rfl, hc2, hr2⟩ := h
  refine x_open 15 rfl (fun v h => ?_)
  obtain ⟨A3, c3, rfl, hc3, hr3⟩ := h
  have hs2 := hw2.size
  refine x_weak [(7, .ex (hv k s b)), (10, .ex (.slice A2 ((hkOf k s b).hash msgs).length c2)), (15, .ex (.slice A3 (expandLabel (hkOf k s b) secret [102, 105, 110, 105, 115, 104, 101, 100] [] (hkOf k s b).size).length c3))] ⟨rfl, rfl, rfl, trivial⟩ ?_
  refine s_op (o_call rfl (en rfl) (c43 k s b A2 A3 c2 c3 _ _ w2 hr2 (by omega) hr3 (by omega) (hK.only (hw1.trans hw2) (by simp)) (by omega))) rfl rfl ?_
  rintro v3 w3 hw3 h3
  refine s_val (v_assign rfl) rfl ?_
  rw [finished_eq hok] at h3
  repeat (first | refine t_seq ?_ | refine t_region ?_ | refine s_nil ?_ | refine p_then ?_ | refine t_ret ?_ | refine p_then_ret ?_ | refine p_block_ret ?_ | refine t_block ?_ | refine t_exit ?_ | refine p_then_exit ?_ | refine p_block_exit ?_ | refine p_block ?_ | refine t_skip ?_)
  exact ret1 rfl rfl ⟨_, rfl, (hw1.trans hw2).trans hw3, h3.sl⟩
set_option maxHeartbeats 1000000 in
/-- spec.Exported -/
theorem c32 (k s b : Int) (A A' : Option Addr) (c c' : Nat) (secret label ctx : Bytes) (n : Nat) (w : World) (hp : Rd w A secret) (hl : secret.length ≤ 20000) (hla : label.length ≤ 249) (hp' : Rd w A' ctx) (hl' : ctx.length ≤ 60000) (hn : n ≤ 32) :
    Calls Tryz.prog 32 #[hv k s b, .slice A secret.length c, S label, .slice A' ctx.length c', I n] w (Ret [] w (Sl (expandLabel (hkOf k s b) (derive (hkOf k s b) secret label []) [101, 120, 112, 111, 114, 116, 101, 114] ((hkOf k s b).hash ctx) n))) := by
  have hok := hkOf_ok k s b
  have hsl := HK.size_le hok
  have hhl := HK.hash_length (hkOf k s b) ctx
  have hdl := derive_length hok secret label []
  refine enter (Γ := [(0, .ex (hv k s b)), (1, .ex (.slice A secret.length c)), (2, .ex (S label)), (3, .ex (.slice A' ctx.length c')), (4, .ex (I n))]) Tryz.func32 rfl rfl rfl ⟨⟨_, rfl, rfl⟩, ⟨_, rfl, rfl⟩, ⟨_, rfl, rfl⟩, ⟨_, rfl, rfl⟩, ⟨_, rfl, rfl⟩, trivial⟩ ?_
  repeat (first | refine t_seq ?_ | refine t_region ?_ | refine s_nil ?_ | refine p_then ?_ | refine t_ret ?_ | refine p_then_ret ?_ | refine p_block_ret ?_ | refine t_block ?_ | refine t_exit ?_ | refine p_then_exit ?_ | refine p_block_exit ?_ | refine p_block ?_ | refine t_skip ?_)
  refine s_op (o_box rfl) rfl rfl ?_
  rintro _ w1 hw1 ⟨rfl, hB1⟩
  refine s_val (v_assign rfl) rfl ?_
  repeat (first | refine t_seq ?_ | refine t_region ?_ | refine s_nil ?_ | refine p_then ?_ | refine t_ret ?_ | refine p_then_ret ?_ | refine p_block_ret ?_ | refine t_block ?_ | refine t_exit ?_ | refine p_then_exit ?_ | refine p_block_exit ?_ | refine p_block ?_ | refine t_skip ?_)
  refine t_drawO 9 (by kernel_rfl) rfl ?_
  refine fk_val Only.refl' (fun wF hR => v_load rfl (ld23 (hB1.only hR (by simp)))) ?_
  refine fk_val Only.refl' (fun wF hR => v_load rfl (ld23 (hB1.only hR (by simp)))) ?_
  refine fk_val (Only.refl _) (fun wF hR => v_move rfl) ?_
  refine fk_val (Only.refl _) (fun wF hR => v_move rfl) ?_
  refine fk_op st_s (fun wF hR => o_call rfl (en rfl) (c30 k s b A none c 0 secret label [] wF ((hp.pure hw1).pure hR) (by omega) hla (Rd.nil _ _) (by simp))) ?_
  refine fk_val Only.refl' (fun wF hR => v_load rfl (ld23 (hB1.only hR (by simp)))) ?_
  refine fk_val (Only.refl _) (fun wF hR => v_move rfl) ?_
  refine fk_op st_s (fun wF hR => f60 rfl ((hp'.pure hw1).pure hR) hl') ?_
  refine fk_val (Only.refl _) (fun wF hR => v_move rfl) ?_
  refine fk_nil (fun w2 hw2 => ?_)
  refine x_open 15 rfl (fun v h => ?_)
  obtain ⟨A2, c2, rfl, hc2, hr2⟩ := h
  refine x_open 18 rfl (fun v h => ?_)
  obtain ⟨A3, c3, rfl, hc3, hr3⟩ := h
  refine x_weak [(11, .ex (hv k s b)), (15, .ex (.slice A2 (derive (hkOf k s b) secret label []).length c2)), (18, .ex (.slice A3 ((hkOf k s b).hash ctx).length c3)), (19, .ex (I n))] ⟨rfl, rfl, rfl, rfl, trivial⟩ ?_
  refine s_op (o_call rfl (en rfl) (c34 k s b A2 A3 c2 c3 _ [101, 120, 112, 111, 114, 116, 101, 114] _ n w2 hr2 (by omega) (by decide) hr3 (by omega) hc3 hn)) rfl rfl ?_
  rintro v3 w3 hw3 h3
  refine s_val (v_assign rfl) rfl ?_
  repeat (first | refine t_seq ?_ | refine t_region ?_ | refine s_nil ?_ | refine p_then ?_ | refine t_ret ?_ | refine p_then_ret ?_ | refine p_block_ret ?_ | refine t_block ?_ | refine t_exit ?_ | refine p_then_exit ?_ | refine p_block_exit ?_ | refine p_block ?_ | refine t_skip ?_)
  exact ret1 rfl rfl ⟨_, rfl, (hw1.trans hw2).trans hw3, h3⟩
end Go.Proofs.YtnaefgnjdmmmcaaGreatDoor
/- laws.same. -/
namespace Go.Proofs.YtnaefgnjdmmmcaaGreatDoor
open Go.RowKit
attribute [local irreducible] ValAt OpAt RunX Tr Post FlowK
theorem sc24 : scalar Tryz.prog 24 = true := sc rfl
set_option maxHeartbeats 1000000 in
/-- laws.same, of two rows that read alike -/
theorem c7 (v1 v2 : Value) (ls : List Bytes) (w : World) (h1 : JP ls v1 w) (h2 : JP ls v2 w) (hl : ls.length ≤ 1000) : Calls Tryz.prog 7 #[v1, v2] w (Ret [] w fun v _ => v = .bool true) := by
  obtain ⟨g1, p1, rfl, hB1, he1, hr1⟩ := h1
  obtain ⟨g2, p2, rfl, hB2, he2, hr2⟩ := h2
  refine enter (Γ := [(0, .ex (.slice (some ⟨g1, 0, none⟩) ls.length ls.length)), (1, .ex (.slice (some ⟨g2, 0, none⟩) ls.length ls.length))]) Tryz.func7 rfl rfl rfl ⟨⟨_, rfl, rfl⟩, ⟨_, rfl, rfl⟩, trivial⟩ ?_
  repeat (first | refine t_seq ?_ | refine t_region ?_ | refine s_nil ?_ | refine p_then ?_ | refine t_ret ?_ | refine p_then_ret ?_ | refine p_block_ret ?_ | refine t_block ?_ | refine t_exit ?_ | refine p_then_exit ?_ | refine p_block_exit ?_ | refine p_block ?_ | refine t_skip ?_)
  refine s_val (v_assign rfl) rfl ?_
  repeat (first | refine t_seq ?_ | refine t_region ?_ | refine s_nil ?_ | refine p_then ?_ | refine t_ret ?_ | refine p_then_ret ?_ | refine p_block_ret ?_ | refine t_block ?_ | refine t_exit ?_ | refine p_then_exit ?_ | refine p_block_exit ?_ | refine p_block ?_ | refine t_skip ?_)
  refine s_val (v_move rfl) rfl ?_
  refine s_val (v_len rfl (so rfl) rfl) rfl ?_
  refine s_val (v_move rfl) rfl ?_
  refine s_val (v_len rfl (so rfl) rfl) rfl ?_
  refine s_val (v_neI rfl rfl) rfl ?_
  rw [show ((ls.length : Int) != (ls.length : Int)) = false from by simp]
  repeat (first | refine t_seq ?_ | refine t_region ?_ | refine s_nil ?_ | refine p_then ?_ | refine t_ret ?_ | refine p_then_ret ?_ | refine p_block_ret ?_ | refine t_block ?_ | refine t_exit ?_ | refine p_then_exit ?_ | refine p_block_exit ?_ | refine p_block ?_ | refine t_skip ?_)
  refine t_false rfl ?_
  refine t_skip (p_then ?_)
  refine t_cut (fun _ : Unit => []) (fun _ w' => Only [] w w') ?_ ?_
  · repeat (first | refine t_seq ?_ | refine t_region ?_ | refine s_nil ?_ | refine p_then ?_ | refine t_ret ?_ | refine p_then_ret ?_ | refine p_block_ret ?_ | refine t_block ?_ | refine t_exit ?_ | refine p_then_exit ?_ | refine p_block_exit ?_ | refine p_block ?_ | refine t_skip ?_)
    refine s_val (v_move rfl) rfl ?_
    refine s_val (v_len rfl (so rfl) rfl) rfl ?_
    refine s_val (v_move rfl) rfl ?_
    repeat (first | refine t_seq ?_ | refine t_region ?_ | refine s_nil ?_ | refine p_then ?_ | refine t_ret ?_ | refine p_then_ret ?_ | refine p_block_ret ?_ | refine t_block ?_ | refine t_exit ?_ | refine p_then_exit ?_ | refine p_block_exit ?_ | refine p_block ?_ | refine t_skip ?_)
    refine t_loop (fun i : Nat => [(13, .ex (I i)), (12, .ex (I ls.length)), (0, .ex (.slice (some ⟨g1, 0, none⟩) ls.length ls.length)), (1, .ex (.slice (some ⟨g2, 0, none⟩) ls.length ls.length))]) (fun i w' => i ≤ ls.length ∧ Only [] w w') (fun i => ls.length - i) 0 ⟨rfl, rfl, rfl, rfl, trivial⟩ ⟨Nat.zero_le _, Only.refl _ _⟩ ?_
    rintro i w1 ⟨hi, hz1⟩
    repeat (first | refine t_seq ?_ | refine t_region ?_ | refine s_nil ?_ | refine p_then ?_ | refine t_ret ?_ | refine p_then_ret ?_ | refine p_block_ret ?_ | refine t_block ?_ | refine t_exit ?_ | refine p_then_exit ?_ | refine p_block_exit ?_ | refine p_block ?_ | refine t_skip ?_)
    refine s_val (v_ltI rfl rfl) rfl ?_
    repeat (first | refine t_seq ?_ | refine t_region ?_ | refine s_nil ?_ | refine p_then ?_ | refine t_ret ?_ | refine p_then_ret ?_ | refine p_block_ret ?_ | refine t_block ?_ | refine t_exit ?_ | refine p_then_exit ?_ | refine p_block_exit ?_ | refine p_block ?_ | refine t_skip ?_)
    refine t_if rfl (fun hb => ?_) (fun hb => ?_)
    · have hi' : i < ls.length := by have := of_decide_eq_true hb; omega
      clear hb
      have hl1 : p1.length = ls.length := by rw [← he1]; simp
      have hl2 : p2.length = ls.length := by rw [← he2]; simp
      obtain ⟨q1, hq1⟩ : ∃ q, p1[i]? = some q := ⟨_, List.getElem?_eq_getElem (by omega)⟩
      obtain ⟨q2, hq2⟩ : ∃ q, p2[i]? = some q := ⟨_, List.getElem?_eq_getElem (by omega)⟩
      have e1 : ls[i]? = some q1.l := by rw [← he1, List.getElem?_map, hq1]; rfl
      have e2 : ls[i]? = some q2.l := by rw [← he2, List.getElem?_map, hq2]; rfl
      have he : q1.l = q2.l := by rw [e1] at e2; injection e2
      have hc1 : ∀ wF, Only [] w1 wF → wF.cell? ⟨g1, 0 + i, none⟩ = some (.slice q1.A q1.l.length q1.c) := fun wF hF => ((hB1.only hz1 (by simp)).only hF (by simp)).cell _ (by simp [hq1, Pt.val])
      have hc2 : ∀ wF, Only [] w1 wF → wF.cell? ⟨g2, 0 + i, none⟩ = some (.slice q2.A q2.l.length q2.c) := fun wF hF => ((hB2.only hz1 (by simp)).only hF (by simp)).cell _ (by simp [hq2, Pt.val])
      have hr1' := hr1 q1 (List.mem_of_getElem? hq1)
      have hr2' := hr2 q2 (List.mem_of_getElem? hq2)
      repeat (first | refine t_seq ?_ | refine t_region ?_ | refine s_nil ?_ | refine p_then ?_ | refine t_ret ?_ | refine p_then_ret ?_ | refine p_block_ret ?_ | refine t_block ?_ | refine t_exit ?_ | refine p_then_exit ?_ | refine p_block_exit ?_ | refine p_block ?_ | refine t_skip ?_)
      refine s_val (v_move rfl) rfl ?_
      refine s_val (v_assign rfl) rfl ?_
      repeat (first | refine t_seq ?_ | refine t_region ?_ | refine s_nil ?_ | refine p_then ?_ | refine t_ret ?_ | refine p_then_ret ?_ | refine p_block_ret ?_ | refine t_block ?_ | refine t_exit ?_ | refine p_then_exit ?_ | refine p_block_exit ?_ | refine p_block ?_ | refine t_skip ?_)
      refine t_drawO 11 (by kernel_rfl) rfl ?_
      refine fk_val (Only.refl _) (fun wF hR => v_move rfl) ?_
      refine fk_val (Only.refl _) (fun wF hR => v_move rfl) ?_
      refine fk_val (Only.refl _) (fun wF hR => v_indexSlice rfl rfl (so rfl) (by omega)) ?_
      refine fk_val (Only.refl _) (fun wF hR => v_load1 rfl (sc rfl) (by first | exact hc1 _ hR | exact hc2 _ hR | assumption)) ?_
      refine fk_val Only.refl' (fun wF hR => v_string (l := q1.l) rfl rfl Tryz.underlying24 u5 u9 ((hr1'.pure hz1).pure hR)) ?_
      refine fk_val (Only.refl _) (fun wF hR => v_move rfl) ?_
      refine fk_val (Only.refl _) (fun wF hR => v_move rfl) ?_
      refine fk_val (Only.refl _) (fun wF hR => v_indexSlice rfl rfl (so rfl) (by omega)) ?_
      refine fk_val (Only.refl _) (fun wF hR => v_load1 rfl (sc rfl) (by first | exact hc1 _ hR | exact hc2 _ hR | assumption)) ?_
      refine fk_val Only.refl' (fun wF hR => v_string (l := q2.l) rfl rfl Tryz.underlying24 u5 u9 ((hr2'.pure hz1).pure hR)) ?_
      refine fk_val Only.refl' (fun wF hR => v_neS rfl rfl) ?_
      rw [he, show (q2.l != q2.l) = false from by simp]
      refine fk_nil (fun w2 hw2 => ?_)
      repeat (first | refine t_seq ?_ | refine t_region ?_ | refine s_nil ?_ | refine p_then ?_ | refine t_ret ?_ | refine p_then_ret ?_ | refine p_block_ret ?_ | refine t_block ?_ | refine t_exit ?_ | refine p_then_exit ?_ | refine p_block_exit ?_ | refine p_block ?_ | refine t_skip ?_)
      refine t_false rfl ?_
      repeat (first | refine t_seq ?_ | refine t_region ?_ | refine s_nil ?_ | refine p_then ?_ | refine t_ret ?_ | refine p_then_ret ?_ | refine p_block_ret ?_ | refine t_block ?_ | refine t_exit ?_ | refine p_then_exit ?_ | refine p_block_exit ?_ | refine p_block ?_ | refine t_skip ?_)
      refine s_val (v_addI rfl opc (by omega)) rfl ?_
      refine s_val (v_move rfl) rfl ?_
      repeat (first | refine t_seq ?_ | refine t_region ?_ | refine s_nil ?_ | refine p_then ?_ | refine t_ret ?_ | refine p_then_ret ?_ | refine p_block_ret ?_ | refine t_block ?_ | refine t_exit ?_ | refine p_then_exit ?_ | refine p_block_exit ?_ | refine p_block ?_ | refine t_skip ?_)
      exact p_round (i + 1) (Nat.sub_lt_sub_left hi' (Nat.lt_succ_self i)) ⟨rfl, rfl, rfl, rfl, trivial⟩ ⟨hi', hz1.trans hw2⟩
    · repeat (first | refine t_seq ?_ | refine t_region ?_ | refine s_nil ?_ | refine p_then ?_ | refine t_ret ?_ | refine p_then_ret ?_ | refine p_block_ret ?_ | refine t_block ?_ | refine t_exit ?_ | refine p_then_exit ?_ | refine p_block_exit ?_ | refine p_block ?_ | refine t_skip ?_)
      exact p_cut () trivial hz1
  rintro _ w1 hz1
  repeat (first | refine t_seq ?_ | refine t_region ?_ | refine s_nil ?_ | refine p_then ?_ | refine t_ret ?_ | refine p_then_ret ?_ | refine p_block_ret ?_ | refine t_block ?_ | refine t_exit ?_ | refine p_then_exit ?_ | refine p_block_exit ?_ | refine p_block ?_ | refine t_skip ?_)
  refine s_val (v_assign rfl) rfl ?_
  repeat (first | refine t_seq ?_ | refine t_region ?_ | refine s_nil ?_ | refine p_then ?_ | refine t_ret ?_ | refine p_then_ret ?_ | refine p_block_ret ?_ | refine t_block ?_ | refine t_exit ?_ | refine p_then_exit ?_ | refine p_block_exit ?_ | refine p_block ?_ | refine t_skip ?_)
  exact ret1 rfl rfl ⟨_, rfl, hz1, rfl⟩
end Go.Proofs.YtnaefgnjdmmmcaaGreatDoor
/- spec.Joined of a cut of an array; (Connection).Up. -/
namespace Go.Proofs.YtnaefgnjdmmmcaaGreatDoor
open Go.RowKit
/-- Slices that read as these, in cells side by side. -/
def JQ (ls : List Bytes) : Pred := fun v w => ∃ (g i c : Nat) (ps : List Pt), v = .slice (some ⟨g, i, none⟩) ls.length c ∧ g < w.heap.size ∧ ps.map Pt.l = ls ∧ ∀ j p, ps[j]? = some p → w.cell? ⟨g, i + j, none⟩ = some p.val ∧ Rd w p.A p.l
section
attribute [local irreducible] ValAt OpAt RunX Tr Post FlowK
/-- spec.Joined, of a cut of an array too -/
theorem c35q (v : Value) (ls : List Bytes) (w : World) (hj : JQ ls v w) (hn : ls.flatten.length ≤ 200000) (hl : ls.length ≤ 1000) : Calls Tryz.prog 35 #[v] w (Ret [] w (Fresh w ls.flatten)) := by
  obtain ⟨g, i0, c0, ps, rfl, hg, hls, hrd⟩ := hj
  have hpl : ps.length = ls.length := by rw [← hls]; simp
  refine enter (Γ := [(0, .ex (.slice (some ⟨g, i0, none⟩) ls.length c0))]) Tryz.func35 rfl rfl rfl ⟨⟨_, rfl, rfl⟩, trivial⟩ ?_
  repeat (first | refine t_seq ?_ | refine t_region ?_ | refine s_nil ?_ | refine p_then ?_ | refine t_ret ?_ | refine p_then_ret ?_ | refine p_block_ret ?_ | refine t_block ?_ | refine t_exit ?_ | refine p_then_exit ?_ | refine p_block_exit ?_ | refine p_block ?_ | refine t_skip ?_)
  refine s_val (v_assign rfl) rfl ?_
  repeat (first | refine t_seq ?_ | refine t_region ?_ | refine s_nil ?_ | refine p_then ?_ | refine t_ret ?_ | refine p_then_ret ?_ | refine p_block_ret ?_ | refine t_block ?_ | refine t_exit ?_ | refine p_then_exit ?_ | refine p_block_exit ?_ | refine p_block ?_ | refine t_skip ?_)
  refine s_op (o_buildSlice0 rt24) rfl rfl ?_
  rintro _ w1 hw1 ⟨rfl, hB1⟩
  refine s_val (v_assign rfl) rfl ?_
  have hv1 : Own w1 (.slice (some ⟨w.heap.size, 0, none⟩) 0 0) [] := Own.zero hB1 rfl (by simp)
  have hf1 : From w.heap.size (.slice (some ⟨w.heap.size, 0, none⟩) 0 0) := fun k hk => by
    cases hk; exact Nat.le_refl _
  refine s_nil (p_then ?_)
  refine t_cut (fun v : Value => [(3, .ex v)]) (fun v w' => Only [] w w' ∧ Fresh w ls.flatten v w') ?_ ?_
  · repeat (first | refine t_seq ?_ | refine t_region ?_ | refine s_nil ?_ | refine p_then ?_ | refine t_ret ?_ | refine p_then_ret ?_ | refine p_block_ret ?_ | refine t_block ?_ | refine t_exit ?_ | refine p_then_exit ?_ | refine p_block_exit ?_ | refine p_block ?_ | refine t_skip ?_)
    refine s_val (v_move rfl) rfl ?_
    refine s_val (v_len rfl (so rfl) rfl) rfl ?_
    refine s_val (v_move rfl) rfl ?_
    repeat (first | refine t_seq ?_ | refine t_region ?_ | refine s_nil ?_ | refine p_then ?_ | refine t_ret ?_ | refine p_then_ret ?_ | refine p_block_ret ?_ | refine t_block ?_ | refine t_exit ?_ | refine p_then_exit ?_ | refine p_block_exit ?_ | refine p_block ?_ | refine t_skip ?_)
    refine t_loop (fun s : JS => [(9, .ex (I s.i)), (8, .ex (I ls.length)), (7, .ex (.slice (some ⟨g, i0, none⟩) ls.length c0)), (3, .ex s.v)]) (fun s w' => s.i ≤ ls.length ∧ Only [] w w' ∧ Own w' s.v (ls.take s.i).flatten ∧ From w.heap.size s.v) (fun s => ls.length - s.i) ⟨0, .slice (some ⟨w.heap.size, 0, none⟩) 0 0⟩ ⟨rfl, rfl, rfl, rfl, trivial⟩
      ⟨Nat.zero_le _, hw1, by simpa using hv1, hf1⟩ ?_
    rintro ⟨i, v⟩ w2 ⟨hi, hw2, hv2, hf2⟩
    simp only at hi hv2 hf2
    refine t_weak [(9, .ex (I i)), (8, .ex (I ls.length)), (7, .ex (.slice (some ⟨g, i0, none⟩) ls.length c0)), (3, .ex v)] ⟨rfl, rfl, rfl, rfl, trivial⟩ ?_
    repeat (first | refine t_seq ?_ | refine t_region ?_ | refine s_nil ?_ | refine p_then ?_ | refine t_ret ?_ | refine p_then_ret ?_ | refine p_block_ret ?_ | refine t_block ?_ | refine t_exit ?_ | refine p_then_exit ?_ | refine p_block_exit ?_ | refine p_block ?_ | refine t_skip ?_)
    refine s_val (v_ltI rfl rfl) rfl ?_
    repeat (first | refine t_seq ?_ | refine t_region ?_ | refine s_nil ?_ | refine p_then ?_ | refine t_ret ?_ | refine p_then_ret ?_ | refine p_block_ret ?_ | refine t_block ?_ | refine t_exit ?_ | refine p_then_exit ?_ | refine p_block_exit ?_ | refine p_block ?_ | refine t_skip ?_)
    refine t_if rfl (fun hb => ?_) (fun hb => ?_)
    · have hi' : i < ls.length := by have := of_decide_eq_true hb; omega
      obtain ⟨p, hp⟩ : ∃ p, ps[i]? = some p := ⟨_, List.getElem?_eq_getElem (by omega)⟩
      have hlp : ls.getD i [] = p.l := by rw [← hls, List.getD_eq_getElem?_getD, List.getElem?_map, hp]; rfl
      have hcell : w2.cell? ⟨g, i0 + i, none⟩ = some (.slice p.A p.l.length p.c) := (World.cell?_of_block (w := w) (hw2.block g hg (by simp))).trans (hrd i p hp).1
      have hbd : (ls.take (i + 1)).flatten.length ≤ 200000 := by
        have e : ls.flatten = (ls.take (i + 1)).flatten ++ (ls.drop (i + 1)).flatten := by rw [← List.flatten_append, List.take_append_drop]
        rw [e, List.length_append] at hn; omega
      rw [flat_snoc ls i hi', hlp, List.length_append] at hbd
      repeat (first | refine t_seq ?_ | refine t_region ?_ | refine s_nil ?_ | refine p_then ?_ | refine t_ret ?_ | refine p_then_ret ?_ | refine p_block_ret ?_ | refine t_block ?_ | refine t_exit ?_ | refine p_then_exit ?_ | refine p_block_exit ?_ | refine p_block ?_ | refine t_skip ?_)
      refine s_val (v_indexSlice rfl rfl (so rfl) (by omega)) rfl ?_
      refine s_val (v_load1 rfl (sc rfl) (by first | exact hcell | assumption)) rfl ?_
      refine s_val (v_assign rfl) rfl ?_
      repeat (first | refine t_seq ?_ | refine t_region ?_ | refine s_nil ?_ | refine p_then ?_ | refine t_ret ?_ | refine p_then_ret ?_ | refine p_block_ret ?_ | refine t_block ?_ | refine t_exit ?_ | refine p_then_exit ?_ | refine p_block_exit ?_ | refine p_block ?_ | refine t_skip ?_)
      refine s_val (v_move rfl) rfl ?_
      refine s_val (v_move rfl) rfl ?_
      refine s_op (o_appB rt24 rfl rfl rfl Tryz.underlying24 hv2 ((hrd i p hp).2.pure hw2) (by omega) mem_own) rfl rfl ?_
      rintro v3 w3 hw3 h3
      refine s_val (v_assign rfl) rfl ?_
      obtain ⟨hv3, hf3, hz3⟩ := grow hf2 hw2 hw3 h3
      repeat (first | refine t_seq ?_ | refine t_region ?_ | refine s_nil ?_ | refine p_then ?_ | refine t_ret ?_ | refine p_then_ret ?_ | refine p_block_ret ?_ | refine t_block ?_ | refine t_exit ?_ | refine p_then_exit ?_ | refine p_block_exit ?_ | refine p_block ?_ | refine t_skip ?_)
      refine s_val (v_addI rfl opc (by omega)) rfl ?_
      refine s_val (v_move rfl) rfl ?_
      repeat (first | refine t_seq ?_ | refine t_region ?_ | refine s_nil ?_ | refine p_then ?_ | refine t_ret ?_ | refine p_then_ret ?_ | refine p_block_ret ?_ | refine t_block ?_ | refine t_exit ?_ | refine p_then_exit ?_ | refine p_block_exit ?_ | refine p_block ?_ | refine t_skip ?_)
      exact p_round ⟨i + 1, v3⟩ (Nat.sub_lt_sub_left hi' (Nat.lt_succ_self i)) ⟨rfl, rfl, rfl, rfl, trivial⟩ ⟨hi', hz3, by show Own w3 v3 (ls.take (i + 1)).flatten; rw [flat_snoc ls i hi', hlp]; exact hv3, hf3⟩
    · have hi' : i = ls.length := by have := of_decide_eq_false hb; omega
      subst hi'
      rw [List.take_length] at hv2
      repeat (first | refine t_seq ?_ | refine t_region ?_ | refine s_nil ?_ | refine p_then ?_ | refine t_ret ?_ | refine p_then_ret ?_ | refine p_block_ret ?_ | refine t_block ?_ | refine t_exit ?_ | refine p_then_exit ?_ | refine p_block_exit ?_ | refine p_block ?_ | refine t_skip ?_)
      exact p_cut v ⟨rfl, trivial⟩ ⟨hw2, hv2, hf2⟩
  · rintro v w2 ⟨hw2, hv2⟩
    repeat (first | refine t_seq ?_ | refine t_region ?_ | refine s_nil ?_ | refine p_then ?_ | refine t_ret ?_ | refine p_then_ret ?_ | refine p_block_ret ?_ | refine t_block ?_ | refine t_exit ?_ | refine p_then_exit ?_ | refine p_block_exit ?_ | refine p_block ?_ | refine t_skip ?_)
    refine s_val (v_move rfl) rfl ?_
    refine s_val (v_assign rfl) rfl ?_
    repeat (first | refine t_seq ?_ | refine t_region ?_ | refine s_nil ?_ | refine p_then ?_ | refine t_ret ?_ | refine p_then_ret ?_ | refine p_block_ret ?_ | refine t_block ?_ | refine t_exit ?_ | refine p_then_exit ?_ | refine p_block_exit ?_ | refine p_block ?_ | refine t_skip ?_)
    exact ret1 rfl rfl ⟨_, rfl, hw2, hv2⟩
end
end Go.Proofs.YtnaefgnjdmmmcaaGreatDoor
/- A connection in memory; (Connection).Up. -/
namespace Go.Proofs.YtnaefgnjdmmmcaaGreatDoor
open Go.RowKit
/-- The struct spec.Connection. -/
structure Conn where
  psk : Pt
  shared : Pt
  m0 : Pt
  m1 : Pt
  m2 : Pt
  m3 : Pt
  m4 : Pt
  m5 : Pt
  m6 : Pt
  label : Bytes
  ctx : Pt
  nonce : Pt
  upd : Int
def Conn.cells (q : Conn) : Array Value := #[q.psk.val, q.shared.val, q.m0.val, q.m1.val, q.m2.val, q.m3.val, q.m4.val, q.m5.val, q.m6.val, S q.label, q.ctx.val, q.nonce.val, .int .i64 q.upd]
def Conn.ms (q : Conn) : List Pt := [q.m0, q.m1, q.m2, q.m3, q.m4, q.m5, q.m6]
def Conn.msgs (q : Conn) : List Bytes := q.ms.map Pt.l
/-- What of the messages has gone by. -/
def Conn.up (q : Conn) (n : Nat) : Bytes := (q.msgs.take n).flatten
structure Conn.At (w : World) (q : Conn) : Prop where
  psk : Rd w q.psk.A q.psk.l
  pskc : q.psk.l.length ≤ q.psk.c
  shared : Rd w q.shared.A q.shared.l
  sharedc : q.shared.l.length ≤ q.shared.c
  ms : ∀ p ∈ q.ms, Rd w p.A p.l
  ctx : Rd w q.ctx.A q.ctx.l
  ctxc : q.ctx.l.length ≤ q.ctx.c
  nonce : Rd w q.nonce.A q.nonce.l
  noncec : q.nonce.l.length ≤ q.nonce.c
theorem Conn.At.pure {w w' : World} {q : Conn} (h : q.At w) (k : Only [] w w') : q.At w' :=
  ⟨h.psk.pure k, h.pskc, h.shared.pure k, h.sharedc, fun p hp => (h.ms p hp).pure k, h.ctx.pure k, h.ctxc, h.nonce.pure k, h.noncec⟩
theorem Conn.cell_m (q : Conn) (j : Nat) (p : Pt) (h : q.ms[j]? = some p) : q.cells[0 + 2 + j]? = some p.val := by
  have hj : j < 7 := (List.getElem?_eq_some_iff.1 h).1
  have : j = 0 ∨ j = 1 ∨ j = 2 ∨ j = 3 ∨ j = 4 ∨ j = 5 ∨ j = 6 := by omega
  rcases this with rfl | rfl | rfl | rfl | rfl | rfl | rfl <;> (cases h; rfl)
section
attribute [local irreducible] ValAt OpAt RunX Tr Post FlowK
/-- (Connection).Up -/
theorem c13 (q : Conn) (n : Nat) (w : World) (hq : q.At w) (hn : n ≤ 7) (hl : (q.up n).length ≤ 200000) : Calls Tryz.prog 13 #[.agg q.cells, I n] w (Ret [] w (Fresh w (q.up n))) := by
  refine enter (Γ := [(0, .ex (.agg q.cells)), (1, .ex (I n))]) Tryz.func13 rfl rfl rfl ⟨⟨_, rfl, rfl⟩, ⟨_, rfl, rfl⟩, trivial⟩ ?_
  repeat (first | refine t_seq ?_ | refine t_region ?_ | refine s_nil ?_ | refine p_then ?_ | refine t_ret ?_ | refine p_then_ret ?_ | refine p_block_ret ?_ | refine t_block ?_ | refine t_exit ?_ | refine p_then_exit ?_ | refine p_block_exit ?_ | refine p_block ?_ | refine t_skip ?_)
  refine s_op (o_box rfl) rfl rfl ?_
  rintro _ w1 hw1 ⟨rfl, hB1⟩
  refine s_val (v_assign rfl) rfl ?_
  have hml : (q.msgs.take n).length = n := by simp [Conn.msgs, Conn.ms]; omega
  have hj : JQ (q.msgs.take n) (.slice (some ⟨w.heap.size, 0 + 2, none⟩) n 7) w1 := by
    refine ⟨w.heap.size, 0 + 2, 7, q.ms.take n, by rw [hml], hB1.lt, by simp [Conn.msgs, List.map_take], fun j p hp => ?_⟩
    rw [List.getElem?_take] at hp
    split at hp
    · exact ⟨hB1.cell _ (q.cell_m j p hp), (hq.ms p (List.mem_of_getElem? hp)).pure hw1⟩
    · cases hp
  repeat (first | refine t_seq ?_ | refine t_region ?_ | refine s_nil ?_ | refine p_then ?_ | refine t_ret ?_ | refine p_then_ret ?_ | refine p_block_ret ?_ | refine t_block ?_ | refine t_exit ?_ | refine p_then_exit ?_ | refine p_block_exit ?_ | refine p_block ?_ | refine t_skip ?_)
  refine s_val (v_fieldAddr rfl (fo rfl)) rfl ?_
  refine s_val (v_move rfl) rfl ?_
  refine s_val (v_sliceArrHi rfl rfl (al rfl) (by omega)) rfl ?_
  refine s_op (o_call rfl (en rfl) (c35q _ _ w1 hj hl (by rw [hml]; omega))) rfl rfl ?_
  rintro v2 w2 hw2 ⟨hv2, hf2⟩
  refine s_val (v_assign rfl) rfl ?_
  repeat (first | refine t_seq ?_ | refine t_region ?_ | refine s_nil ?_ | refine p_then ?_ | refine t_ret ?_ | refine p_then_ret ?_ | refine p_block_ret ?_ | refine t_block ?_ | refine t_exit ?_ | refine p_then_exit ?_ | refine p_block_exit ?_ | refine p_block ?_ | refine t_skip ?_)
  exact ret1 rfl rfl ⟨_, rfl, hw1.trans hw2, hv2, hf2.mono hw1.size⟩
end
end Go.Proofs.YtnaefgnjdmmmcaaGreatDoor
/- ROWS OF SLICES OF THE CALL'S OWN, known whole: append. -/
namespace Go.Proofs.YtnaefgnjdmmmcaaGreatDoor
open Go.RowKit
abbrev nilS : Value := .slice none 0 0
def cellsOf (ps : List Pt) (c : Nat) : Array Value := (ps.map Pt.val ++ List.replicate (c - ps.length) nilS).toArray
structure RowIs (w : World) (g c : Nat) (ps : List Pt) : Prop where
  len : ps.length ≤ c
  cap : c ≤ maxLen
  blk : Blk w g 24 (cellsOf ps c)
theorem cellsOf_size {ps : List Pt} {c : Nat} (h : ps.length ≤ c) : (cellsOf ps c).size = c := by simp [cellsOf]; omega
theorem cellsOf_app {ps qs : List Pt} {c : Nat} (h : ps.length + qs.length ≤ c) : ((cellsOf ps c).toList.take ps.length ++ (qs.map Pt.val ++ (cellsOf ps c).toList.drop (ps.length + qs.length))).toArray = cellsOf (ps ++ qs) c := by
  have hl : (ps.map Pt.val).length = ps.length := by simp
  have e1 : (ps.map Pt.val ++ List.replicate (c - ps.length) nilS).take ps.length = ps.map Pt.val := by rw [← hl]; exact List.take_left
  have e2 : (ps.map Pt.val ++ List.replicate (c - ps.length) nilS).drop (ps.length + qs.length) = List.replicate (c - (ps.length + qs.length)) nilS := by
    rw [List.drop_append, List.drop_eq_nil_of_le (by rw [hl]; omega), List.nil_append, hl, List.drop_replicate]
    congr 1; omega
  simp only [cellsOf, e1, e2, List.map_append, List.length_append, List.append_assoc]
theorem run_append_pts {P : Program} {w : World} {t tx tr : TypeId} {bytes : Nat} (hT : RowTy P t 24 nilS bytes) {g c : Nat} {ps qs : List Pt} (hr : RowIs w g c ps) {x : Value} (hs : Src P 1 tx x qs.length (qs.map Pt.val) w) (hn : ps.length + qs.length ≤ 100000) (hb : bytes ≤ 1000) :
    (ps.length + qs.length ≤ c ∧ (Builtin.append_ #[t, tx] tr #[.slice (some ⟨g, 0, none⟩) ps.length c, x]).run P w = .ok (.slice (some ⟨g, 0, none⟩) (ps.length + qs.length) c) (w.setRow g (cellsOf (ps ++ qs) c)) ∧ RowIs (w.setRow g (cellsOf (ps ++ qs) c)) g c (ps ++ qs)) ∨
    (c < ps.length + qs.length ∧ ∃ w' c', (Builtin.append_ #[t, tx] tr #[.slice (some ⟨g, 0, none⟩) ps.length c, x]).run P w = .ok (.slice (some ⟨w.heap.size, 0, none⟩) (ps.length + qs.length) c') w' ∧ Only [] w w' ∧ RowIs w' w.heap.size c' (ps ++ qs)) := by
  obtain ⟨i, hi, hz, hsz, hby⟩ := hT.info
  by_cases hroom : ps.length + qs.length ≤ c
  · left
    refine ⟨hroom, ?_, ⟨by simp; omega, hr.cap, hr.blk.setRow _⟩⟩
    have hst := run_storeCells_at P g ps.length 24 (qs.map Pt.val) 0 (cellsOf ps c) w hr.blk (by rw [cellsOf_size hr.len]; simp; omega) hs.one
    simp only [Nat.add_zero, List.length_map] at hst
    rw [List.append_assoc, cellsOf_app hroom] at hst
    have hcl : (Builtin.firstCells 1 qs.length x).run P w = .ok (qs.map Pt.val).toArray w := hs.cells
    rcases hs.kind with ⟨e', hk⟩ | hk <;> simp [Builtin.append_, run_underlying hT.und, run_underlying hk, sizeOf, typeInfo, hi, hs.len, hroom, hcl, hsz, Addr.add_lit, hst]
  · right
    refine ⟨by omega, ?_⟩
    have hold : (Builtin.firstCells i.size ps.length (.slice (some ⟨g, 0, none⟩) ps.length c)).run P w.drew = .ok (ps.map Pt.val).toArray w.drew := by
      refine run_firstCells_some w.drew i.size ps.length _ ps.length c (ps.map Pt.val) (by rw [hsz]; simp) (fun j u hu => ?_)
      rw [add_lit, Nat.zero_add]
      have hj : j < ps.length := by have := (List.getElem?_eq_some_iff.1 hu).1; simpa using this
      have hx := hr.blk.cell j (v := u) (by rw [cellsOf, List.getElem?_toArray, List.getElem?_append_left (by simpa using hj)]; exact hu)
      simpa using hx
    have hge := grownCap_ge w (ps.length + qs.length) c 24
    have hcm : grownCap w (ps.length + qs.length) c 24 ≤ maxLen := grownCap_le_maxLen w (ps.length + qs.length) c 24 (by simp only [maxLen]; omega)
    have hrr := run_append_grow_src (P := P) w t tx tr 24 i nilS hT.und hi hz (some ⟨g, 0, none⟩) ps.length c (ps.map Pt.val) hold x qs.length (qs.map Pt.val) (by rw [hsz]; exact hs) (by omega) (by omega) (growslice_fits (by omega) (by
      rw [hby]
      calc (ps.length + qs.length) * bytes ≤ 100000 * 1000 := Nat.mul_le_mul hn hb
        _ ≤ 140737488355328 := by decide))
    refine ⟨_, _, hrr, (Only.drew [] w).trans (Only.alloc [] w.drew _), ⟨by simp; omega, hcm, ?_⟩⟩
    have hcells : (ps.map Pt.val ++ qs.map Pt.val).toArray ++ Builtin.zeroCells nilS.cells (grownCap w (ps.length + qs.length) c 24 - (ps.length + qs.length)) = cellsOf (ps ++ qs) (grownCap w (ps.length + qs.length) c 24) := by
      apply Array.ext'
      have hz : ∀ k, (Builtin.zeroCells nilS.cells k).toList = List.replicate k nilS := fun k => by
        simp [Builtin.zeroCells, Value.cells]
        apply List.ext_getElem?
        intro j
        by_cases hj : j < k <;> simp [hj, Nat.mod_one]
      rw [Array.toList_append, hz]
      simp [cellsOf]
    rw [hcells]
    exact Blk.new w.drew 24 _
end Go.Proofs.YtnaefgnjdmmmcaaGreatDoor
/- Rows of slices of the call's own: the rule of append. -/
namespace Go.Proofs.YtnaefgnjdmmmcaaGreatDoor
open Go.RowKit
/-- A row that reads as these; its block lies at b or behind it. -/
def RowSt (b : Nat) (ls : List Bytes) (v : Value) (w : World) : Prop := ∃ g c ps, v = .slice (some ⟨g, 0, none⟩) ps.length c ∧ b ≤ g ∧ RowIs w g c ps ∧ ps.map Pt.l = ls ∧ ∀ p ∈ ps, Rd w p.A p.l
theorem JP.src {P : Program} {tx : TypeId} {e' : TypeId} (hk : P.underlying tx = some (.slice e')) {w : World} {x : Value} {ls : List Bytes} (h : JP ls x w) : ∃ qs : List Pt, Src P 1 tx x qs.length (qs.map Pt.val) w ∧ qs.map Pt.l = ls ∧ ∀ p ∈ qs, Rd w p.A p.l := by
  obtain ⟨g, qs, rfl, hB, h1, h2⟩ := h
  have hl : ls.length = qs.length := by rw [← h1]; simp
  rw [hl]
  refine ⟨qs, Src.ofSlice w hk ⟨g, 0, none⟩ qs.length qs.length (qs.map Pt.val) (by simp) (fun j u hu => ?_) (fun u hu => by obtain ⟨p, _, rfl⟩ := List.mem_map.1 hu; rfl), h1, h2⟩
  rw [add_lit, Nat.zero_add]
  exact hB.cell j (by rw [List.getElem?_toArray]; exact hu)
/-- What reads as bytes lies not in a row of slices. -/
theorem off_row {w : World} {g c : Nat} {ps : List Pt} {A : Option Addr} {l : Bytes} (hr : RowIs w g c ps) (h : Rd w A l) (hl : l ≠ []) : Off A [g] := by
  obtain ⟨g', i, rfl, _, hc⟩ := h hl
  refine Off.pt (fun hm => ?_)
  simp at hm
  subst hm
  obtain ⟨b, r, rfl⟩ := List.exists_cons_of_ne_nil hl
  have h0 := hc 0 b rfl
  have h1 : (cellsOf ps c)[i + 0]? = some (B b) := by
    rw [← h0, World.cell?, hr.blk]; rfl
  have h2 := List.mem_of_getElem? (by rw [cellsOf, List.getElem?_toArray] at h1; exact h1)
  rcases List.mem_append.1 h2 with h3 | h3
  · obtain ⟨p, _, e⟩ := List.mem_map.1 h3; cases e
  · have := List.eq_of_mem_replicate h3; cases this
theorem rt30' : RowTy Tryz.prog 30 24 nilS 24 := rt30
/-- append to a row of slices. -/
theorem o_appRow {N : Nat} {Γ : Env} {w : World} {d : Option Tmp} {ty : TypeId} {pos : String} {af : Array Edge} {gd : Option (Nat × Bool)} {x y : Operand} {b : Nat} {v u : Value} {ls ms : List Bytes} (hx : Γ.op x = some (.ex v)) (hy : Γ.op y = some (.ex u)) (hv : RowSt b ls v w) (hu : JP ms u w) (hn : ls.length + ms.length ≤ 100000) (hb : b ≤ w.heap.size) :
    OpAt Tryz.prog N Γ w ⟨d, .call ⟨.builtin .append, #[x, y], #[30, 30]⟩, ty, pos, af, gd⟩ (Only v.ownBlock.toList) (RowSt b (ls ++ ms)) :=
  opAt_val fun a ha => by
    have h1 := ha.val (x := x) (by simp [Op.operands, Call.operands]) hx
    have h2 := ha.val (x := y) (by simp [Op.operands, Call.operands]) hy
    obtain ⟨g, c, ps, rfl, hg, hr, hl, hrd⟩ := hv
    obtain ⟨qs, hs, hm, hqd⟩ := hu.src Tryz.underlying30
    have hlen : ps.length + qs.length ≤ 100000 := by
      have e1 : ls.length = ps.length := by rw [← hl]; simp
      have e2 : ms.length = qs.length := by rw [← hm]; simp
      omega
    have hall : ∀ p ∈ ps ++ qs, Rd w p.A p.l := fun p hp => (List.mem_append.1 hp).elim (hrd p) (hqd p)
    have hmap : (ps ++ qs).map Pt.l = ls ++ ms := by simp [hl, hm]
    rcases run_append_pts (tr := ty) rt30' hr hs hlen (by decide) with ⟨_, h3, h4⟩ | ⟨_, w', c', h3, h4, h5⟩
    · refine ⟨.slice (some ⟨g, 0, none⟩) (ps.length + qs.length) c, _, ?_, Only.setRow w g _, g, c, ps ++ qs, by simp, hg, h4, hmap, fun p hp => (hall p hp).only (Only.setRow w g _) (fun hne => off_row hr (hall p hp) hne)⟩
      simp only [execOp, resolve, invoke, builtin, Sem.run_bind, Sem.run_pure, Result.andThen_ok, List.map_toArray, List.map_cons, List.map_nil, h1, h2, h3]
    · refine ⟨.slice (some ⟨w.heap.size, 0, none⟩) (ps.length + qs.length) c', w', ?_, h4.mono (by simp), w.heap.size, c', ps ++ qs, by simp, hb, h5, hmap, fun p hp => (hall p hp).pure h4⟩
      simp only [execOp, resolve, invoke, builtin, Sem.run_bind, Sem.run_pure, Result.andThen_ok, List.map_toArray, List.map_cons, List.map_nil, h1, h2, h3]
end Go.Proofs.YtnaefgnjdmmmcaaGreatDoor
/- The tickets: the spec's and the thin package's. -/
namespace Go.Proofs.YtnaefgnjdmmmcaaGreatDoor
open Go.RowKit
attribute [local irreducible] ValAt OpAt RunX Tr Post FlowK
theorem ld27 {q : Conn} {w : World} {g : Nat} (hB : Blk w g 27 q.cells) : (loadVar 27 ⟨g, 0, none⟩).run Tryz.prog w = .ok (.agg q.cells) w := loadVar_whole (Classical.choose_spec (st (t := 27) rfl)) rfl (si rfl) hB
/-- Bounds that IsConnection gives. -/
structure Conn.Ok (q : Conn) : Prop where
  psk : q.psk.l.length ≤ 4096
  shared : q.shared.l.length ≤ 4096
  msgs : q.msgs.flatten.length ≤ 4096
  lab1 : 1 ≤ q.label.length
  lab : q.label.length ≤ 249
  ctx : q.ctx.l.length ≤ 255
  nonce : q.nonce.l.length ≤ 255
  upd0 : 0 ≤ q.upd
  upd : q.upd ≤ 5
theorem Conn.Ok.up {q : Conn} (h : q.Ok) (n : Nat) : (q.up n).length ≤ 4096 := by
  have e : q.msgs.flatten = q.up n ++ (q.msgs.drop n).flatten := by rw [Conn.up, ← List.flatten_append, List.take_append_drop]
  have := h.msgs
  rw [e, List.length_append] at this
  omega
def ticketOf (H : HK) (q : Conn) : Bytes := expandLabel H (derive H (master H q.psk.l q.shared.l) [114, 101, 115, 32, 109, 97, 115, 116, 101, 114] (q.up 7)) [114, 101, 115, 117, 109, 112, 116, 105, 111, 110] q.nonce.l H.size
theorem f13 {N : Nat} {Γ : Env} {w : World} {d : Option Tmp} {ty : TypeId} {pos : String} {af : Array Edge} {gd : Option (Nat × Bool)} {q : Conn} {n : Nat} {x y : Operand} {ats : Array TypeId} (hx : Γ.ops [x, y] = some [.agg q.cells, I n]) (hq : q.At w) (ho : q.Ok) (hn : n ≤ 7) :
    OpAt Tryz.prog N Γ w ⟨d, .call ⟨.value (.func 13), #[x, y], ats⟩, ty, pos, af, gd⟩ (Only []) (Sl (q.up n)) :=
  opAt_mono (o_call (vs := [.agg q.cells, I n]) hx (en rfl) (c13 q n w hq hn (by have := ho.up n; omega))) (fun _ h => h) (fun _ _ _ (h : Fresh _ _ _ _) => h.sl)
set_option maxHeartbeats 1000000 in
/-- spec.Ticket -/
theorem c11 (k s b : Int) (q : Conn) (w : World) (hq : q.At w) (ho : q.Ok) : Calls Tryz.prog 11 #[hv k s b, .agg q.cells] w (Ret [] w (Sl (ticketOf (hkOf k s b) q))) := by
  have hok := hkOf_ok k s b
  have hsl := HK.size_le hok
  have hml := master_length (hkOf k s b) q.psk.l q.shared.l
  have hup := ho.up 7
  have h1 := ho.psk
  have h2 := ho.shared
  have h3 := ho.nonce
  refine enter (Γ := [(0, .ex (hv k s b)), (1, .ex (.agg q.cells))]) Tryz.func11 rfl rfl rfl ⟨⟨_, rfl, rfl⟩, ⟨_, rfl, rfl⟩, trivial⟩ ?_
  repeat (first | refine t_seq ?_ | refine t_region ?_ | refine s_nil ?_ | refine p_then ?_ | refine t_ret ?_ | refine p_then_ret ?_ | refine p_block_ret ?_ | refine t_block ?_ | refine t_exit ?_ | refine p_then_exit ?_ | refine p_block_exit ?_ | refine p_block ?_ | refine t_skip ?_)
  refine s_op (o_box rfl) rfl rfl ?_
  rintro _ w1 hw1 ⟨rfl, hB1⟩
  refine s_op (o_box rfl) rfl rfl ?_
  rintro _ w2 hw2 ⟨rfl, hB2⟩
  refine s_val (v_assign rfl) rfl ?_
  have hz2 := hw1.trans hw2
  have hH2 := hB1.only hw2 (by simp)
  have hC2 : Blk w2 w1.heap.size 27 q.cells := hB2
  have hq2 := hq.pure hz2
  repeat (first | refine t_seq ?_ | refine t_region ?_ | refine s_nil ?_ | refine p_then ?_ | refine t_ret ?_ | refine p_then_ret ?_ | refine p_block_ret ?_ | refine t_block ?_ | refine t_exit ?_ | refine p_then_exit ?_ | refine p_block_exit ?_ | refine p_block ?_ | refine t_skip ?_)
  refine t_drawO 9 (by kernel_rfl) rfl ?_
  refine fk_val Only.refl' (fun wF hR => v_load rfl (ld23 (hH2.only hR (by simp)))) ?_
  refine fk_val Only.refl' (fun wF hR => v_load rfl (ld23 (hH2.only hR (by simp)))) ?_
  refine fk_val (Only.refl _) (fun wF hR => v_fieldAddr rfl (fo rfl)) ?_
  refine fk_val (Only.refl _) (fun wF hR => v_load1 rfl (sc rfl) (by first | exact (hC2.only hR (by simp)).cell _ rfl | assumption)) ?_
  refine fk_val (Only.refl _) (fun wF hR => v_fieldAddr rfl (fo rfl)) ?_
  refine fk_val (Only.refl _) (fun wF hR => v_load1 rfl (sc rfl) (by first | exact (hC2.only hR (by simp)).cell _ rfl | assumption)) ?_
  refine fk_op st_s (fun wF hR => o_call rfl (en rfl) (c29 k s b q.psk.A q.shared.A q.psk.c q.shared.c q.psk.l q.shared.l wF (hq2.pure hR).psk (by omega) hq.pskc (hq2.pure hR).shared (by omega) hq.sharedc)) ?_
  refine fk_val Only.refl' (fun wF hR => v_load rfl (ld27 (hC2.only hR (by simp)))) ?_
  refine fk_op st_s (fun wF hR => f13 rfl (hq2.pure hR) ho (by decide)) ?_
  refine fk_nil (fun w3 hw3 => ?_)
  refine x_open 12 rfl (fun v h => ?_)
  obtain ⟨A2, c2, rfl, hc2, hr2⟩ := h
  refine x_open 14 rfl (fun v h => ?_)
  obtain ⟨A3, c3, rfl, hc3, hr3⟩ := h
  refine x_weak [(6, .ex (hv k s b)), (12, .ex (.slice A2 (master (hkOf k s b) q.psk.l q.shared.l).length c2)), (14, .ex (.slice A3 (q.up 7).length c3)), (2, .ex (pt w.heap.size 0)), (3, .ex (pt w1.heap.size 0))] ⟨rfl, rfl, rfl, rfl, rfl, trivial⟩ ?_
  refine s_op (o_call rfl (en rfl) (c30 k s b A2 A3 c2 c3 _ [114, 101, 115, 32, 109, 97, 115, 116, 101, 114] _ w3 hr2 (by omega) (by decide) hr3 (by omega))) rfl rfl ?_
  rintro v4 w4 hw4 ⟨A4, c4, rfl, hc4, hr4⟩
  refine s_val (v_assign rfl) rfl ?_
  have hz4 := (hz2.trans hw3).trans hw4
  have hH4 := (hH2.only hw3 (by simp)).only hw4 (by simp)
  have hC4 := (hC2.only hw3 (by simp)).only hw4 (by simp)
  have hdl := derive_length hok (master (hkOf k s b) q.psk.l q.shared.l) [114, 101, 115, 32, 109, 97, 115, 116, 101, 114] (q.up 7)
  repeat (first | refine t_seq ?_ | refine t_region ?_ | refine s_nil ?_ | refine p_then ?_ | refine t_ret ?_ | refine p_then_ret ?_ | refine p_block_ret ?_ | refine t_block ?_ | refine t_exit ?_ | refine p_then_exit ?_ | refine p_block_exit ?_ | refine p_block ?_ | refine t_skip ?_)
  refine t_drawO 6 (by kernel_rfl) rfl ?_
  refine fk_val Only.refl' (fun wF hR => v_load rfl (ld23 (hH4.only hR (by simp)))) ?_
  refine fk_val (Only.refl _) (fun wF hR => v_move rfl) ?_
  refine fk_val (Only.refl _) (fun wF hR => v_fieldAddr rfl (fo rfl)) ?_
  refine fk_val (Only.refl _) (fun wF hR => v_load1 rfl (sc rfl) (by first | exact (hC4.only hR (by simp)).cell _ rfl | assumption)) ?_
  refine fk_val Only.refl' (fun wF hR => v_load rfl (ld23 (hH4.only hR (by simp)))) ?_
  refine fk_ex (fun wF hR => f24 rfl) ?_
  refine fk_nil (fun w5 hw5 => ?_)
  refine s_op (o_call rfl (en rfl) (c34 k s b A4 q.nonce.A c4 q.nonce.c _ [114, 101, 115, 117, 109, 112, 116, 105, 111, 110] q.nonce.l (hkOf k s b).size w5 (hr4.pure hw5) (by omega) (by decide) (hq.pure (hz4.trans hw5)).nonce h3 hq.noncec hsl)) rfl rfl ?_
  rintro v6 w6 hw6 h6
  refine s_val (v_assign rfl) rfl ?_
  repeat (first | refine t_seq ?_ | refine t_region ?_ | refine s_nil ?_ | refine p_then ?_ | refine t_ret ?_ | refine p_then_ret ?_ | refine p_block_ret ?_ | refine t_block ?_ | refine t_exit ?_ | refine p_then_exit ?_ | refine p_block_exit ?_ | refine p_block ?_ | refine t_skip ?_)
  exact ret1 rfl rfl ⟨_, rfl, (hz4.trans hw5).trans hw6, h6⟩
end Go.Proofs.YtnaefgnjdmmmcaaGreatDoor
