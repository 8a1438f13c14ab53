/-
  Proved: fnConnection_card : Rows.FnConnectionCardSaid: of every hash and every connection that come in, laws.FnConnection returns true, and what came in reads behind the call as it read before. Conditions: the card's own alone (the listed table starts as the program's text lays it, which the given tie shows); no further one. Parts: laws.FnConnection. What came in, opened: the hash, the connection, the table. The statement's frame: what the call leaves; FnConnection's card. FnConnection: the row's statement and the card.
-/
import Derived.Test.YtnaefgnjdmmmcaaGreatDoorM12
import Derived.Test.YtnaefgnjdmmmcaaGreatDoorCards
import Derived.Test.YtnaefgnjdmmmcaaGreatDoorTie
import Derived.ProofKit
import Derived.OpenShut
import Derived.OpenVars
import Derived.Deep.DeepHandedRow
import Derived.Lib.LaidTab
/- laws.FnConnection. -/
namespace Go.Proofs.YtnaefgnjdmmmcaaGreatDoor
open Go.RowKit
set_option linter.unusedSimpArgs false
set_option linter.unusedVariables false
theorem st_jq {ls : List Bytes} : ∀ (v : Value) (w w' : World), JQ ls v w → Only [] w w' → JQ ls v w' := fun _ _ _ ⟨g, i, c, ps, h1, h2, h3, h4⟩ k => ⟨g, i, c, ps, h1, Nat.lt_of_lt_of_le h2 k.size, h3, fun j p hp => ⟨(World.cell?_of_block (k.block g h2 (by simp))).trans (h4 j p hp).1, (h4 j p hp).2.pure k⟩⟩
theorem Cx.pure {q : Conn} {w w' : World} (h : Cx q w) (k : Only [] w w') : Cx q w' := ⟨h.at_.pure k, h.ok, h.K.only k (by simp), Nat.lt_of_lt_of_le h.pos k.size⟩
theorem schedOf_le {q : Conn} (h : q.Ok) (H : HK) : (schedOf H q).length ≤ 1000 := by
  rw [schedOf_length]
  have := h.upd
  omega
attribute [local irreducible] ValAt OpAt RunX Tr Post FlowK
section
variable {P : Program} {N : Nat} {l rest : List Oper} {R : World → World → Prop} {w0 : World} {Γ : Env} {K : Env → List (World → Prop) → Prop} {d : Nat} {op : Op} {ty : TypeId} {pos : String} {af : Array Edge} {u : Value}
theorem fk_yes_ex {j t : Nat} {b : Bool} (hj : ((l.toArray)[j]?).bind (·.dst) = some t) (ht : Γ.find t = some (.ex (.bool b))) (h : ∀ w, R w0 w → OpAt P N Γ w ⟨some d, op, ty, pos, af, some (j, b)⟩ R (fun v _ => v = u))
    (k : FlowK P N l R w0 rest ((d, .ex u) :: Γ) K) : FlowK P N l R w0 (⟨some d, op, ty, pos, af, some (j, b)⟩ :: rest) Γ K := by
  unfold FlowK at k ⊢
  exact let ⟨Γ', Fs, hf, hk⟩ := k; ⟨Γ', Fs, .yes rfl rfl hj ht (Slot.stable_ex R u) h hf, hk⟩
end
section
variable {N : Nat} {Γ : Env} {w : World} {d : Option Tmp} {ty : TypeId} {pos : String} {af : Array Edge} {gd : Option (Nat × Bool)}
/-- laws.same of two rows that are known by what they read as. -/
theorem o_same {x y : Operand} {ats : Array TypeId} {ls : List Bytes} (hx : Γ.op x = some (.ab (JQ ls))) (hy : Γ.op y = some (.ab (JQ ls))) (hl : ls.length ≤ 1000) :
    OpAt Tryz.prog N Γ w ⟨d, .call ⟨.value (.func 7), #[x, y], ats⟩, ty, pos, af, gd⟩ (Only []) (fun v _ => v = .bool true) :=
  o_callA (xs := [x, y]) (en rfl) fun a ha => by
    have h1 : JQ ls (a.eval x) w := ha.get x (by simp [Op.operands, Call.operands]) _ hx
    have h2 : JQ ls (a.eval y) w := ha.get y (by simp [Op.operands, Call.operands]) _ hy
    exact c7q (a.eval x) (a.eval y) ls w h1 h2 hl
end
set_option maxHeartbeats 1000000 in
/-- laws.FnConnection -/
theorem c3 (k s b : Int) (q : Conn) (w : World) (hq : q.At w) (hK : KT w) (hw0 : 0 < w.heap.size) : Calls Tryz.prog 3 #[hv k s b, .agg q.cells] w (Ret [] w fun v _ => v = .bool true) := by
  refine enter (Γ := [(0, .ex (hv k s b)), (1, .ex (.agg q.cells))]) Tryz.func3 rfl rfl rfl ⟨⟨_, rfl, rfl⟩, ⟨_, rfl, rfl⟩, trivial⟩ ?_
  repeat (first | refine t_seq ?_ | refine t_region ?_ | refine s_nil ?_ | refine p_then ?_ | refine t_ret ?_ | refine p_then_ret ?_ | refine p_block_ret ?_ | refine t_block ?_ | refine t_exit ?_ | refine p_then_exit ?_ | refine p_block_exit ?_ | refine p_block ?_ | refine t_skip ?_)
  refine s_op (o_box rfl) rfl rfl ?_
  rintro _ w1 hw1 ⟨rfl, hB1⟩
  refine s_op (o_box rfl) rfl rfl ?_
  rintro _ w2 hw2 ⟨rfl, hB2⟩
  refine s_val (v_assign rfl) rfl ?_
  have hH : Blk w2 w.heap.size 23 (hv k s b).cells := hB1.only hw2 (by simp)
  have hC : Blk w2 w1.heap.size 27 q.cells := hB2
  repeat (first | refine t_seq ?_ | refine t_region ?_ | refine s_nil ?_ | refine p_then ?_ | refine t_ret ?_ | refine p_then_ret ?_ | refine p_block_ret ?_ | refine t_block ?_ | refine t_exit ?_ | refine p_then_exit ?_ | refine p_block_exit ?_ | refine p_block ?_ | refine t_skip ?_)
  refine s_val (v_load rfl (ld27 hC)) rfl ?_
  refine s_op (o_call rfl (en rfl) (c5 q w2)) rfl rfl ?_
  rintro _ w3 hw3 ⟨b1, rfl⟩
  refine s_val (v_bool_not rfl) rfl ?_
  have hz3 := (hw1.trans hw2).trans hw3
  replace hH := hH.only hw3 (by simp)
  replace hC := hC.only hw3 (by simp)
  repeat (first | refine t_seq ?_ | refine t_region ?_ | refine s_nil ?_ | refine p_then ?_ | refine t_ret ?_ | refine p_then_ret ?_ | refine p_block_ret ?_ | refine t_block ?_ | refine t_exit ?_ | refine p_then_exit ?_ | refine p_block_exit ?_ | refine p_block ?_ | refine t_skip ?_)
  refine t_if rfl (fun hb => ?_) (fun hb => ?_)
  · repeat (first | refine t_seq ?_ | refine t_region ?_ | refine s_nil ?_ | refine p_then ?_ | refine t_ret ?_ | refine p_then_ret ?_ | refine p_block_ret ?_ | refine t_block ?_ | refine t_exit ?_ | refine p_then_exit ?_ | refine p_block_exit ?_ | refine p_block ?_ | refine t_skip ?_)
    refine s_val (v_assign rfl) rfl ?_
    repeat (first | refine t_seq ?_ | refine t_region ?_ | refine s_nil ?_ | refine p_then ?_ | refine t_ret ?_ | refine p_then_ret ?_ | refine p_block_ret ?_ | refine t_block ?_ | refine t_exit ?_ | refine p_then_exit ?_ | refine p_block_exit ?_ | refine p_block ?_ | refine t_skip ?_)
    exact ret1 rfl rfl ⟨_, rfl, hz3, rfl⟩
  refine t_skip ?_
  repeat (first | refine t_seq ?_ | refine t_region ?_ | refine s_nil ?_ | refine p_then ?_ | refine t_ret ?_ | refine p_then_ret ?_ | refine p_block_ret ?_ | refine t_block ?_ | refine t_exit ?_ | refine p_then_exit ?_ | refine p_block_exit ?_ | refine p_block ?_ | refine t_skip ?_)
  refine t_weak [(2, .ex (pt w.heap.size 0)), (3, .ex (pt w1.heap.size 0))] (by repeat (first | exact trivial | refine ⟨rfl, ?_⟩)) ?_
  by_cases hf : q.Fit
  · have hx : ∀ wF, Only [] w3 wF → Cx q wF := fun wF hR => (show Cx q w from ⟨hq, hf.ok, hK, hw0⟩).pure (hz3.trans hR)
    refine t_drawO 12 (by kernel_rfl) rfl ?_
    refine fk_val Only.refl' (fun wF hR => v_load rfl (ld27 (hC.only hR (by simp)))) ?_
    refine fk_ex (u := .bool true) (fun wF hR => opAt_mono (o_call rfl (en rfl) (c6 q wF)) (fun _ h => h) (fun v _ _ ⟨b, h1, h2⟩ => by rw [h1, h2.2 hf])) ?_
    refine fk_val (Only.refl _) (fun wF hR => v_bool_not rfl) ?_
    refine fk_val (Only.refl _) (fun wF hR => v_move rfl) ?_
    refine fk_yes Only.refl' rfl rfl (fun wF hR => v_load rfl (ld23 (hH.only hR (by simp)))) ?_
    refine fk_yes Only.refl' rfl rfl (fun wF hR => v_load rfl (ld27 (hC.only hR (by simp)))) ?_
    refine fk_yes_op rfl rfl st_jq (fun wF hR => o_call rfl (en rfl) (c8 k s b q wF (hx wF hR))) ?_
    refine fk_yes Only.refl' rfl rfl (fun wF hR => v_load rfl (ld23 (hH.only hR (by simp)))) ?_
    refine fk_yes Only.refl' rfl rfl (fun wF hR => v_load rfl (ld27 (hC.only hR (by simp)))) ?_
    refine fk_yes_op rfl rfl st_jq (fun wF hR => o_call rfl (en rfl) (c9 k s b q wF (hx wF hR))) ?_
    refine fk_yes_ex (u := .bool true) rfl rfl (fun wF hR => o_same rfl rfl (schedOf_le hf.ok _)) ?_
    refine fk_val (Only.refl _) (fun wF hR => v_pick rfl rfl rfl) ?_
    refine fk_nil (fun wA hwA => ?_)
    refine x_weak [(19, .ex (.bool true))] (by repeat (first | exact trivial | refine ⟨rfl, ?_⟩)) ?_
    refine s_val (v_assign rfl) rfl ?_
    repeat (first | refine t_seq ?_ | refine t_region ?_ | refine s_nil ?_ | refine p_then ?_ | refine t_ret ?_ | refine p_then_ret ?_ | refine p_block_ret ?_ | refine t_block ?_ | refine t_exit ?_ | refine p_then_exit ?_ | refine p_block_exit ?_ | refine p_block ?_ | refine t_skip ?_)
    exact ret1 rfl rfl ⟨_, rfl, hz3.trans hwA, rfl⟩
  · refine t_drawO 12 (by kernel_rfl) rfl ?_
    refine fk_val Only.refl' (fun wF hR => v_load rfl (ld27 (hC.only hR (by simp)))) ?_
    refine fk_ex (u := .bool false) (fun wF hR => opAt_mono (o_call rfl (en rfl) (c6 q wF)) (fun _ h => h) (fun v _ _ ⟨b, h1, h2⟩ => by cases b with | false => exact h1 | true => exact absurd (h2.1 rfl) hf)) ?_
    refine fk_val (Only.refl _) (fun wF hR => v_bool_not rfl) ?_
    refine fk_val (Only.refl _) (fun wF hR => v_move rfl) ?_
    first | refine fk_yes (Only.refl _) rfl rfl (fun wF hR => v_load1 rfl (sc rfl) (by assumption)) ?_ | refine fk_no rfl rfl rfl ?_ | refine fk_no_undef rfl rfl ?_
    first | refine fk_yes (Only.refl _) rfl rfl (fun wF hR => v_load1 rfl (sc rfl) (by assumption)) ?_ | refine fk_no rfl rfl rfl ?_ | refine fk_no_undef rfl rfl ?_
    refine fk_no rfl rfl rfl ?_
    first | refine fk_yes (Only.refl _) rfl rfl (fun wF hR => v_load1 rfl (sc rfl) (by assumption)) ?_ | refine fk_no rfl rfl rfl ?_ | refine fk_no_undef rfl rfl ?_
    first | refine fk_yes (Only.refl _) rfl rfl (fun wF hR => v_load1 rfl (sc rfl) (by assumption)) ?_ | refine fk_no rfl rfl rfl ?_ | refine fk_no_undef rfl rfl ?_
    refine fk_no rfl rfl rfl ?_
    refine fk_no rfl rfl rfl ?_
    refine fk_val (Only.refl _) (fun wF hR => v_pick rfl rfl rfl) ?_
    refine fk_nil (fun wA hwA => ?_)
    refine x_weak [(19, .ex (.bool true))] (by repeat (first | exact trivial | refine ⟨rfl, ?_⟩)) ?_
    refine s_val (v_assign rfl) rfl ?_
    repeat (first | refine t_seq ?_ | refine t_region ?_ | refine s_nil ?_ | refine p_then ?_ | refine t_ret ?_ | refine p_then_ret ?_ | refine p_block_ret ?_ | refine t_block ?_ | refine t_exit ?_ | refine p_then_exit ?_ | refine p_block_exit ?_ | refine p_block ?_ | refine t_skip ?_)
    exact ret1 rfl rfl ⟨_, rfl, hz3.trans hwA, rfl⟩
end Go.Proofs.YtnaefgnjdmmmcaaGreatDoor
/- What came in, opened: the hash, the connection, the table. -/
namespace Go.Proofs.YtnaefgnjdmmmcaaGreatDoor
open Go.ChangeShapes Go.WideShapes Go.ChangeAt Go.RowKit
set_option linter.unusedSimpArgs false
set_option linter.unusedVariables false
theorem ownK : ownKnob Tryz.prog.godebug = none := by kernel_rfl
theorem gTab : Tryz.prog.globalNamed "loop.example/pub-g03087/pub/sha256._K" = some 0 := by kernel_rfl
theorem gTabType : (Tryz.prog.globals[0]?).map (·.type) = some 127 := by kernel_rfl
theorem cells127 : Tryz.prog.cellsOf 127 = 64 := by kernel_rfl
theorem cells95 : Tryz.prog.cellsOf 95 = 1 := by kernel_rfl
theorem cells5 : Tryz.prog.cellsOf 5 = 1 := by kernel_rfl
theorem cells24 : Tryz.prog.cellsOf 24 = 1 := by kernel_rfl
theorem cells25 : Tryz.prog.cellsOf 25 = 7 := by kernel_rfl
theorem cells9 : Tryz.prog.cellsOf 9 = 1 := by kernel_rfl
theorem cells3 : Tryz.prog.cellsOf 3 = 1 := by kernel_rfl
theorem cells27 : Tryz.prog.cellsOf 27 = 13 := by kernel_rfl
theorem cells23 : Tryz.prog.cellsOf 23 = 3 := by kernel_rfl
theorem laidOutT : laidOutB Tryz.prog = true := by kernel_rfl
attribute [local irreducible] Value.okWide DataW.trod DataW.Trod
def shaZ : List Int := shaK.map fun x => (x.toNat : Int)
theorem laid_eq : (Rows.laid_loop_example_pub_g03087_pub_sha256_K (H := Unit)) = Lib.tabData .u32 shaZ := by kernel_rfl
/-- What the row's list gives: the table of round constants. -/
theorem ktOf {W : World} (h : laidMetH Tryz.prog [("loop.example/pub-g03087/pub/sha256._K", Rows.laid_loop_example_pub_g03087_pub_sha256_K)] W) : KT W := by
  have h2 : laidMet Tryz.prog (("loop.example/pub-g03087/pub/sha256._K", Lib.tabData .u32 shaZ) :: []) W := by rw [← laid_eq]; exact h
  have ht := Lib.tabIs_of_head gTab gTabType Tryz.underlying127 Tryz.underlying95 cells95 cells127 h2
  have hc : ∀ j, j < 64 → W.cell? ⟨0, 0 + j, none⟩ = some (U (shaK.getD j 0)) := fun j hj => by
    have h3 := ht.cell gTab j (by show j < shaK.length.succ.pred; exact hj)
    rw [Nat.zero_add, h3]
    simp only [shaZ, List.getD_eq_getElem?_getD, List.getElem?_map]
    have hj' : j < shaK.length := hj
    rw [List.getElem?_eq_getElem hj']
    rfl
  exact ⟨World.block_lt_of_cell? W ⟨0, 0, none⟩ (hc 0 (by decide)), hc⟩
theorem arr3 {cs : Array Value} (h : cs.size = 3) : ∃ a b c, cs = #[a, b, c] := by
  obtain ⟨l⟩ := cs
  match l, h with
  | [a, b, c], _ => exact ⟨a, b, c, rfl⟩
theorem arr13 {cs : Array Value} (h : cs.size = 13) : ∃ c0 c1 c2 c3 c4 c5 c6 c7 c8 c9 c10 c11 c12, cs = #[c0, c1, c2, c3, c4, c5, c6, c7, c8, c9, c10, c11, c12] := by
  obtain ⟨l⟩ := cs
  match l, h with
  | [c0, c1, c2, c3, c4, c5, c6, c7, c8, c9, c10, c11, c12], _ => exact ⟨c0, c1, c2, c3, c4, c5, c6, c7, c8, c9, c10, c11, c12, rfl⟩
section
variable {H : Type} {enc : TypeId × Value → H} {W : World}
theorem u8_of_wf {z : Int} (h : (Lit.int .u8 z).wf = true) : Value.int .u8 z = B (UInt8.ofNat z.toNat) := by
  have hb := bounds_u8 h
  show Value.int .u8 z = Value.int .u8 _
  congr 1
  rw [UInt8.toNat_ofNat']
  omega
/-- A slice of bytes that came in. -/
theorem bytesOf {fuel : Nat} {cs : List Value} {x : DataW H × List MemPlace} (h : DataW.trod enc Tryz.prog W 0 (fun _ => true) true fuel 24 cs = some x) : ∃ p : Pt, cs = [p.val] ∧ Rd W p.A p.l ∧ p.l.length ≤ p.c := by
  rcases open_ints Tryz.underlying24 Tryz.underlying5 cells5 h with ⟨rfl, _⟩ | ⟨a, len, cap, zs, rfl, _, hl, hm, hz, _, hcell, hwz⟩
  · exact ⟨⟨none, 0, []⟩, rfl, Rd.nil _ _, Nat.le_refl _⟩
  · simp only [if_true] at hz
    have hlen : ((zs.take len).map fun n => UInt8.ofNat n.toNat).length = len := by simp; omega
    refine ⟨⟨some a, cap, (zs.take len).map fun n => UInt8.ofNat n.toNat⟩, by rw [Pt.val, hlen], fun hne => ?_, by rw [hlen]; exact hl⟩
    have hpos : 0 < len := by
      rcases Nat.eq_zero_or_pos len with h0 | h0
      · exact absurd (List.eq_nil_of_length_eq_zero (by rw [hlen]; exact h0)) hne
      · exact h0
    obtain ⟨g, i, spot⟩ := a
    have hspot : spot = none := by simpa [Addr.add] using World.cell?_spot (hcell 0 (by omega))
    subst hspot
    refine ⟨g, i, rfl, World.block_lt_of_cell? W _ (hcell 0 (by omega)), fun j b hb => ?_⟩
    have hj : j < len := by have := (List.getElem?_eq_some_iff.1 hb).1; rw [hlen] at this; exact this
    have h3 := hcell j (by omega)
    rw [add_lit] at h3
    rw [h3]
    have e : zs.getD j 0 = zs[j]'(by omega) := by simp [List.getD, List.getElem?_eq_getElem (show j < zs.length by omega)]
    have hb' : b = UInt8.ofNat (zs[j]'(by omega)).toNat := by
      rw [List.getElem?_map, List.getElem?_take, if_pos hj, List.getElem?_eq_getElem (by omega)] at hb
      simpa using hb.symm
    rw [e, hb', u8_of_wf (hwz _ (List.getElem_mem _))]
/-- The hash that came in. -/
theorem hashOf {base : Nat} {v : Value} {d : DataW H} {p : List MemPlace} (hv : Value.okWide Tryz.prog W .any base 23 v) (h : DataW.Trod enc Tryz.prog W 0 (fun _ => true) true 23 v d p) : ∃ k s b, v = Go.Proofs.YtnaefgnjdmmmcaaGreatDoor.hv k s b := by
  obtain ⟨cs, rfl, hsz⟩ := okWide_struct Tryz.underlying23 hv
  rw [cells23] at hsz
  unfold DataW.Trod at h
  obtain ⟨fuel, hf⟩ := h
  obtain ⟨xs, n, rfl, _, _, hxl, hx⟩ := DataW.trod_struct Tryz.underlying23 hf
  obtain ⟨c0, c1, c2, rfl⟩ := arr3 hsz
  have hint : ∀ (i : Nat) (c : Value), DataW.trod enc Tryz.prog W 0 (fun _ => true) true n 3 [c] = xs[i]? → i < xs.length → ∃ z, c = .int .i64 z := by
    intro i c h1 h2
    rw [List.getElem?_eq_getElem h2] at h1
    obtain ⟨z, hz, _, _⟩ := DataW.trod_int Tryz.underlying3 h1
    exact ⟨z, by simpa using hz⟩
  have hxl' : xs.length = 3 := hxl
  have h0 := hx 0 { name := "Kind", type := 3, offset := 0, embedded := false, tag := "", pkgPath := "", byteOffset := 0 } rfl
  have h1 := hx 1 { name := "Size", type := 3, offset := 1, embedded := false, tag := "", pkgPath := "", byteOffset := 8 } rfl
  have h2 := hx 2 { name := "Block", type := 3, offset := 2, embedded := false, tag := "", pkgPath := "", byteOffset := 16 } rfl
  simp only [cells3, Value.cells, List.drop_zero, List.drop_succ_cons, List.take_succ_cons, List.take_zero] at h0 h1 h2
  obtain ⟨k, rfl⟩ := hint 0 c0 h0 (by omega)
  obtain ⟨s, rfl⟩ := hint 1 c1 h1 (by omega)
  obtain ⟨b, rfl⟩ := hint 2 c2 h2 (by omega)
  exact ⟨k, s, b, rfl⟩
/-- The connection that came in. -/
theorem connOf {base : Nat} {v : Value} {d : DataW H} {p : List MemPlace} (hv : Value.okWide Tryz.prog W .any base 27 v) (h : DataW.Trod enc Tryz.prog W 0 (fun _ => true) true 27 v d p) : ∃ q : Conn, v = .agg q.cells ∧ q.At W := by
  obtain ⟨cs, rfl, hsz⟩ := okWide_struct Tryz.underlying27 hv
  rw [cells27] at hsz
  unfold DataW.Trod at h
  obtain ⟨fuel, hf⟩ := h
  obtain ⟨xs, n, rfl, _, _, hxl, hx⟩ := DataW.trod_struct Tryz.underlying27 hf
  obtain ⟨c0, c1, c2, c3, c4, c5, c6, c7, c8, c9, c10, c11, c12, rfl⟩ := arr13 hsz
  have hxl' : xs.length = 7 := hxl
  have h0 := hx 0 { name := "Psk", type := 24, offset := 0, embedded := false, tag := "", pkgPath := "", byteOffset := 0 } rfl
  have h1 := hx 1 { name := "Shared", type := 24, offset := 1, embedded := false, tag := "", pkgPath := "", byteOffset := 24 } rfl
  have h2 := hx 2 { name := "Messages", type := 25, offset := 2, embedded := false, tag := "", pkgPath := "", byteOffset := 48 } rfl
  have h3 := hx 3 { name := "Label", type := 9, offset := 9, embedded := false, tag := "", pkgPath := "", byteOffset := 216 } rfl
  have h4 := hx 4 { name := "Context", type := 24, offset := 10, embedded := false, tag := "", pkgPath := "", byteOffset := 232 } rfl
  have h5 := hx 5 { name := "Nonce", type := 24, offset := 11, embedded := false, tag := "", pkgPath := "", byteOffset := 256 } rfl
  have h6 := hx 6 { name := "Updates", type := 3, offset := 12, embedded := false, tag := "", pkgPath := "", byteOffset := 280 } rfl
  simp only [cells3, cells24, cells25, cells9, Value.cells, List.drop_zero, List.drop_succ_cons, List.take_succ_cons, List.take_zero] at h0 h1 h2 h3 h4 h5 h6
  have hb : ∀ (i : Nat) (c : Value), DataW.trod enc Tryz.prog W 0 (fun _ => true) true n 24 [c] = xs[i]? → i < xs.length → ∃ p : Pt, c = p.val ∧ Rd W p.A p.l ∧ p.l.length ≤ p.c := by
    intro i c e1 e2
    rw [List.getElem?_eq_getElem e2] at e1
    obtain ⟨p, e3, e4, e5⟩ := bytesOf e1
    exact ⟨p, by simpa using e3, e4, e5⟩
  obtain ⟨p0, rfl, r0, l0⟩ := hb 0 c0 h0 (by omega)
  obtain ⟨p1, rfl, r1, l1⟩ := hb 1 c1 h1 (by omega)
  obtain ⟨p4, rfl, r4, l4⟩ := hb 4 c10 h4 (by omega)
  obtain ⟨p5, rfl, r5, l5⟩ := hb 5 c11 h5 (by omega)
  obtain ⟨z, rfl⟩ : ∃ z, c12 = .int .i64 z := by
    rw [List.getElem?_eq_getElem (by omega)] at h6
    obtain ⟨z, hz, _, _⟩ := DataW.trod_int Tryz.underlying3 h6
    exact ⟨z, by simpa using hz⟩
  obtain ⟨l, rfl⟩ : ∃ l : Bytes, c9 = S l := by
    rw [List.getElem?_eq_getElem (by omega)] at h3
    obtain ⟨s, hs, _, _⟩ := DataW.trod_string Tryz.underlying9 h3
    obtain ⟨⟨l⟩⟩ := s
    exact ⟨l, by simpa using hs⟩
  rw [List.getElem?_eq_getElem (by omega)] at h2
  obtain ⟨ys, m, _, _, _, hyl, hy⟩ := DataW.trod_array Tryz.underlying25 h2
  have hm : ∀ (i : Nat) (c : Value), DataW.trod enc Tryz.prog W 0 (fun _ => true) true m 24 [c] = ys[i]? → i < 7 → ∃ p : Pt, c = p.val ∧ Rd W p.A p.l ∧ p.l.length ≤ p.c := by
    intro i c e1 e2
    rw [List.getElem?_eq_getElem (by omega)] at e1
    obtain ⟨p, e3, e4, e5⟩ := bytesOf e1
    exact ⟨p, by simpa using e3, e4, e5⟩
  have g0 := hy 0 (by decide)
  have g1 := hy 1 (by decide)
  have g2 := hy 2 (by decide)
  have g3 := hy 3 (by decide)
  have g4 := hy 4 (by decide)
  have g5 := hy 5 (by decide)
  have g6 := hy 6 (by decide)
  simp only [cells24, Nat.mul_one, List.drop_zero, List.drop_succ_cons, List.take_succ_cons, List.take_zero] at g0 g1 g2 g3 g4 g5 g6
  obtain ⟨m0, rfl, s0, _⟩ := hm 0 c2 g0 (by decide)
  obtain ⟨m1, rfl, s1, _⟩ := hm 1 c3 g1 (by decide)
  obtain ⟨m2, rfl, s2, _⟩ := hm 2 c4 g2 (by decide)
  obtain ⟨m3, rfl, s3, _⟩ := hm 3 c5 g3 (by decide)
  obtain ⟨m4, rfl, s4, _⟩ := hm 4 c6 g4 (by decide)
  obtain ⟨m5, rfl, s5, _⟩ := hm 5 c7 g5 (by decide)
  obtain ⟨m6, rfl, s6, _⟩ := hm 6 c8 g6 (by decide)
  refine ⟨⟨p0, p1, m0, m1, m2, m3, m4, m5, m6, l, p4, p5, z⟩, rfl, r0, l0, r1, l1, fun p hp => ?_, r4, l4, r5, l5⟩
  simp only [Conn.ms, List.mem_cons, List.not_mem_nil, or_false] at hp
  rcases hp with rfl | rfl | rfl | rfl | rfl | rfl | rfl <;> assumption
end
end Go.Proofs.YtnaefgnjdmmmcaaGreatDoor
/- The statement's frame: what the call leaves; FnConnection's card. -/
namespace Go.Proofs.YtnaefgnjdmmmcaaGreatDoor
open Go.ChangeShapes Go.WideShapes Go.ChangeAt Go.RowKit
set_option linter.unusedSimpArgs false
set_option linter.unusedVariables false
attribute [local irreducible] Value.okWide DataW.trod DataW.Trod
section
variable {H : Type} {enc : TypeId × Value → H}
theorem Only.below' {W W' : World} (h : Only [] W W') : Below W.heap.size W W' := h.below (fun _ hi => by cases hi) (Nat.le_refl _)
/-- Where nothing that was there has turned, the arguments read as they did. -/
theorem trodAll_below {P : Program} (hl : laidOutB P = true) {W W' : World} (hb : Below W.heap.size W W') : ∀ {ts : List TypeId} {vs : List Value} {ds : List (DataW H)} {ps : List MemPlace},
    (∀ t ∈ ts, P.readableRec t = true ∧ t < P.types.size) → DataW.TrodAll enc P W 0 (fun _ => true) true ts vs ds ps → (∀ x ∈ ps, x.block < W.heap.size) → DataW.TrodAll enc P W' 0 (fun b => decide (b < W.heap.size)) true ts vs ds ps
  | [], [], [], _, _, h, _ => h
  | t :: ts, v :: vs, d :: ds, ps, hr, h, hlt => by
    obtain ⟨p, q, h1, h2, rfl⟩ := h
    exact ⟨p, q, hb.trod hl (hr t (by simp)).1 (hr t (by simp)).2 h1 (fun x hx => hlt x (by simp [hx])), trodAll_below hl hb (fun t ht => hr t (by simp [ht])) h2 (fun x hx => hlt x (by simp [hx])), rfl⟩
  | [], _ :: _, _, _, _, h, _ => h.elim
  | [], [], _ :: _, _, _, h, _ => h.elim
  | _ :: _, [], _, _, _, h, _ => h.elim
  | _ :: _, _ :: _, [], _, _, h, _ => h.elim
theorem post_true {P : Program} (hl : laidOutB P = true) {f : Func} {s : ChangeSpec} {rt : TypeId} {W W' : World} {args : Array Value} {ds gs : List (DataW H)} {before : List MemPlace}
    (hr : ∀ t ∈ f.params.toList, P.readableRec t = true ∧ t < P.types.size) (hv : varsRowed P s.vars = true) (hrt : f.resultTypes = #[rt]) (hb4 : P.underlying rt = some .bool)
    (hW : DataW.Whole enc P f.params.toList s.vars false W args.toList ds gs before) (hs : s.fn H (ds ++ gs) = { results := [.lit (.bool true)], args := ds, vars := gs }) (hb : Below W.heap.size W W') :
    s.post enc P f false true false false W args (.bool true) W' := by
  have hlt := hW.lt
  have hW' := hW
  obtain ⟨p, q, hA, hV, rfl, _, _⟩ := hW
  refine ⟨ds, gs, p ++ q, [], p, q, hW', ?_, ?_, ?_, hb.frame _, fun h => by cases h⟩
  · rw [hs, hrt]
    exact ⟨[], [], shut_bool hb4 true, rfl, rfl⟩
  · rw [hs]
    exact trodAll_below hl hb hr hA (fun x hx => hlt x (by simp [hx]))
  · rw [hs]
    exact hb.trodVars hl hv hV
theorem readable2 : ∀ t ∈ [23, 27], Tryz.prog.readableRec t = true ∧ t < Tryz.prog.types.size := by
  intro t ht
  simp only [List.mem_cons, List.not_mem_nil, or_false] at ht
  rcases ht with rfl | rfl
  · exact ⟨by kernel_rfl, of_decide_eq_true (by kernel_rfl)⟩
  · exact ⟨by kernel_rfl, of_decide_eq_true (by kernel_rfl)⟩
theorem rowedV : varsRowed Tryz.prog ["loop.example/pub-g03087/pub/sha256._K"] = true := by kernel_rfl
theorem trodVars1 {P : Program} {W : World} {sp : Nat → Bool} {n : String} {gs : List (DataW H)} {ps : List MemPlace} (h : DataW.TrodVars enc P W sp [n] gs ps) : ∃ g, gs = [g] := by
  match gs, h with
  | [g], _ => exact ⟨g, rfl⟩
  | [], h => exact h.elim
  | _ :: _ :: _, h => obtain ⟨_, _, _, _, _, _, _, _, _, _, h, _⟩ := h; exact h.elim
theorem contract3 (W : World) (base : Nat) (args : Array Value) (ds gs : List (DataW H)) (before : List MemPlace)
    (hval : ∀ (j : Nat) t v, Tryz.f3.params[j]? = some t → args[j]? = some v → Value.okWide Tryz.prog W .any base t v)
    (hW : DataW.Whole enc Tryz.prog Tryz.f3.params.toList Rows.fnConnectionSpec.vars false W args.toList ds gs before) (hL : laidMetH Tryz.prog Rows.fnConnectionRow.laid W) :
    Calls Tryz.prog 3 args W fun e W' => ∃ v, e = .returned v ∧ Rows.fnConnectionSpec.post enc Tryz.prog Tryz.f3 false true false false W args v W' := by
  have hW' := hW
  obtain ⟨p, q, hA0, hV, rfl, hfz, hnd⟩ := hW
  have hA : DataW.TrodAll enc Tryz.prog W 0 (fun _ => true) true Tryz.f3.params.toList args.toList ds p := hA0
  rw [Tryz.params3] at hA hval
  obtain ⟨v0, vs0, d0, ds0, p0, q0, hargs, rfl, rfl, h0, r0⟩ := trodAll_cons hA
  obtain ⟨v1, vs1, d1, ds1, p1, q1, rfl, rfl, rfl, h1, r1⟩ := trodAll_cons r0
  obtain ⟨rfl, rfl, rfl⟩ := trodAll_nil r1
  obtain rfl : args = #[v0, v1] := by cases args; simp_all
  obtain ⟨g, rfl⟩ := trodVars1 hV
  obtain ⟨k, s, b, rfl⟩ := hashOf (hval 0 23 v0 rfl rfl) h0
  obtain ⟨x, rfl, hx⟩ := connOf (hval 1 27 v1 rfl rfl) h1
  have hK := ktOf hL
  refine (c3 k s b x W hx hK hK.1).mono fun e W' he => ?_
  obtain ⟨v, rfl, hz, rfl⟩ := he
  exact ⟨_, rfl, post_true laidOutT (by rw [Tryz.params3]; exact readable2) rowedV (rt := 4) (by kernel_rfl) Tryz.underlying4 hW' rfl hz.below'⟩
end
end Go.Proofs.YtnaefgnjdmmmcaaGreatDoor
/- FnConnection: the row's statement and the card. -/
namespace Go.Proofs.YtnaefgnjdmmmcaaGreatDoor
open Go.ChangeShapes Go.WideShapes Go.ChangeAt Go.RowKit
/-- A world for the witness: the settled one, the table (block 0) holding what its initialiser lays. -/
noncomputable def laidWorld (os : Os) : World :=
  { World.holding Tryz.prog os ⟨#[], #[], []⟩ with heap := (World.holding Tryz.prog os ⟨#[], #[], []⟩).heap.modify 0 fun
      | .cells _ t frozen => .cells (shaZ.map fun z => Value.int .u32 z).toArray t frozen
      | o => o }
def noHash : Value := .agg #[.int .i64 0, .int .i64 0, .int .i64 0]
def noConn : Value := .agg #[.slice none 0 0, .slice none 0 0, .slice none 0 0, .slice none 0 0, .slice none 0 0, .slice none 0 0, .slice none 0 0, .slice none 0 0, .slice none 0 0, .string ⟨#[]⟩, .slice none 0 0, .slice none 0 0, .int .i64 0]
theorem laid_met3 (os : Os) : laidMet Tryz.prog Rows.fnConnectionRow.laid ((laidWorld os).forCall (fun _ _ => 0) ⟨#[], #[noHash, noConn], []⟩).memory :=
  laidMet_of_run' 8 (by kernel_rfl) (by kernel_rfl)
section
variable {H : Type}
def dHash : DataW H := .agg [.lit (.int .i64 0), .lit (.int .i64 0), .lit (.int .i64 0)]
def dConn : DataW H := .agg [.nil, .nil, .agg [.nil, .nil, .nil, .nil, .nil, .nil, .nil], .lit (.string []), .nil, .nil, .lit (.int .i64 0)]
end
theorem reads3 (os : Os) {H : Type} (enc : TypeId × Value → H) : ∃ places, DataW.whole enc Tryz.prog ((laidWorld os).forCall (fun _ _ => 0) ⟨#[], #[noHash, noConn], []⟩).memory Tryz.f3.params.toList Rows.fnConnectionSpec.vars false #[noHash, noConn].toList 8 = some ([dHash, dConn], [Rows.laid_loop_example_pub_g03087_pub_sha256_K], places) :=
  ⟨MemPlace.row ⟨0, 0, none⟩ 64, by kernel_rfl⟩
set_option maxRecDepth 100000 in
theorem lifted3 (os : Os) (started : os.Started) (H : Type) (enc : TypeId × Value → H) (F : Stop.Interp) :
    ReturnsInHanded {} Tryz.checked os 3 .any ((OpenSpec.ofChange Rows.fnConnectionSpec).preRow enc Tryz.prog Tryz.f3 Rows.fnConnectionRow.domain false Rows.fnConnectionRow.laid) (((OpenSpec.ofChange Rows.fnConnectionSpec).at F).post enc Tryz.prog Tryz.f3 false true false false) := by
  obtain ⟨places, hx⟩ := reads3 os enc
  refine returnsInHanded_of_row (C := Tryz.checked) (s := OpenSpec.ofChange Rows.fnConnectionSpec) ownK started (by kernel_rfl) Tryz.func3
    (witness_row_at (enc := enc) (C := Tryz.checked) false (laidWorld os) #[noHash, noConn] rfl (by kernel_rfl) (by kernel_rfl) (by kernel_rfl)
      (OpenSpec.preRow_of_cond 8 hx (by kernel_rfl) (fun k hk => by cases hk) (by kernel_rfl) (laid_met3 os))) ?_
  intro W base args ds gs before hval hW _ _ _ hL _ _
  exact contract3 W base args ds gs before hval hW hL
theorem said3 : Rows.FnConnectionSaid :=
  OpenClaim.holds_of_cond 3 Tryz.f3 rfl rfl rfl rfl rfl rfl rfl ⟨rfl, rfl, rfl, rfl, rfl⟩ rfl rfl rfl rfl rfl (by kernel_rfl) Tryz.func3 (by kernel_rfl)
    (of_decide_eq_true (by kernel_rfl)) (by unfold Func.isWrapper; first | (rw [if_pos (by decide +kernel)]; kernel_rfl) | (rw [if_neg (by decide +kernel)]; exact ⟨rfl, rfl⟩))
    (fun os started H enc _ F => by rw [OpenClaim.pre_eq_preRow]; exact lifted3 os started H enc F)
theorem plain3 (f : FuncId) (fn : Func) (hf : Tryz.pinned.checked.prog.funcNamed "loop.example/pub-g03087/laws.FnConnection" = some f) (hfn : Tryz.pinned.checked.prog.funcs[f]? = some fn) :
    true = Tryz.pinned.checked.prog.looks [] ∧ ∀ (j : Nat) t, fn.params[j]? = some t → Tryz.pinned.checked.prog.wantsStandIn t = false := by
  obtain rfl : f = 3 := Option.some.inj ((show Tryz.prog.funcNamed "loop.example/pub-g03087/laws.FnConnection" = some 3 by kernel_rfl).symm.trans hf) |>.symm
  obtain rfl : fn = Tryz.f3 := (Option.some.inj (Tryz.func3.symm.trans hfn)).symm
  refine ⟨by kernel_rfl, fun j t ht => ?_⟩
  rw [Tryz.params3] at ht
  have hm : t = 23 ∨ t = 27 := by simpa using Array.mem_of_getElem? ht
  rcases hm with rfl | rfl
  · exact (show Tryz.prog.wantsStandIn 23 = false by kernel_rfl)
  · exact (show Tryz.prog.wantsStandIn 27 = false by kernel_rfl)
/-- The card of FnConnection. -/
theorem fnConnection_card : Rows.FnConnectionCardSaid :=
  Claim7.holds_tied_plain_at .later [] _ _ _ _ said3 (fun _ h => by cases h) (by kernel_rfl) (fun _ h => by cases h) fnConnection_row_tie rfl ⟨rfl, rfl⟩ (by kernel_rfl) rfl plain3 (by kernel_rfl)
#print axioms fnConnection_card
end Go.Proofs.YtnaefgnjdmmmcaaGreatDoor
