/-
  What is proved here, of the given program in the given model, of every input, with no condition but those that each theorem states ahead of its conclusion: The ticket of the thin package. Rows of slices of the call's own: literal, append, and an append whose region draws its order. The schedule's state. laws.same, of rows in whatever cells. The calls that a schedule makes. The length of a row that is known by what it reads as. laws.schedule: the list that the thin package gives.
-/
import Derived.Test.YtnaefgnjdmmmcaaGreatDoorM10
/- The ticket of the thin package. -/
namespace Go.Proofs.YtnaefgnjdmmmcaaGreatDoor
open Go.RowKit
attribute [local irreducible] ValAt OpAt RunX Tr Post FlowK
set_option maxHeartbeats 1000000 in
/-- laws.ticket -/
theorem c10 (k s b : Int) (q : Conn) (w : World) (hq : q.At w) (ho : q.Ok) (hK : KT w) (hw0 : 0 < w.heap.size) : Calls Tryz.prog 10 #[hv k s b, .agg q.cells] w (Ret [] w (Sl (ticketOf (hkOf k s b) q))) := by
  have hok := hkOf_ok k s b
  have hsl := HK.size_le hok
  have hml := master_length (hkOf k s b) q.psk.l q.shared.l
  have hup := ho.up 7
  have h1 := ho.psk
  have h2 := ho.shared
  have h3 := ho.nonce
  have hdl := derive_length hok (master (hkOf k s b) q.psk.l q.shared.l) [114, 101, 115, 32, 109, 97, 115, 116, 101, 114] (q.up 7)
  refine enter (Γ := [(0, .ex (hv k s b)), (1, .ex (.agg q.cells))]) Tryz.func10 rfl rfl rfl ⟨⟨_, rfl, rfl⟩, ⟨_, rfl, rfl⟩, trivial⟩ ?_
  repeat (first | refine t_seq ?_ | refine t_region ?_ | refine s_nil ?_ | refine p_then ?_ | refine t_ret ?_ | refine p_then_ret ?_ | refine p_block_ret ?_ | refine t_block ?_ | refine t_exit ?_ | refine p_then_exit ?_ | refine p_block_exit ?_ | refine p_block ?_ | refine t_skip ?_)
  refine s_op (o_box rfl) rfl rfl ?_
  rintro _ w1 hw1 ⟨rfl, hB1⟩
  refine s_op (o_box rfl) rfl rfl ?_
  rintro _ w2 hw2 ⟨rfl, hB2⟩
  refine s_val (v_assign rfl) rfl ?_
  have hz2 := hw1.trans hw2
  have hs2 := hz2.size
  have hH2 := hB1.only hw2 (by simp)
  have hC2 : Blk w2 w1.heap.size 27 q.cells := hB2
  have hq2 := hq.pure hz2
  have h26 : ∀ wF, Only [] w2 wF → ∀ a : Act, a.eval (.tmp 6) = hv k s b → a.eval (.tmp 8) = q.psk.val → a.eval (.tmp 10) = q.shared.val → Sl (q.up 7) (a.eval (.tmp 12)) wF → Calls Tryz.prog 26 ([Operand.tmp 6, .tmp 8, .tmp 10, .tmp 12].map a.eval).toArray wF (Ret [] wF (Fresh wF (derive (hkOf k s b) (master (hkOf k s b) q.psk.l q.shared.l) [114, 101, 115, 32, 109, 97, 115, 116, 101, 114] (q.up 7)))) := by
    intro wF hR a e1 e2 e3 ⟨A, c, e4, _, hr⟩
    simp only [List.map_cons, List.map_nil, e1, e2, e3, e4]
    exact c26 k s b q.psk.A q.shared.A A q.psk.c q.shared.c c q.psk.l q.shared.l (q.up 7) wF (hq2.pure hR).psk (by omega) (hq2.pure hR).shared (by omega) hr (by omega) (hK.only (hz2.trans hR) (by simp)) (by have := hR.size; omega)
  repeat (first | refine t_seq ?_ | refine t_region ?_ | refine s_nil ?_ | refine p_then ?_ | refine t_ret ?_ | refine p_then_ret ?_ | refine p_block_ret ?_ | refine t_block ?_ | refine t_exit ?_ | refine p_then_exit ?_ | refine p_block_exit ?_ | refine p_block ?_ | refine t_skip ?_)
  refine t_drawO 13 (by kernel_rfl) rfl ?_
  refine fk_val Only.refl' (fun wF hR => v_load rfl (ld23 (hH2.only hR (by simp)))) ?_
  refine fk_val Only.refl' (fun wF hR => v_load rfl (ld23 (hH2.only hR (by simp)))) ?_
  refine fk_val (Only.refl _) (fun wF hR => v_fieldAddr rfl (fo rfl)) ?_
  refine fk_val (Only.refl _) (fun wF hR => v_load1 rfl (sc rfl) (by first | exact (hC2.only hR (by simp)).cell _ rfl | assumption)) ?_
  refine fk_val (Only.refl _) (fun wF hR => v_fieldAddr rfl (fo rfl)) ?_
  refine fk_val (Only.refl _) (fun wF hR => v_load1 rfl (sc rfl) (by first | exact (hC2.only hR (by simp)).cell _ rfl | assumption)) ?_
  refine fk_val Only.refl' (fun wF hR => v_load rfl (ld27 (hC2.only hR (by simp)))) ?_
  refine fk_op st_s (fun wF hR => f13 rfl (hq2.pure hR) ho (by decide)) ?_
  refine fk_op (st_s (l := derive (hkOf k s b) (master (hkOf k s b) q.psk.l q.shared.l) [114, 101, 115, 32, 109, 97, 115, 116, 101, 114] (q.up 7))) (fun wF hR => opAt_mono (o_callA (S := Fresh wF (derive (hkOf k s b) (master (hkOf k s b) q.psk.l q.shared.l) [114, 101, 115, 32, 109, 97, 115, 116, 101, 114] (q.up 7))) (fp := []) (xs := [.tmp 6, .tmp 8, .tmp 10, .tmp 12]) (en rfl) (fun a ha => h26 wF hR a (ha.val (x := .tmp 6) (by simp [Op.operands, Call.operands]) rfl) (ha.val (x := .tmp 8) (by simp [Op.operands, Call.operands]) rfl) (ha.val (x := .tmp 10) (by simp [Op.operands, Call.operands]) rfl) (ha.get (.tmp 12) (by simp [Op.operands, Call.operands]) _ rfl))) (fun _ h => h) (fun _ _ _ h => h.sl)) ?_
  refine fk_val (Only.refl _) (fun wF hR => v_fieldAddr rfl (fo rfl)) ?_
  refine fk_val (Only.refl _) (fun wF hR => v_load1 rfl (sc rfl) (by first | exact (hC2.only hR (by simp)).cell _ rfl | assumption)) ?_
  refine fk_val Only.refl' (fun wF hR => v_load rfl (ld23 (hH2.only hR (by simp)))) ?_
  refine fk_ex (fun wF hR => f24 rfl) ?_
  refine fk_nil (fun w3 hw3 => ?_)
  refine x_open 13 rfl (fun v h => ?_)
  obtain ⟨A4, c4, rfl, hc4, hr4⟩ := h
  refine x_weak [(5, .ex (hv k s b)), (13, .ex (.slice A4 (derive (hkOf k s b) (master (hkOf k s b) q.psk.l q.shared.l) [114, 101, 115, 32, 109, 97, 115, 116, 101, 114] (q.up 7)).length c4)), (15, .ex q.nonce.val), (17, .ex (I (hkOf k s b).size))] ⟨rfl, rfl, rfl, rfl, trivial⟩ ?_
  refine s_op (o_call rfl (en rfl) (c23 k s b A4 q.nonce.A c4 q.nonce.c _ [114, 101, 115, 117, 109, 112, 116, 105, 111, 110] q.nonce.l (hkOf k s b).size w3 hr4 (by omega) (by decide) (hq2.pure hw3).nonce h3 hsl (hK.only (hz2.trans hw3) (by simp)) (by have := hw3.size; omega))) rfl rfl ?_
  rintro v6 w6 hw6 h6
  refine s_val (v_assign rfl) rfl ?_
  repeat (first | refine t_seq ?_ | refine t_region ?_ | refine s_nil ?_ | refine p_then ?_ | refine t_ret ?_ | refine p_then_ret ?_ | refine p_block_ret ?_ | refine t_block ?_ | refine t_exit ?_ | refine p_then_exit ?_ | refine p_block_exit ?_ | refine p_block ?_ | refine t_skip ?_)
  exact ret1 rfl rfl ⟨_, rfl, (hz2.trans hw3).trans hw6, h6.sl⟩
end Go.Proofs.YtnaefgnjdmmmcaaGreatDoor
/- Rows of slices of the call's own: literal, append, and an append whose region draws its order. -/
namespace Go.Proofs.YtnaefgnjdmmmcaaGreatDoor
open Go.RowKit
theorem cellsOf_full (ps : List Pt) : cellsOf ps ps.length = (ps.map Pt.val).toArray := by simp [cellsOf]
/-- A row that reads as these; of its block Z holds. -/
def RowZ (Z : Nat → Prop) (ls : List Bytes) (v : Value) (w : World) : Prop := ∃ g c ps, v = .slice (some ⟨g, 0, none⟩) ps.length c ∧ Z g ∧ RowIs w g c ps ∧ ps.map Pt.l = ls ∧ ∀ p ∈ ps, Rd w p.A p.l
section
variable {P : Program} {N : Nat} {Γ : Env} {w : World} {d : Option Tmp} {ty : TypeId} {pos : String} {af : Array Edge} {gd : Option (Nat × Bool)}
/-- A row's literal, as a row of the call's own. -/
theorem o_rowG {Z : Nat → Prop} {ps : Array (Nat × Operand)} {t : TypeId} {z : Value} {bytes n : Nat} {ls : List Bytes} (hT : RowTy P t 24 z bytes) (hZ : Z w.heap.size) (hi : ps.toList.map (·.1) = List.range ls.length) (hn : n = ls.length) (hpos : 0 < ls.length) (hsm : ls.length ≤ 1000)
    (h : ∀ a, SatOn N Γ ⟨d, .buildSlice t n ps, ty, pos, af, gd⟩ a w → All2 w a (ps.toList.map (·.2)) ls) : OpAt P N Γ w ⟨d, .buildSlice t n ps, ty, pos, af, gd⟩ (Only []) (RowZ Z ls) :=
  opAt_val fun a ha => by
    subst hn
    obtain ⟨qs, e1, e2, e3⟩ := (h a ha).parts
    obtain ⟨i, hinf, hz, hs, _⟩ := hT.info
    have hqn : qs.length = ls.length := by rw [← e2]; simp
    have hql : (qs.map Pt.val).length = ls.length := by rw [← e2]; simp
    have hp : (ps.map fun (i, x) => (i, a.eval x)).toList = (List.range ls.length).zip (qs.map Pt.val) := by
      rw [← e1, ← hi, Array.toList_map]
      induction ps.toList with
      | nil => rfl
      | cons p r ih => simp [ih]
    have hzip : (List.range ls.length).zip (qs.map Pt.val) = ((qs.map Pt.val).zipIdx 0).map fun x => (x.2, x.1) := by
      rw [← hql]
      apply List.ext_getElem?
      intro k
      simp [List.zip, List.getElem?_zipWith, List.getElem?_zipIdx]
      by_cases hk : k < qs.length
      · simp [hk]
      · simp [hk]
    have hf := Great.fill_flat (qs.map Pt.val) ((Array.range (ls.length * i.size)).map (z.cells[· % z.cells.size]!)) (fun v hv => by obtain ⟨p, _, rfl⟩ := List.mem_map.1 hv; rfl) (by simp [hs] at hql ⊢; exact hql)
    refine ⟨.slice (some ⟨w.heap.size, 0, none⟩) ls.length ls.length, w.alloc (.cells (qs.map Pt.val).toArray 24), ?_, Only.alloc [] w _, w.heap.size, ls.length, qs, by rw [hqn], hZ, ⟨by omega, by simp only [maxLen]; omega, ?_⟩, e2, fun p hp => (e3 p hp).pure (Only.alloc [] w _)⟩
    · have hr := run_buildSlice (P := P) w t 24 ls.length (ps.map fun (i, x) => (i, a.eval x)) (qs.map Pt.val).toArray i z hT.und hinf hz (by rw [hs]; omega) (by rw [hs]; omega) (by rw [hp, hzip, hs]; rw [hs] at hf; exact hf)
      simp only [execOp, Sem.run_bind, hr, Result.andThen_ok, Sem.run_pure]
    · rw [← hqn, cellsOf_full]; exact Blk.new w 24 _
/-- A literal of one slice that is known. -/
def OneP (b : Nat) (p : Pt) (v : Value) (w : World) : Prop := ∃ g, v = .slice (some ⟨g, 0, none⟩) 1 1 ∧ Blk w g 24 #[p.val] ∧ b ≤ g
theorem o_oneG {b : Nat} {x : Operand} {t : TypeId} {z : Value} {bytes : Nat} {p : Pt} (hT : RowTy P t 24 z bytes) (hb : b ≤ w.heap.size) (hx : Γ.op x = some (.ex p.val)) : OpAt P N Γ w ⟨d, .buildSlice t 1 #[(0, x)], ty, pos, af, gd⟩ (Only []) (OneP b p) :=
  opAt_val fun a ha => by
    obtain ⟨i, hinf, hz, hs, _⟩ := hT.info
    have e := ha.val (x := x) (by simp [Op.operands]) hx
    refine ⟨.slice (some ⟨w.heap.size, 0, none⟩) 1 1, w.alloc (.cells #[p.val] 24), ?_, Only.alloc [] w _, w.heap.size, rfl, Blk.new w 24 _, hb⟩
    have hf := Great.fill_flat [p.val] ((Array.range (1 * i.size)).map (z.cells[· % z.cells.size]!)) (fun v hv => by simp at hv; subst hv; rfl) (by simp [hs])
    have hr := run_buildSlice (P := P) w t 24 1 (#[(0, x)].map fun (i, x) => (i, a.eval x)) #[p.val] i z hT.und hinf hz (by rw [hs]; omega) (by rw [hs]; decide) (by rw [hs]; rw [hs] at hf; simp only [List.map_toArray, List.map_cons, List.map_nil, e]; exact hf)
    simp only [execOp, Sem.run_bind, hr, Result.andThen_ok, Sem.run_pure]
end
section
attribute [local irreducible] ValAt OpAt RunX Tr Post FlowK
variable {N : Nat} {Γ : Env} {w : World} {d : Option Tmp} {ty : TypeId} {pos : String} {af : Array Edge} {gd : Option (Nat × Bool)}
theorem o_row {Z : Nat → Prop} {ps : Array (Nat × Operand)} {n : Nat} {ls : List Bytes} (hZ : Z w.heap.size) (hi : ps.toList.map (·.1) = List.range ls.length) (hn : n = ls.length) (hpos : 0 < ls.length) (hsm : ls.length ≤ 1000)
    (h : ∀ a, SatOn N Γ ⟨d, .buildSlice 30 n ps, ty, pos, af, gd⟩ a w → All2 w a (ps.toList.map (·.2)) ls) : OpAt Tryz.prog N Γ w ⟨d, .buildSlice 30 n ps, ty, pos, af, gd⟩ (Only []) (RowZ Z ls) := o_rowG rt30' hZ hi hn hpos hsm h
theorem o_one {b : Nat} {x : Operand} {p : Pt} (hb : b ≤ w.heap.size) (hx : Γ.op x = some (.ex p.val)) : OpAt Tryz.prog N Γ w ⟨d, .buildSlice 30 1 #[(0, x)], ty, pos, af, gd⟩ (Only []) (OneP b p) := o_oneG rt30' hb hx
end
section
variable {N : Nat} {Γ : Env} {w : World} {d : Option Tmp} {ty : TypeId} {pos : String} {af : Array Edge} {gd : Option (Nat × Bool)}
/-- append to a row of slices. -/
theorem o_appZ {Z : Nat → Prop} {x y : Operand} {v u : Value} {ls ms : List Bytes} (hx : Γ.op x = some (.ex v)) (hy : Γ.op y = some (.ex u)) (hv : RowZ Z ls v w) (hu : JP ms u w) (hn : ls.length + ms.length ≤ 100000) (hZ : Z w.heap.size) :
    OpAt Tryz.prog N Γ w ⟨d, .call ⟨.builtin .append, #[x, y], #[30, 30]⟩, ty, pos, af, gd⟩ (Only v.ownBlock.toList) (RowZ Z (ls ++ ms)) :=
  opAt_val fun a ha => by
    have h1 := ha.val (x := x) (by simp [Op.operands, Call.operands]) hx
    have h2 := ha.val (x := y) (by simp [Op.operands, Call.operands]) hy
    obtain ⟨g, c, ps, rfl, hg, hr, hl, hrd⟩ := hv
    obtain ⟨qs, hs, hm, hqd⟩ := hu.src Tryz.underlying30
    have hlen : ps.length + qs.length ≤ 100000 := by
      have e1 : ls.length = ps.length := by rw [← hl]; simp
      have e2 : ms.length = qs.length := by rw [← hm]; simp
      omega
    have hall : ∀ p ∈ ps ++ qs, Rd w p.A p.l := fun p hp => (List.mem_append.1 hp).elim (hrd p) (hqd p)
    have hmap : (ps ++ qs).map Pt.l = ls ++ ms := by simp [hl, hm]
    rcases run_append_pts (tr := ty) rt30' hr hs hlen (by decide) with ⟨_, h3, h4⟩ | ⟨_, w', c', h3, h4, h5⟩
    · refine ⟨.slice (some ⟨g, 0, none⟩) (ps.length + qs.length) c, _, ?_, Only.setRow w g _, g, c, ps ++ qs, by simp, hg, h4, hmap, fun p hp => (hall p hp).only (Only.setRow w g _) (fun hne => off_row hr (hall p hp) hne)⟩
      simp only [execOp, resolve, invoke, builtin, Sem.run_bind, Sem.run_pure, Result.andThen_ok, List.map_toArray, List.map_cons, List.map_nil, h1, h2, h3]
    · refine ⟨.slice (some ⟨w.heap.size, 0, none⟩) (ps.length + qs.length) c', w', ?_, h4.mono (by simp), w.heap.size, c', ps ++ qs, by simp, hZ, h5, hmap, fun p hp => (hall p hp).pure h4⟩
      simp only [execOp, resolve, invoke, builtin, Sem.run_bind, Sem.run_pure, Result.andThen_ok, List.map_toArray, List.map_cons, List.map_nil, h1, h2, h3]
end
/-! ## An append among operations that draw their order -/
/-- At most block g turns, from X0 to X1. -/
def RX (g : Nat) (X0 X1 : Array Value) (a b : World) : Prop := Only [g] a b ∧ ∀ t X, Blk a g t X → Blk b g t X ∨ (t = 24 ∧ X = X0 ∧ Blk b g 24 X1)
section
variable {g : Nat} {X0 X1 : Array Value} {a b c w w' w1 : World}
theorem RX.refl (w : World) : RX g X0 X1 w w := ⟨Only.refl _ _, fun _ _ h => .inl h⟩
theorem RX.trans (h : RX g X0 X1 a b) (k : RX g X0 X1 b c) : RX g X0 X1 a c := ⟨h.1.trans k.1, fun t X hX => by
  rcases h.2 t X hX with h1 | ⟨rfl, rfl, h1⟩
  · exact k.2 t X h1
  · rcases k.2 _ _ h1 with h2 | ⟨_, _, h2⟩
    · exact .inr ⟨rfl, rfl, h2⟩
    · exact .inr ⟨rfl, rfl, h2⟩⟩
theorem RX.pure (h : Only [] a b) : RX g X0 X1 a b := ⟨h.mono (by simp), fun _ _ hX => .inl (hX.only h (by simp))⟩
theorem RX.drew (w : World) : RX g X0 X1 w w.drew := RX.pure (Only.drew [] w)
/-- What append gives: the row itself, grown in place, or a new one. -/
def MidP (b g c : Nat) (X1 : Array Value) (ps : List Pt) (u : Value) (w : World) : Prop := ∃ g' c', u = .slice (some ⟨g', 0, none⟩) ps.length c' ∧ ((g' = g ∧ c' = c ∧ RowIs w g c ps ∧ X1 = cellsOf ps c) ∨ (b ≤ g' ∧ RowIs w g' c' ps))
theorem st_one {b' : Nat} {p : Pt} (hb : g < b') : ∀ u w w', OneP b' p u w → RX g X0 X1 w w' → OneP b' p u w' := fun _ _ _ ⟨g', h1, h2, h3⟩ k => ⟨g', h1, h2.only k.1 (by simp; omega), h3⟩
theorem st_mid {b' c : Nat} {ps : List Pt} (hb : g < b') : ∀ u w w', MidP b' g c X1 ps u w → RX g X0 X1 w w' → MidP b' g c X1 ps u w' := by
  rintro u w w' ⟨g', c', h1, h2⟩ k
  refine ⟨g', c', h1, ?_⟩
  rcases h2 with ⟨rfl, rfl, h3, h4⟩ | ⟨h3, h4⟩
  · left
    refine ⟨rfl, rfl, ⟨h3.len, h3.cap, ?_⟩, h4⟩
    rcases k.2 _ _ h3.blk with h5 | ⟨_, _, h5⟩
    · exact h5
    · rw [h4] at h5; exact h5
  · exact .inr ⟨h3, h4.len, h4.cap, h4.blk.only k.1 (by simp; omega)⟩
end
/-- append in place, whatever lies behind. -/
theorem run_append_in {P : Program} {w : World} {t tx tr : TypeId} {bytes : Nat} (hT : RowTy P t 24 nilS bytes) {g n c : Nat} {cs : Array Value} (hB : Blk w g 24 cs) (hc : cs.size = c) {x : Value} {vs : List Value} (hs : Src P 1 tx x vs.length vs w) (hroom : n + vs.length ≤ c) :
    (Builtin.append_ #[t, tx] tr #[.slice (some ⟨g, 0, none⟩) n c, x]).run P w = .ok (.slice (some ⟨g, 0, none⟩) (n + vs.length) c) (w.setRow g (cs.toList.take n ++ (vs ++ cs.toList.drop (n + vs.length))).toArray) := by
  obtain ⟨i, hi, hz, hsz, hby⟩ := hT.info
  have hst := run_storeCells_at P g n 24 vs 0 cs w hB (by rw [hc]; omega) hs.one
  simp only [Nat.add_zero] at hst
  rw [List.append_assoc] at hst
  have hcl : (Builtin.firstCells 1 vs.length x).run P w = .ok vs.toArray w := hs.cells
  rcases hs.kind with ⟨e', hk⟩ | hk <;> simp [Builtin.append_, run_underlying hT.und, run_underlying hk, sizeOf, typeInfo, hi, hs.len, hroom, hcl, hsz, Addr.add_lit, hst]
/-- The block when the append has gone by. -/
def X1of (ps : List Pt) (p : Pt) (c : Nat) : Array Value := if ps.length + 1 ≤ c then cellsOf (ps ++ [p]) c else cellsOf ps c
theorem OneP.src {b : Nat} {p : Pt} {v : Value} {w : World} (h : OneP b p v w) : Src Tryz.prog 1 30 v 1 [p.val] w := by
  obtain ⟨g, rfl, hB, _⟩ := h
  exact Src.ofSlice w Tryz.underlying30 ⟨g, 0, none⟩ 1 1 [p.val] (by simp) (fun j u hu => by rw [add_lit, Nat.zero_add]; exact hB.cell j (by simpa using hu)) (fun u hu => by simp at hu; subst hu; rfl)
section
variable {N : Nat} {Γ : Env} {w : World} {d : Option Tmp} {ty : TypeId} {pos : String} {af : Array Edge} {gd : Option (Nat × Bool)}
theorem o_mid {x y : Operand} {g c b' : Nat} {ps : List Pt} {p : Pt} {w1 : World} (hx : Γ.op x = some (.ex (.slice (some ⟨g, 0, none⟩) ps.length c))) (hy : Γ.op y = some (.ab (OneP b' p))) (hr : RowIs w1 g c ps) (hb : b' ≤ w1.heap.size) (hk : RX g (cellsOf ps c) (X1of ps p c) w1 w) (hn : ps.length + 1 ≤ 100000) :
    OpAt Tryz.prog N Γ w ⟨d, .call ⟨.builtin .append, #[x, y], #[30, 30]⟩, ty, pos, af, gd⟩ (RX g (cellsOf ps c) (X1of ps p c)) (MidP b' g c (X1of ps p c) (ps ++ [p])) :=
  opAt_val fun a ha => by
    have h1 := ha.val (x := x) (by simp [Op.operands, Call.operands]) hx
    have h2 : OneP b' p (a.eval y) w := ha.get y (by simp [Op.operands, Call.operands]) _ hy
    have hs := h2.src
    have hcase : RowIs w g c ps ∨ (ps.length + 1 ≤ c ∧ Blk w g 24 (cellsOf (ps ++ [p]) c)) := by
      rcases hk.2 _ _ hr.blk with h3 | ⟨_, _, h3⟩
      · exact .inl ⟨hr.len, hr.cap, h3⟩
      · unfold X1of at h3
        split at h3
        · rename_i hroom; exact .inr ⟨hroom, h3⟩
        · exact .inl ⟨hr.len, hr.cap, h3⟩
    rcases hcase with hrow | ⟨hroom, hB⟩
    · rcases run_append_pts (tr := ty) (qs := [p]) rt30' hrow hs hn (by decide) with ⟨hroom, h3, h4⟩ | ⟨_, w', c', h3, h4, h5⟩
      · refine ⟨.slice (some ⟨g, 0, none⟩) (ps.length + 1) c, _, ?_, ⟨Only.setRow w g _, fun t X hX => .inr ?_⟩, g, c, by simp, .inl ⟨rfl, rfl, h4, ?_⟩⟩
        · simp only [List.length_cons, List.length_nil, Nat.zero_add] at h3
          simp only [execOp, resolve, invoke, builtin, Sem.run_bind, Sem.run_pure, Result.andThen_ok, List.map_toArray, List.map_cons, List.map_nil, h1, h3]
        · obtain ⟨e1, e2⟩ := hX.unique hrow.blk
          have hroom' : ps.length + 1 ≤ c := hroom
          refine ⟨e1, e2, ?_⟩
          rw [X1of, if_pos hroom']
          exact hrow.blk.setRow _
        · have hroom' : ps.length + 1 ≤ c := hroom
          rw [X1of, if_pos hroom']
      · refine ⟨.slice (some ⟨w.heap.size, 0, none⟩) (ps.length + 1) c', w', ?_, RX.pure h4, w.heap.size, c', by simp, .inr ⟨Nat.le_trans hb hk.1.size, h5⟩⟩
        simp only [List.length_cons, List.length_nil, Nat.zero_add] at h3
        simp only [execOp, resolve, invoke, builtin, Sem.run_bind, Sem.run_pure, Result.andThen_ok, List.map_toArray, List.map_cons, List.map_nil, h1, h3]
    · have hsz : (cellsOf (ps ++ [p]) c).size = c := cellsOf_size (by simpa using hroom)
      have h3 := run_append_in (tr := ty) (n := ps.length) (vs := [p.val]) rt30' hB hsz hs hroom
      refine ⟨.slice (some ⟨g, 0, none⟩) (ps.length + 1) c, _, ?_, ⟨Only.setRow w g _, fun t X hX => .inl ?_⟩, g, c, by simp, .inl ⟨rfl, rfl, ⟨by simpa using hroom, hr.cap, hB.setRow _⟩, ?_⟩⟩
      · have e : ((cellsOf (ps ++ [p]) c).toList.take ps.length ++ ([p.val] ++ (cellsOf (ps ++ [p]) c).toList.drop (ps.length + [p.val].length))).toArray = cellsOf (ps ++ [p]) c := by
          apply Array.ext'
          have e1 : (cellsOf (ps ++ [p]) c).toList = ps.map Pt.val ++ ([p.val] ++ List.replicate (c - (ps ++ [p]).length) nilS) := by simp [cellsOf]
          rw [e1]
          have hl : ps.length = (ps.map Pt.val).length := by simp
          simp only [hl, List.take_left', List.length_cons, List.length_nil]
          rw [List.drop_append]
          simp
        rw [e] at h3
        simp only [List.length_cons, List.length_nil, Nat.zero_add] at h3
        simp only [execOp, resolve, invoke, builtin, Sem.run_bind, Sem.run_pure, Result.andThen_ok, List.map_toArray, List.map_cons, List.map_nil, h1, h3]
      · obtain ⟨e1, e2⟩ := hX.unique hB
        rw [e1, e2]
        exact hB.setRow _
      · rw [X1of, if_pos hroom]
end
theorem mid_row {Z : Nat → Prop} {ls : List Bytes} {g c b' : Nat} {ps : List Pt} {p : Pt} {v : Value} {w1 w2 : World} {X0 X1 : Array Value} (hr : RowIs w1 g c ps) (hl : ps.map Pt.l = ls) (hrd : ∀ p ∈ ps, Rd w1 p.A p.l) (hp : Rd w1 p.A p.l) (hk : RX g X0 X1 w1 w2) (hm : MidP b' g c X1 (ps ++ [p]) v w2) (hZg : Z g) (hZ : ∀ k, b' ≤ k → Z k) : RowZ Z (ls ++ [p.l]) v w2 := by
  obtain ⟨g', c', rfl, h2⟩ := hm
  have hall : ∀ p' ∈ ps ++ [p], Rd w2 p'.A p'.l := fun p' hp' => by
    have : Rd w1 p'.A p'.l := (List.mem_append.1 hp').elim (hrd p') (fun h => by simp at h; subst h; exact hp)
    exact this.only hk.1 (fun hne => off_row hr this hne)
  rcases h2 with ⟨rfl, rfl, h3, _⟩ | ⟨h3, h4⟩
  · exact ⟨_, _, ps ++ [p], rfl, hZg, h3, by simp [hl], hall⟩
  · exact ⟨_, _, ps ++ [p], rfl, hZ _ h3, h4, by simp [hl], hall⟩
end Go.Proofs.YtnaefgnjdmmmcaaGreatDoor
/- The schedule's state. -/
namespace Go.Proofs.YtnaefgnjdmmmcaaGreatDoor
open Go.RowKit
theorem RowZ.pure {Z : Nat → Prop} {ls : List Bytes} {v : Value} {w w' : World} (h : RowZ Z ls v w) (k : Only [] w w') : RowZ Z ls v w' := by
  obtain ⟨g, c, ps, h1, h2, h3, h4, h5⟩ := h
  exact ⟨g, c, ps, h1, h2, ⟨h3.len, h3.cap, h3.blk.only k (by simp)⟩, h4, fun p hp => (h5 p hp).pure k⟩
theorem RowZ.jq {Z : Nat → Prop} {ls : List Bytes} {v : Value} {w : World} (h : RowZ Z ls v w) : JQ ls v w := by
  obtain ⟨g, c, ps, rfl, h2, h3, h4, h5⟩ := h
  refine ⟨g, 0, c, ps, by rw [← h4]; simp, h3.blk.lt, h4, fun j p hp => ⟨h3.blk.cell _ ?_, h5 p (List.mem_of_getElem? hp)⟩⟩
  have hj : j < ps.length := (List.getElem?_eq_some_iff.1 hp).1
  rw [Nat.zero_add, cellsOf, List.getElem?_toArray, List.getElem?_append_left (by simpa using hj)]
  simp [hp]
/-- What a schedule starts with. -/
structure Cx (q : Conn) (w : World) : Prop where
  at_ : q.At w
  ok : q.Ok
  K : KT w
  pos : 0 < w.heap.size
structure St0 (k s b : Int) (q : Conn) (w0 : World) (hb cb : Nat) (ks : List Pt) (w : World) : Prop where
  x : Cx q w0
  z : Only [] w0 w
  h : Blk w hb 23 (hv k s b).cells
  c : Blk w cb 27 q.cells
  ks : ∀ p ∈ ks, Rd w p.A p.l
structure St (k s b : Int) (q : Conn) (w0 : World) (hb cb b0 gx : Nat) (ks : List Pt) (ls : List Bytes) (v : Value) (w : World) : Prop extends St0 k s b q w0 hb cb ks w where
  row : RowZ (fun g => b0 ≤ g ∧ g ≠ gx) ls v w
  l1 : hb < b0
  l2 : cb < b0
  l0 : w0.heap.size ≤ b0
  bs : b0 ≤ w.heap.size
  lx : gx < w.heap.size
section
variable {k s b : Int} {q : Conn} {w0 w w' : World} {hb cb b0 gx : Nat} {ks : List Pt} {ls ms : List Bytes} {v v' : Value}
theorem St0.pure (h : St0 k s b q w0 hb cb ks w) (k' : Only [] w w') : St0 k s b q w0 hb cb ks w' := ⟨h.x, h.z.trans k', h.h.only k' (by simp), h.c.only k' (by simp), fun p hp => (h.ks p hp).pure k'⟩
theorem St0.ld (h : St0 k s b q w0 hb cb ks w) : (loadVar 23 ⟨hb, 0, none⟩).run Tryz.prog w = .ok (hv k s b) w := ld23 h.h
theorem St0.ldc (h : St0 k s b q w0 hb cb ks w) : (loadVar 27 ⟨cb, 0, none⟩).run Tryz.prog w = .ok (.agg q.cells) w := ld27 h.c
theorem St0.at_ (h : St0 k s b q w0 hb cb ks w) : q.At w := h.x.at_.pure h.z
theorem St0.K (h : St0 k s b q w0 hb cb ks w) : KT w := h.x.K.only h.z (by simp)
theorem St0.pos (h : St0 k s b q w0 hb cb ks w) : 0 < w.heap.size := Nat.lt_of_lt_of_le h.x.pos h.z.size
theorem St.pure (h : St k s b q w0 hb cb b0 gx ks ls v w) (k' : Only [] w w') : St k s b q w0 hb cb b0 gx ks ls v w' :=
  ⟨h.toSt0.pure k', h.row.pure k', h.l1, h.l2, h.l0, Nat.le_trans h.bs k'.size, Nat.lt_of_lt_of_le h.lx k'.size⟩
theorem RowZ.ge {Z : Nat → Prop} (h : RowZ Z ls v w) : ∀ i ∈ v.ownBlock.toList, Z i := by
  obtain ⟨g, c, ps, rfl, h2, _⟩ := h
  intro i hi
  have := of_own hi
  cases this
  exact h2
theorem RowZ.keep {Z : Nat → Prop} (h : RowZ Z ls v w) (k' : Only v.ownBlock.toList w w') {A : Option Addr} {l : Bytes} (hr : Rd w A l) : Rd w' A l := by
  obtain ⟨g, c, ps, rfl, _, h3, _⟩ := h
  exact hr.only k' (fun hne => off_row h3 hr hne)
theorem St.appd (h : St k s b q w0 hb cb b0 gx ks ls v w) (k' : Only v.ownBlock.toList w w') (hr : RowZ (fun g => b0 ≤ g ∧ g ≠ gx) ms v' w') : St k s b q w0 hb cb b0 gx ks ms v' w' :=
  ⟨⟨h.x, h.z.trans_new k' (fun i hi => .inr (Nat.le_trans h.l0 (h.row.ge i hi).1)), h.h.only k' (fun hm => by have := (h.row.ge _ hm).1; have := h.l1; omega), h.c.only k' (fun hm => by have := (h.row.ge _ hm).1; have := h.l2; omega), fun p hp => h.row.keep k' (h.ks p hp)⟩, hr, h.l1, h.l2, h.l0, Nat.le_trans h.bs k'.size, Nat.lt_of_lt_of_le h.lx k'.size⟩
theorem St.keepX (h : St k s b q w0 hb cb b0 gx ks ls v w) (k' : Only v.ownBlock.toList w w') {t : TypeId} {cs : Array Value} (hB : Blk w gx t cs) : Blk w' gx t cs := hB.only k' (fun hm => (h.row.ge _ hm).2 rfl)
theorem St.newZ (h : St k s b q w0 hb cb b0 gx ks ls v w) : b0 ≤ w.heap.size ∧ w.heap.size ≠ gx := ⟨h.bs, by have := h.lx; omega⟩
theorem St0.add (h : St0 k s b q w0 hb cb ks w) {p : Pt} (hp : Rd w p.A p.l) : St0 k s b q w0 hb cb (p :: ks) w := ⟨h.x, h.z, h.h, h.c, fun p' hm => (List.mem_cons.1 hm).elim (fun e => e ▸ hp) (h.ks p')⟩
theorem St0.sub {ks' : List Pt} (h : St0 k s b q w0 hb cb ks w) (hs : ∀ p ∈ ks', p ∈ ks) : St0 k s b q w0 hb cb ks' w := ⟨h.x, h.z, h.h, h.c, fun p hp => h.ks p (hs p hp)⟩
theorem St.add (h : St k s b q w0 hb cb b0 gx ks ls v w) {p : Pt} (hp : Rd w p.A p.l) : St k s b q w0 hb cb b0 gx (p :: ks) ls v w := ⟨h.toSt0.add hp, h.row, h.l1, h.l2, h.l0, h.bs, h.lx⟩
theorem St.sub {ks' : List Pt} (h : St k s b q w0 hb cb b0 gx ks ls v w) (hs : ∀ p ∈ ks', p ∈ ks) : St k s b q w0 hb cb b0 gx ks' ls v w := ⟨h.toSt0.sub hs, h.row, h.l1, h.l2, h.l0, h.bs, h.lx⟩
/-- Another block to stay off, which the row has not reached. -/
theorem RowZ.mono {Z Z' : Nat → Prop} (h : RowZ Z ls v w) (hz : ∀ g, Z g → g < w.heap.size → Z' g) : RowZ Z' ls v w := by
  obtain ⟨g, c, ps, h1, h2, h3, h4, h5⟩ := h
  exact ⟨g, c, ps, h1, hz g h2 h3.blk.lt, h3, h4, h5⟩
end
section
variable {N : Nat} {Γ : Env} {w : World} {d : Option Tmp} {ty : TypeId} {pos : String} {af : Array Edge} {gd : Option (Nat × Bool)} {P : Program}
theorem o_callF {f : FuncId} {xs : List Operand} {ats : Array TypeId} {vs : List Value} {l : Bytes} (hx : Γ.ops xs = some vs) (he : enters P f = true) (hc : Calls P f vs.toArray w (Ret [] w (Fresh w l))) :
    OpAt P N Γ w ⟨d, .call ⟨.value (.func f), xs.toArray, ats⟩, ty, pos, af, gd⟩ (Only []) (Sl l) := opAt_mono (o_call hx he hc) (fun _ h => h) (fun _ _ _ (h : Fresh _ _ _ _) => h.sl)
/-- A call one of whose arguments is known by what it reads as. -/
theorem o_callM {f : FuncId} {pre post : List Operand} {x : Operand} {ats : Array TypeId} {vs1 vs2 : List Value} {l : Bytes} {fp : List Nat} {S : Pred} (h1 : Γ.ops pre = some vs1) (hx : Γ.op x = some (.ab (Sl l))) (h2 : Γ.ops post = some vs2) (he : enters P f = true)
    (hc : ∀ A c, l.length ≤ c → Rd w A l → Calls P f (vs1 ++ .slice A l.length c :: vs2).toArray w (Ret fp w S)) :
    OpAt P N Γ w ⟨d, .call ⟨.value (.func f), (pre ++ x :: post).toArray, ats⟩, ty, pos, af, gd⟩ (Only fp) S :=
  o_callA he fun a ha => by
    have e1 := Env.ops_get ha pre vs1 h1 (fun y hm => by simp [Op.operands, Call.operands, hm])
    have e2 := Env.ops_get ha post vs2 h2 (fun y hm => by simp [Op.operands, Call.operands, hm])
    obtain ⟨A, c, e3, h3, h4⟩ : Sl l (a.eval x) w := ha.get x (by simp [Op.operands, Call.operands]) _ hx
    rw [List.map_append, List.map_cons, e1, e2, e3]
    exact hc A c h3 h4
theorem o_callMF {f : FuncId} {pre post : List Operand} {x : Operand} {ats : Array TypeId} {vs1 vs2 : List Value} {l m : Bytes} (h1 : Γ.ops pre = some vs1) (hx : Γ.op x = some (.ab (Sl l))) (h2 : Γ.ops post = some vs2) (he : enters P f = true)
    (hc : ∀ A c, l.length ≤ c → Rd w A l → Calls P f (vs1 ++ .slice A l.length c :: vs2).toArray w (Ret [] w (Fresh w m))) :
    OpAt P N Γ w ⟨d, .call ⟨.value (.func f), (pre ++ x :: post).toArray, ats⟩, ty, pos, af, gd⟩ (Only []) (Sl m) := opAt_mono (o_callM h1 hx h2 he hc) (fun _ h => h) (fun _ _ _ (h : Fresh _ _ _ _) => h.sl)
end
/-! ## The schedule, plainly -/
def cetOf (H : HK) (q : Conn) : Bytes := derive H (early H q.psk.l) [99, 32, 101, 32, 116, 114, 97, 102, 102, 105, 99] (q.up 2)
def exOf (H : HK) (q : Conn) (s : Bytes) : Bytes := expandLabel H (derive H s q.label []) [101, 120, 112, 111, 114, 116, 101, 114] (H.hash q.ctx.l) 32
def eexOf (H : HK) (q : Conn) : Bytes := exOf H q (derive H (early H q.psk.l) [101, 32, 101, 120, 112, 32, 109, 97, 115, 116, 101, 114] (q.up 2))
def bndOf (H : HK) (q : Conn) : Bytes := derive H (early H q.psk.l) [114, 101, 115, 32, 98, 105, 110, 100, 101, 114] []
def chsOf (H : HK) (q : Conn) : Bytes := derive H (handshake H q.psk.l q.shared.l) [99, 32, 104, 115, 32, 116, 114, 97, 102, 102, 105, 99] (q.up 3)
def shsOf (H : HK) (q : Conn) : Bytes := derive H (handshake H q.psk.l q.shared.l) [115, 32, 104, 115, 32, 116, 114, 97, 102, 102, 105, 99] (q.up 3)
def capOf (H : HK) (q : Conn) : Bytes := derive H (master H q.psk.l q.shared.l) [99, 32, 97, 112, 32, 116, 114, 97, 102, 102, 105, 99] (q.up 5)
def sapOf (H : HK) (q : Conn) : Bytes := derive H (master H q.psk.l q.shared.l) [115, 32, 97, 112, 32, 116, 114, 97, 102, 102, 105, 99] (q.up 5)
def expOf (H : HK) (q : Conn) : Bytes := exOf H q (derive H (master H q.psk.l q.shared.l) [101, 120, 112, 32, 109, 97, 115, 116, 101, 114] (q.up 5))
def resOf (H : HK) (q : Conn) : Bytes := derive H (master H q.psk.l q.shared.l) [114, 101, 115, 32, 109, 97, 115, 116, 101, 114] (q.up 7)
def nxOf (H : HK) (x : Bytes) : Bytes := expandLabel H x [116, 114, 97, 102, 102, 105, 99, 32, 117, 112, 100] [] H.size
def upds (H : HK) : Nat → Bytes → List Bytes
  | 0, _ => []
  | n + 1, x => [x] ++ (keysOf H x ++ upds H n (nxOf H x))
theorem upds_length (H : HK) : ∀ n x, (upds H n x).length = 4 * n
  | 0, _ => rfl
  | n + 1, x => by simp [upds, upds_length H n, keysOf]; omega
def preOf (H : HK) (q : Conn) : List Bytes := [cetOf H q] ++ keysOf H (cetOf H q) ++ [eexOf H q] ++ [bndOf H q, finishedOf H (bndOf H q) (q.up 1)] ++ [chsOf H q] ++ keysOf H (chsOf H q) ++ [shsOf H q] ++ keysOf H (shsOf H q) ++ [finishedOf H (shsOf H q) (q.up 4), finishedOf H (chsOf H q) (q.up 6)]
theorem preOf_length (H : HK) (q : Conn) : (preOf H q).length = 17 := rfl
def schedOf (H : HK) (q : Conn) : List Bytes := preOf H q ++ upds H (q.upd.toNat + 1) (capOf H q) ++ upds H (q.upd.toNat + 1) (sapOf H q) ++ [expOf H q] ++ [resOf H q, ticketOf H q]
theorem schedOf_length (H : HK) (q : Conn) : (schedOf H q).length = 28 + 8 * q.upd.toNat := by
  simp only [schedOf, List.length_append, preOf_length, upds_length, List.length_cons, List.length_nil]; omega
end Go.Proofs.YtnaefgnjdmmmcaaGreatDoor
/- laws.same, of rows in whatever cells. -/
namespace Go.Proofs.YtnaefgnjdmmmcaaGreatDoor
open Go.RowKit
attribute [local irreducible] ValAt OpAt RunX Tr Post FlowK
set_option maxHeartbeats 1000000 in
/-- laws.same, of two rows that read alike -/
theorem c7q (v1 v2 : Value) (ls : List Bytes) (w : World) (h1 : JQ ls v1 w) (h2 : JQ ls v2 w) (hl : ls.length ≤ 1000) : Calls Tryz.prog 7 #[v1, v2] w (Ret [] w fun v _ => v = .bool true) := by
  obtain ⟨g1, i1, k1, p1, rfl, hg1, he1, hr1⟩ := h1
  obtain ⟨g2, i2, k2, p2, rfl, hg2, he2, hr2⟩ := h2
  refine enter (Γ := [(0, .ex (.slice (some ⟨g1, i1, none⟩) ls.length k1)), (1, .ex (.slice (some ⟨g2, i2, none⟩) ls.length k2))]) Tryz.func7 rfl rfl rfl ⟨⟨_, rfl, rfl⟩, ⟨_, rfl, rfl⟩, trivial⟩ ?_
  repeat (first | refine t_seq ?_ | refine t_region ?_ | refine s_nil ?_ | refine p_then ?_ | refine t_ret ?_ | refine p_then_ret ?_ | refine p_block_ret ?_ | refine t_block ?_ | refine t_exit ?_ | refine p_then_exit ?_ | refine p_block_exit ?_ | refine p_block ?_ | refine t_skip ?_)
  refine s_val (v_assign rfl) rfl ?_
  repeat (first | refine t_seq ?_ | refine t_region ?_ | refine s_nil ?_ | refine p_then ?_ | refine t_ret ?_ | refine p_then_ret ?_ | refine p_block_ret ?_ | refine t_block ?_ | refine t_exit ?_ | refine p_then_exit ?_ | refine p_block_exit ?_ | refine p_block ?_ | refine t_skip ?_)
  refine s_val (v_move rfl) rfl ?_
  refine s_val (v_len rfl (so rfl) rfl) rfl ?_
  refine s_val (v_move rfl) rfl ?_
  refine s_val (v_len rfl (so rfl) rfl) rfl ?_
  refine s_val (v_neI rfl rfl) rfl ?_
  rw [show ((ls.length : Int) != (ls.length : Int)) = false from by simp]
  repeat (first | refine t_seq ?_ | refine t_region ?_ | refine s_nil ?_ | refine p_then ?_ | refine t_ret ?_ | refine p_then_ret ?_ | refine p_block_ret ?_ | refine t_block ?_ | refine t_exit ?_ | refine p_then_exit ?_ | refine p_block_exit ?_ | refine p_block ?_ | refine t_skip ?_)
  refine t_false rfl ?_
  refine t_skip (p_then ?_)
  refine t_cut (fun _ : Unit => []) (fun _ w' => Only [] w w') ?_ ?_
  · repeat (first | refine t_seq ?_ | refine t_region ?_ | refine s_nil ?_ | refine p_then ?_ | refine t_ret ?_ | refine p_then_ret ?_ | refine p_block_ret ?_ | refine t_block ?_ | refine t_exit ?_ | refine p_then_exit ?_ | refine p_block_exit ?_ | refine p_block ?_ | refine t_skip ?_)
    refine s_val (v_move rfl) rfl ?_
    refine s_val (v_len rfl (so rfl) rfl) rfl ?_
    refine s_val (v_move rfl) rfl ?_
    repeat (first | refine t_seq ?_ | refine t_region ?_ | refine s_nil ?_ | refine p_then ?_ | refine t_ret ?_ | refine p_then_ret ?_ | refine p_block_ret ?_ | refine t_block ?_ | refine t_exit ?_ | refine p_then_exit ?_ | refine p_block_exit ?_ | refine p_block ?_ | refine t_skip ?_)
    refine t_loop (fun i : Nat => [(13, .ex (I i)), (12, .ex (I ls.length)), (0, .ex (.slice (some ⟨g1, i1, none⟩) ls.length k1)), (1, .ex (.slice (some ⟨g2, i2, none⟩) ls.length k2))]) (fun i w' => i ≤ ls.length ∧ Only [] w w') (fun i => ls.length - i) 0 ⟨rfl, rfl, rfl, rfl, trivial⟩ ⟨Nat.zero_le _, Only.refl _ _⟩ ?_
    rintro i w1 ⟨hi, hz1⟩
    repeat (first | refine t_seq ?_ | refine t_region ?_ | refine s_nil ?_ | refine p_then ?_ | refine t_ret ?_ | refine p_then_ret ?_ | refine p_block_ret ?_ | refine t_block ?_ | refine t_exit ?_ | refine p_then_exit ?_ | refine p_block_exit ?_ | refine p_block ?_ | refine t_skip ?_)
    refine s_val (v_ltI rfl rfl) rfl ?_
    repeat (first | refine t_seq ?_ | refine t_region ?_ | refine s_nil ?_ | refine p_then ?_ | refine t_ret ?_ | refine p_then_ret ?_ | refine p_block_ret ?_ | refine t_block ?_ | refine t_exit ?_ | refine p_then_exit ?_ | refine p_block_exit ?_ | refine p_block ?_ | refine t_skip ?_)
    refine t_if rfl (fun hb => ?_) (fun hb => ?_)
    · have hi' : i < ls.length := by have := of_decide_eq_true hb; omega
      clear hb
      have hl1 : p1.length = ls.length := by rw [← he1]; simp
      have hl2 : p2.length = ls.length := by rw [← he2]; simp
      obtain ⟨q1, hq1⟩ : ∃ q, p1[i]? = some q := ⟨_, List.getElem?_eq_getElem (by omega)⟩
      obtain ⟨q2, hq2⟩ : ∃ q, p2[i]? = some q := ⟨_, List.getElem?_eq_getElem (by omega)⟩
      have e1 : ls[i]? = some q1.l := by rw [← he1, List.getElem?_map, hq1]; rfl
      have e2 : ls[i]? = some q2.l := by rw [← he2, List.getElem?_map, hq2]; rfl
      have he : q1.l = q2.l := by rw [e1] at e2; injection e2
      have hc1 : ∀ wF, Only [] w1 wF → wF.cell? ⟨g1, i1 + i, none⟩ = some (.slice q1.A q1.l.length q1.c) := fun wF hF => (World.cell?_of_block (w := w) ((hz1.trans hF).block g1 hg1 (by simp))).trans (hr1 i q1 hq1).1
      have hc2 : ∀ wF, Only [] w1 wF → wF.cell? ⟨g2, i2 + i, none⟩ = some (.slice q2.A q2.l.length q2.c) := fun wF hF => (World.cell?_of_block (w := w) ((hz1.trans hF).block g2 hg2 (by simp))).trans (hr2 i q2 hq2).1
      have hr1' := (hr1 i q1 hq1).2
      have hr2' := (hr2 i q2 hq2).2
      repeat (first | refine t_seq ?_ | refine t_region ?_ | refine s_nil ?_ | refine p_then ?_ | refine t_ret ?_ | refine p_then_ret ?_ | refine p_block_ret ?_ | refine t_block ?_ | refine t_exit ?_ | refine p_then_exit ?_ | refine p_block_exit ?_ | refine p_block ?_ | refine t_skip ?_)
      refine s_val (v_move rfl) rfl ?_
      refine s_val (v_assign rfl) rfl ?_
      repeat (first | refine t_seq ?_ | refine t_region ?_ | refine s_nil ?_ | refine p_then ?_ | refine t_ret ?_ | refine p_then_ret ?_ | refine p_block_ret ?_ | refine t_block ?_ | refine t_exit ?_ | refine p_then_exit ?_ | refine p_block_exit ?_ | refine p_block ?_ | refine t_skip ?_)
      refine t_drawO 11 (by kernel_rfl) rfl ?_
      refine fk_val (Only.refl _) (fun wF hR => v_move rfl) ?_
      refine fk_val (Only.refl _) (fun wF hR => v_move rfl) ?_
      refine fk_val (Only.refl _) (fun wF hR => v_indexSlice rfl rfl (so rfl) (by omega)) ?_
      refine fk_val (Only.refl _) (fun wF hR => v_load1 rfl (sc rfl) (by first | exact hc1 _ hR | exact hc2 _ hR | assumption)) ?_
      refine fk_val Only.refl' (fun wF hR => v_string (l := q1.l) rfl rfl Tryz.underlying24 u5 u9 ((hr1'.pure hz1).pure hR)) ?_
      refine fk_val (Only.refl _) (fun wF hR => v_move rfl) ?_
      refine fk_val (Only.refl _) (fun wF hR => v_move rfl) ?_
      refine fk_val (Only.refl _) (fun wF hR => v_indexSlice rfl rfl (so rfl) (by omega)) ?_
      refine fk_val (Only.refl _) (fun wF hR => v_load1 rfl (sc rfl) (by first | exact hc1 _ hR | exact hc2 _ hR | assumption)) ?_
      refine fk_val Only.refl' (fun wF hR => v_string (l := q2.l) rfl rfl Tryz.underlying24 u5 u9 ((hr2'.pure hz1).pure hR)) ?_
      refine fk_val Only.refl' (fun wF hR => v_neS rfl rfl) ?_
      rw [he, show (q2.l != q2.l) = false from by simp]
      refine fk_nil (fun w2 hw2 => ?_)
      repeat (first | refine t_seq ?_ | refine t_region ?_ | refine s_nil ?_ | refine p_then ?_ | refine t_ret ?_ | refine p_then_ret ?_ | refine p_block_ret ?_ | refine t_block ?_ | refine t_exit ?_ | refine p_then_exit ?_ | refine p_block_exit ?_ | refine p_block ?_ | refine t_skip ?_)
      refine t_false rfl ?_
      repeat (first | refine t_seq ?_ | refine t_region ?_ | refine s_nil ?_ | refine p_then ?_ | refine t_ret ?_ | refine p_then_ret ?_ | refine p_block_ret ?_ | refine t_block ?_ | refine t_exit ?_ | refine p_then_exit ?_ | refine p_block_exit ?_ | refine p_block ?_ | refine t_skip ?_)
      refine s_val (v_addI rfl opc (by omega)) rfl ?_
      refine s_val (v_move rfl) rfl ?_
      repeat (first | refine t_seq ?_ | refine t_region ?_ | refine s_nil ?_ | refine p_then ?_ | refine t_ret ?_ | refine p_then_ret ?_ | refine p_block_ret ?_ | refine t_block ?_ | refine t_exit ?_ | refine p_then_exit ?_ | refine p_block_exit ?_ | refine p_block ?_ | refine t_skip ?_)
      exact p_round (i + 1) (Nat.sub_lt_sub_left hi' (Nat.lt_succ_self i)) ⟨rfl, rfl, rfl, rfl, trivial⟩ ⟨hi', hz1.trans hw2⟩
    · repeat (first | refine t_seq ?_ | refine t_region ?_ | refine s_nil ?_ | refine p_then ?_ | refine t_ret ?_ | refine p_then_ret ?_ | refine p_block_ret ?_ | refine t_block ?_ | refine t_exit ?_ | refine p_then_exit ?_ | refine p_block_exit ?_ | refine p_block ?_ | refine t_skip ?_)
      exact p_cut () trivial hz1
  rintro _ w1 hz1
  repeat (first | refine t_seq ?_ | refine t_region ?_ | refine s_nil ?_ | refine p_then ?_ | refine t_ret ?_ | refine p_then_ret ?_ | refine p_block_ret ?_ | refine t_block ?_ | refine t_exit ?_ | refine p_then_exit ?_ | refine p_block_exit ?_ | refine p_block ?_ | refine t_skip ?_)
  refine s_val (v_assign rfl) rfl ?_
  repeat (first | refine t_seq ?_ | refine t_region ?_ | refine s_nil ?_ | refine p_then ?_ | refine t_ret ?_ | refine p_then_ret ?_ | refine p_block_ret ?_ | refine t_block ?_ | refine t_exit ?_ | refine p_then_exit ?_ | refine p_block_exit ?_ | refine p_block ?_ | refine t_skip ?_)
  exact ret1 rfl rfl ⟨_, rfl, hz1, rfl⟩
end Go.Proofs.YtnaefgnjdmmmcaaGreatDoor
/- The calls that a schedule makes. -/
namespace Go.Proofs.YtnaefgnjdmmmcaaGreatDoor
open Go.RowKit
attribute [local irreducible] ValAt OpAt RunX Tr Post FlowK
section
variable {k s b : Int} {q : Conn} {w0 w : World} {hb cb : Nat} {ks : List Pt} {A A' : Option Addr} {c c' : Nat} {x m : Bytes}
theorem up_le (S : St0 k s b q w0 hb cb ks w) (n : Nat) : (q.up n).length ≤ 60000 := Nat.le_trans (S.x.ok.up n) (by decide)
theorem psk_le (S : St0 k s b q w0 hb cb ks w) : q.psk.l.length ≤ 20000 := Nat.le_trans S.x.ok.psk (by decide)
theorem sh_le (S : St0 k s b q w0 hb cb ks w) : q.shared.l.length ≤ 20000 := Nat.le_trans S.x.ok.shared (by decide)
theorem ctx_le (S : St0 k s b q w0 hb cb ks w) : q.ctx.l.length ≤ 60000 := Nat.le_trans S.x.ok.ctx (by decide)
theorem dl (k s b : Int) (x l m : Bytes) : (derive (hkOf k s b) x l m).length ≤ 20000 := by rw [derive_length (hkOf_ok k s b)]; exact Nat.le_trans (HK.size_le (hkOf_ok k s b)) (by decide)
theorem nl (k s b : Int) (x : Bytes) : (nxOf (hkOf k s b) x).length ≤ 20000 := by rw [nxOf, show (expandLabel (hkOf k s b) x [116, 114, 97, 102, 102, 105, 99, 32, 117, 112, 100] [] (hkOf k s b).size).length = (hkOf k s b).size from expand_length (hkOf_ok k s b) _ _ _]; exact Nat.le_trans (HK.size_le (hkOf_ok k s b)) (by decide)
theorem St0.k14 (S : St0 k s b q w0 hb cb ks w) (hr : Rd w A (q.up 2)) : Calls Tryz.prog 14 #[hv k s b, q.psk.val, .slice A (q.up 2).length c] w (Ret [] w (Fresh w (cetOf (hkOf k s b) q))) :=
  c14 k s b q.psk.A A q.psk.c c q.psk.l (q.up 2) w S.at_.psk (psk_le S) hr (up_le S 2) S.K S.pos
theorem St0.k15 (S : St0 k s b q w0 hb cb ks w) (hr : Rd w A x) (hx : x.length ≤ 20000) : Calls Tryz.prog 15 #[hv k s b, .slice A x.length c] w (Ret [] w (JP (keysOf (hkOf k s b) x))) := c15 k s b A c x w hr hx S.K S.pos
theorem St0.k31 (_S : St0 k s b q w0 hb cb ks w) (hr : Rd w A x) (hx : x.length ≤ 20000) : Calls Tryz.prog 31 #[hv k s b, .slice A x.length c] w (Ret [] w (JP (keysOf (hkOf k s b) x))) := c31 k s b A c x w hr hx
theorem St0.k16 (S : St0 k s b q w0 hb cb ks w) (hr : Rd w A (q.up 2)) : Calls Tryz.prog 16 #[hv k s b, q.psk.val, .slice A (q.up 2).length c, Go.Proofs.YtnaefgnjdmmmcaaGreatDoor.S q.label, q.ctx.val, I 32] w (Ret [] w (Fresh w (eexOf (hkOf k s b) q))) :=
  c16 k s b q.psk.A A q.ctx.A q.psk.c c q.ctx.c q.psk.l (q.up 2) q.label q.ctx.l 32 w S.at_.psk (psk_le S) hr (up_le S 2) S.x.ok.lab S.at_.ctx (ctx_le S) (by decide) S.K S.pos
theorem St0.k17 (S : St0 k s b q w0 hb cb ks w) : Calls Tryz.prog 17 #[hv k s b, q.psk.val] w (Ret [] w (Fresh w (bndOf (hkOf k s b) q))) := c17 k s b q.psk.A q.psk.c q.psk.l w S.at_.psk (psk_le S) S.K S.pos
theorem St0.k18 (S : St0 k s b q w0 hb cb ks w) (hr : Rd w A x) (hx : x.length ≤ 20000) (n : Nat) (hr' : Rd w A' (q.up n)) : Calls Tryz.prog 18 #[hv k s b, .slice A x.length c, .slice A' (q.up n).length c'] w (Ret [] w (Sl (finishedOf (hkOf k s b) x (q.up n)))) := c18 k s b A A' c c' x (q.up n) w hr hx hr' (up_le S n) S.K S.pos
theorem St0.k33 (S : St0 k s b q w0 hb cb ks w) (hr : Rd w A x) (hx : x.length ≤ 20000) (n : Nat) (hr' : Rd w A' (q.up n)) : Calls Tryz.prog 33 #[hv k s b, .slice A x.length c, .slice A' (q.up n).length c'] w (Ret [] w (Sl (finishedOf (hkOf k s b) x (q.up n)))) := c33 k s b A A' c c' x (q.up n) w hr hx hr' (up_le S n)
theorem St0.k19 (S : St0 k s b q w0 hb cb ks w) (hr : Rd w A (q.up 3)) : Calls Tryz.prog 19 #[hv k s b, q.psk.val, q.shared.val, .slice A (q.up 3).length c] w (Ret [] w (Fresh w (chsOf (hkOf k s b) q))) :=
  c19 k s b q.psk.A q.shared.A A q.psk.c q.shared.c c q.psk.l q.shared.l (q.up 3) w S.at_.psk (psk_le S) S.at_.shared (sh_le S) hr (up_le S 3) S.K S.pos
theorem St0.k20 (S : St0 k s b q w0 hb cb ks w) (hr : Rd w A (q.up 3)) : Calls Tryz.prog 20 #[hv k s b, q.psk.val, q.shared.val, .slice A (q.up 3).length c] w (Ret [] w (Fresh w (shsOf (hkOf k s b) q))) :=
  c20 k s b q.psk.A q.shared.A A q.psk.c q.shared.c c q.psk.l q.shared.l (q.up 3) w S.at_.psk (psk_le S) S.at_.shared (sh_le S) hr (up_le S 3) S.K S.pos
theorem St0.k21 (S : St0 k s b q w0 hb cb ks w) (hr : Rd w A (q.up 5)) : Calls Tryz.prog 21 #[hv k s b, q.psk.val, q.shared.val, .slice A (q.up 5).length c] w (Ret [] w (Fresh w (capOf (hkOf k s b) q))) :=
  c21 k s b q.psk.A q.shared.A A q.psk.c q.shared.c c q.psk.l q.shared.l (q.up 5) w S.at_.psk (psk_le S) S.at_.shared (sh_le S) hr (up_le S 5) S.K S.pos
theorem St0.k22 (S : St0 k s b q w0 hb cb ks w) (hr : Rd w A (q.up 5)) : Calls Tryz.prog 22 #[hv k s b, q.psk.val, q.shared.val, .slice A (q.up 5).length c] w (Ret [] w (Fresh w (sapOf (hkOf k s b) q))) :=
  c22 k s b q.psk.A q.shared.A A q.psk.c q.shared.c c q.psk.l q.shared.l (q.up 5) w S.at_.psk (psk_le S) S.at_.shared (sh_le S) hr (up_le S 5) S.K S.pos
theorem St0.k26 (S : St0 k s b q w0 hb cb ks w) (hr : Rd w A (q.up 7)) : Calls Tryz.prog 26 #[hv k s b, q.psk.val, q.shared.val, .slice A (q.up 7).length c] w (Ret [] w (Fresh w (resOf (hkOf k s b) q))) :=
  c26 k s b q.psk.A q.shared.A A q.psk.c q.shared.c c q.psk.l q.shared.l (q.up 7) w S.at_.psk (psk_le S) S.at_.shared (sh_le S) hr (up_le S 7) S.K S.pos
theorem St0.k25 (S : St0 k s b q w0 hb cb ks w) (hr : Rd w A (q.up 5)) : Calls Tryz.prog 25 #[hv k s b, q.psk.val, q.shared.val, .slice A (q.up 5).length c, Go.Proofs.YtnaefgnjdmmmcaaGreatDoor.S q.label, q.ctx.val, I 32] w (Ret [] w (Fresh w (expOf (hkOf k s b) q))) :=
  c25 k s b q.psk.A q.shared.A A q.ctx.A q.psk.c q.shared.c c q.ctx.c q.psk.l q.shared.l (q.up 5) q.label q.ctx.l 32 w S.at_.psk (psk_le S) S.at_.shared (sh_le S) hr (up_le S 5) S.x.ok.lab S.at_.ctx (ctx_le S) (by decide) S.K S.pos
theorem St0.k10 (S : St0 k s b q w0 hb cb ks w) : Calls Tryz.prog 10 #[hv k s b, .agg q.cells] w (Ret [] w (Sl (ticketOf (hkOf k s b) q))) := c10 k s b q w S.at_ S.x.ok S.K S.pos
theorem St0.k11 (S : St0 k s b q w0 hb cb ks w) : Calls Tryz.prog 11 #[hv k s b, .agg q.cells] w (Ret [] w (Sl (ticketOf (hkOf k s b) q))) := c11 k s b q w S.at_ S.x.ok
theorem St0.k27 (S : St0 k s b q w0 hb cb ks w) : Calls Tryz.prog 27 #[hv k s b, q.psk.val] w (Ret [] w (Sl (early (hkOf k s b) q.psk.l))) := c27 k s b q.psk.A q.psk.c q.psk.l w S.at_.psk (psk_le S) S.at_.pskc
theorem St0.k28 (S : St0 k s b q w0 hb cb ks w) : Calls Tryz.prog 28 #[hv k s b, q.psk.val, q.shared.val] w (Ret [] w (Sl (handshake (hkOf k s b) q.psk.l q.shared.l))) := c28 k s b q.psk.A q.shared.A q.psk.c q.shared.c q.psk.l q.shared.l w S.at_.psk (psk_le S) S.at_.pskc S.at_.shared (sh_le S) S.at_.sharedc
theorem St0.k29 (S : St0 k s b q w0 hb cb ks w) : Calls Tryz.prog 29 #[hv k s b, q.psk.val, q.shared.val] w (Ret [] w (Sl (master (hkOf k s b) q.psk.l q.shared.l))) := c29 k s b q.psk.A q.shared.A q.psk.c q.shared.c q.psk.l q.shared.l w S.at_.psk (psk_le S) S.at_.pskc S.at_.shared (sh_le S) S.at_.sharedc
theorem St0.k30 (_S : St0 k s b q w0 hb cb ks w) (l : Bytes) (hl : l.length ≤ 249) (hr : Rd w A x) (hx : x.length ≤ 20000) (hr' : Rd w A' m) (hm : m.length ≤ 60000) : Calls Tryz.prog 30 #[hv k s b, .slice A x.length c, Go.Proofs.YtnaefgnjdmmmcaaGreatDoor.S l, .slice A' m.length c'] w (Ret [] w (Sl (derive (hkOf k s b) x l m))) := c30 k s b A A' c c' x l m w hr (by omega) hl hr' hm
theorem St0.k32 (S : St0 k s b q w0 hb cb ks w) (hr : Rd w A x) (hx : x.length ≤ 20000) : Calls Tryz.prog 32 #[hv k s b, .slice A x.length c, Go.Proofs.YtnaefgnjdmmmcaaGreatDoor.S q.label, q.ctx.val, I 32] w (Ret [] w (Sl (exOf (hkOf k s b) q x))) := c32 k s b A q.ctx.A c q.ctx.c x q.label q.ctx.l 32 w hr hx S.x.ok.lab S.at_.ctx (ctx_le S) (by decide)
theorem St0.k23 (S : St0 k s b q w0 hb cb ks w) (hr : Rd w A x) (hx : x.length ≤ 20000) : Calls Tryz.prog 23 #[hv k s b, .slice A x.length c, Go.Proofs.YtnaefgnjdmmmcaaGreatDoor.S [116, 114, 97, 102, 102, 105, 99, 32, 117, 112, 100], .slice none 0 0, I (hkOf k s b).size] w (Ret [] w (Fresh w (nxOf (hkOf k s b) x))) := c23 k s b A none c 0 x [116, 114, 97, 102, 102, 105, 99, 32, 117, 112, 100] [] (hkOf k s b).size w hr hx (by decide) (Rd.nil _ _) (by decide) (HK.size_le (hkOf_ok k s b)) S.K S.pos
theorem St0.k34 (_S : St0 k s b q w0 hb cb ks w) (hr : Rd w A x) (hx : x.length ≤ 20000) : Calls Tryz.prog 34 #[hv k s b, .slice A x.length c, Go.Proofs.YtnaefgnjdmmmcaaGreatDoor.S [116, 114, 97, 102, 102, 105, 99, 32, 117, 112, 100], .slice none 0 0, I (hkOf k s b).size] w (Ret [] w (Sl (nxOf (hkOf k s b) x))) := c34 k s b A none c 0 x [116, 114, 97, 102, 102, 105, 99, 32, 117, 112, 100] [] (hkOf k s b).size w hr (by omega) (by decide) (Rd.nil _ _) (by decide) (by decide) (HK.size_le (hkOf_ok k s b))
end
end Go.Proofs.YtnaefgnjdmmmcaaGreatDoor
/- The length of a row that is known by what it reads as. -/
namespace Go.Proofs.YtnaefgnjdmmmcaaGreatDoor
open Go.RowKit
theorem o_lenP {P : Program} {N : Nat} {Γ : Env} {w : World} {d : Option Tmp} {ty : TypeId} {pos : String} {af : Array Edge} {gd : Option (Nat × Bool)} {x : Operand} {n : Nat} {t : TypeId} {p : Pred} (hx : Γ.op x = some (.ab p)) (hp : ∀ v, p v w → ∃ A c, v = .slice A n c) (ht : sliceOne P t = true) :
    OpAt P N Γ w ⟨d, .call ⟨.builtin .len, #[x], #[t]⟩, ty, pos, af, gd⟩ (Only []) (fun v _ => v = I n) :=
  opAt_val fun a ha => by
    have h : p (a.eval x) w := ha.get x (by simp [Op.operands, Call.operands]) _ hx
    obtain ⟨A, c, e⟩ := hp _ h
    refine ⟨I n, w, ?_, Only.refl _ _, rfl⟩
    unfold sliceOne at ht
    cases hu : P.underlying t with
    | none => rw [hu] at ht; cases ht
    | some u =>
      rw [hu] at ht
      cases u <;> simp at ht
      simp [execOp, resolve, invoke, builtin, e, Builtin.len_, underlying, hu, goInt]
theorem o_len2 {N : Nat} {Γ : Env} {w : World} {d : Option Tmp} {ty : TypeId} {pos : String} {af : Array Edge} {gd : Option (Nat × Bool)} {x : Operand} {Z : Nat → Prop} {ls : List Bytes} (hx : Γ.op x = some (.ab (RowZ Z ls))) :
    OpAt Tryz.prog N Γ w ⟨d, .call ⟨.builtin .len, #[x], #[30]⟩, ty, pos, af, gd⟩ (Only []) (fun v _ => v = I ls.length) :=
  o_lenP hx (fun v h => by obtain ⟨g, c, ps, rfl, _, _, h4, _⟩ := h; subst h4; exact ⟨some ⟨g, 0, none⟩, c, by simp⟩) (so rfl)
theorem st_rowz {Z : Nat → Prop} {ls : List Bytes} : ∀ (v : Value) (w w' : World), RowZ Z ls v w → Only [] w w' → RowZ Z ls v w' := fun _ _ _ h k => h.pure k
theorem St.mid {k s b : Int} {q : Conn} {w0 w w2 : World} {hb cb b0 gx g c : Nat} {ks : List Pt} {ls : List Bytes} {ps : List Pt} {p : Pt} {X0 X1 : Array Value} {u : Value} (S : St k s b q w0 hb cb b0 gx ks ls (.slice (some ⟨g, 0, none⟩) ps.length c) w) (hr : RowIs w g c ps) (hl : ps.map Pt.l = ls) (hrd : ∀ p ∈ ps, Rd w p.A p.l) (hp : p ∈ ks)
    (hk : RX g X0 X1 w w2) (hm : MidP w.heap.size g c X1 (ps ++ [p]) u w2) (hZ : b0 ≤ g ∧ g ≠ gx) : St k s b q w0 hb cb b0 gx ks (ls ++ [p.l]) u w2 :=
  S.appd hk.1 (mid_row (Z := fun g => b0 ≤ g ∧ g ≠ gx) hr hl hrd (S.ks p hp) hk hm hZ (fun i hi => ⟨Nat.le_trans S.bs hi, by have := S.lx; omega⟩))
end Go.Proofs.YtnaefgnjdmmmcaaGreatDoor
/- laws.schedule: the list that the thin package gives. -/
namespace Go.Proofs.YtnaefgnjdmmmcaaGreatDoor
open Go.RowKit
def outs (H : HK) (q : Conn) : Nat → List Bytes
  | 0 => preOf H q
  | 1 => preOf H q ++ upds H (q.upd.toNat + 1) (capOf H q)
  | _ => preOf H q ++ upds H (q.upd.toNat + 1) (capOf H q) ++ upds H (q.upd.toNat + 1) (sapOf H q)
theorem outs_length (H : HK) (q : Conn) : (outs H q 2).length = 25 + 8 * q.upd.toNat := by simp only [outs, List.length_append, preOf_length, upds_length]; omega
theorem outs_le (H : HK) (q : Conn) : ∀ n, (outs H q n).length ≤ 25 + 8 * q.upd.toNat
  | 0 => by simp only [outs, preOf_length]; omega
  | 1 => by simp only [outs, List.length_append, preOf_length, upds_length]; omega
  | _ + 2 => by simp only [outs, List.length_append, preOf_length, upds_length]; omega
structure OSt where
  j : Nat
  v : Value
structure ISt where
  i : Nat
  v : Value
  p : Pt
set_option linter.unusedSimpArgs false
set_option linter.unusedVariables false
attribute [local irreducible] ValAt OpAt RunX Tr Post FlowK
set_option maxHeartbeats 4000000 in
/-- laws.schedule -/
theorem c8 (k s b : Int) (q : Conn) (w : World) (hx : Cx q w) : Calls Tryz.prog 8 #[hv k s b, .agg q.cells] w (Ret [] w (JQ (schedOf (hkOf k s b) q))) := by
  obtain ⟨U, hU⟩ : ∃ U : Nat, q.upd = U := ⟨q.upd.toNat, by have := hx.ok.upd0; omega⟩
  have hU5 : U ≤ 5 := by have := hx.ok.upd; omega
  have hUn : q.upd.toNat = U := by omega
  refine enter (Γ := [(0, .ex (hv k s b)), (1, .ex (.agg q.cells))]) Tryz.func8 rfl rfl rfl ⟨⟨_, rfl, rfl⟩, ⟨_, rfl, rfl⟩, trivial⟩ ?_
  repeat (first | refine t_seq ?_ | refine t_region ?_ | refine s_nil ?_ | refine p_then ?_ | refine t_ret ?_ | refine p_then_ret ?_ | refine p_block_ret ?_ | refine t_block ?_ | refine t_exit ?_ | refine p_then_exit ?_ | refine p_block_exit ?_ | refine p_block ?_ | refine t_skip ?_)
  refine s_op (o_box rfl) rfl rfl ?_
  rintro _ w1 hw1 ⟨rfl, hB1⟩
  refine s_op (o_box rfl) rfl rfl ?_
  rintro _ w2 hw2 ⟨rfl, hB2⟩
  refine s_val (v_assign rfl) rfl ?_
  have S : St0 k s b q w w.heap.size w1.heap.size [] w2 := ⟨hx, hw1.trans hw2, hB1.only hw2 (by simp), hB2, by simp⟩
  clear hB1 hB2
  repeat (first | refine t_seq ?_ | refine t_region ?_ | refine s_nil ?_ | refine p_then ?_ | refine t_ret ?_ | refine p_then_ret ?_ | refine p_block_ret ?_ | refine t_block ?_ | refine t_exit ?_ | refine p_then_exit ?_ | refine p_block_exit ?_ | refine p_block ?_ | refine t_skip ?_)
  refine s_val (v_load rfl S.ldc) rfl ?_
  refine s_op (f13 (q := q) rfl S.at_ hx.ok (by decide)) rfl rfl ?_
  rintro _ w3 hw3 ⟨A5, c5, rfl, hc5, hr5⟩
  refine s_val (v_assign rfl) rfl ?_
  replace S := (S.pure hw3).add (p := ⟨A5, c5, q.up 2⟩) hr5
  repeat (first | refine t_seq ?_ | refine t_region ?_ | refine s_nil ?_ | refine p_then ?_ | refine t_ret ?_ | refine p_then_ret ?_ | refine p_block_ret ?_ | refine t_block ?_ | refine t_exit ?_ | refine p_then_exit ?_ | refine p_block_exit ?_ | refine p_block ?_ | refine t_skip ?_)
  refine s_val (v_load rfl S.ld) rfl ?_
  refine s_val (v_fieldAddr rfl (fo rfl)) rfl ?_
  refine s_val (v_load1 rfl (sc rfl) (by first | exact S.c.cell _ rfl | assumption)) rfl ?_
  refine s_val (v_move rfl) rfl ?_
  refine s_op (o_callF rfl (en rfl) (S.k14 (S.ks ⟨A5, c5, q.up 2⟩ (by simp)))) rfl rfl ?_
  rintro _ w4 hw4 ⟨A6, c6, rfl, hc6, hr6⟩
  refine s_val (v_assign rfl) rfl ?_
  replace S := (S.pure hw4).add (p := ⟨A6, c6, cetOf (hkOf k s b) q⟩) hr6
  have SA := S
  clear S
  repeat (first | refine t_seq ?_ | refine t_region ?_ | refine s_nil ?_ | refine p_then ?_ | refine t_ret ?_ | refine p_then_ret ?_ | refine p_block_ret ?_ | refine t_block ?_ | refine t_exit ?_ | refine p_then_exit ?_ | refine p_block_exit ?_ | refine p_block ?_ | refine t_skip ?_)
  refine s_val (v_move rfl) rfl ?_
  refine s_op (o_row (Z := fun g => w4.heap.size ≤ g ∧ g ≠ 0) (ls := [cetOf (hkOf k s b) q]) ⟨Nat.le_refl _, by have := SA.pos; omega⟩ rfl rfl (by show 0 < 1; decide) (by show 1 ≤ 1000; decide) (fun a ha => ⟨⟨A6, c6, ha.val (x := .tmp 21) (by simp [Op.operands]) rfl, hc6, SA.ks ⟨A6, c6, cetOf (hkOf k s b) q⟩ (by simp)⟩, trivial⟩)) rfl rfl ?_
  rintro v w5 hw5 h7
  have S : St k s b q w w.heap.size w1.heap.size w4.heap.size 0 _ _ v w5 := ⟨SA.pure hw5, h7, SA.h.lt, SA.c.lt, SA.z.size, hw5.size, (SA.pure hw5).pos⟩
  clear h7
  refine s_val (v_load rfl S.ld) rfl ?_
  refine s_val (v_move rfl) rfl ?_
  refine s_op (o_call rfl (en rfl) (S.k15 (S.ks ⟨A6, c6, cetOf (hkOf k s b) q⟩ (by simp)) (dl _ _ _ _ _ _))) rfl rfl ?_
  rintro u w6 hw6 hu
  replace S := S.pure hw6
  refine s_op (o_appZ rfl rfl S.row hu (by simp [keysOf]) S.newZ) rfl rfl ?_
  rintro v w7 hw7 h7
  replace S := S.appd hw7 h7
  clear h7 hu SA
  refine s_val (v_assign rfl) rfl ?_
  repeat (first | refine t_seq ?_ | refine t_region ?_ | refine s_nil ?_ | refine p_then ?_ | refine t_ret ?_ | refine p_then_ret ?_ | refine p_block_ret ?_ | refine t_block ?_ | refine t_exit ?_ | refine p_then_exit ?_ | refine p_block_exit ?_ | refine p_block ?_ | refine t_skip ?_)
  refine x_weak [(2, .ex (pt w.heap.size 0)), (3, .ex (pt w1.heap.size 0)), (5, .ex (.slice A5 (q.up 2).length c5)), (7, .ex v)] (by repeat (first | exact trivial | refine ⟨rfl, ?_⟩)) ?_
  refine s_val (v_move rfl) rfl ?_
  refine s_val (v_load rfl S.ld) rfl ?_
  refine s_val (v_fieldAddr rfl (fo rfl)) rfl ?_
  refine s_val (v_load1 rfl (sc rfl) (by first | exact S.c.cell _ rfl | assumption)) rfl ?_
  refine s_val (v_move rfl) rfl ?_
  refine s_val (v_fieldAddr rfl (fo rfl)) rfl ?_
  refine s_val (v_load1 rfl (sc rfl) (by first | exact S.c.cell _ rfl | assumption)) rfl ?_
  refine s_val (v_fieldAddr rfl (fo rfl)) rfl ?_
  refine s_val (v_load1 rfl (sc rfl) (by first | exact S.c.cell _ rfl | assumption)) rfl ?_
  refine s_op (o_callF rfl (en rfl) (S.k16 (S.ks ⟨A5, c5, q.up 2⟩ (by simp)))) rfl rfl ?_
  rintro _ w8 hw8 ⟨A9, c9, rfl, hc9, hr9⟩
  replace S := S.pure hw8
  refine s_op (o_parts (ls := [eexOf (hkOf k s b) q]) rt30 rfl rfl (by show 0 < 1; decide) (by show 1 ≤ 1000; decide) (fun a ha => ⟨⟨A9, c9, ha.val (x := .tmp 36) (by simp [Op.operands]) rfl, hc9, hr9⟩, trivial⟩)) rfl rfl ?_
  rintro u w9 hw9 hu
  replace S := S.pure hw9
  refine s_op (o_appZ rfl rfl S.row hu (by simp [keysOf]) S.newZ) rfl rfl ?_
  rintro v w10 hw10 h10
  replace S := S.appd hw10 h10
  clear h10 hu
  refine s_val (v_assign rfl) rfl ?_
  repeat (first | refine t_seq ?_ | refine t_region ?_ | refine s_nil ?_ | refine p_then ?_ | refine t_ret ?_ | refine p_then_ret ?_ | refine p_block_ret ?_ | refine t_block ?_ | refine t_exit ?_ | refine p_then_exit ?_ | refine p_block_exit ?_ | refine p_block ?_ | refine t_skip ?_)
  refine s_val (v_load rfl S.ld) rfl ?_
  refine s_val (v_fieldAddr rfl (fo rfl)) rfl ?_
  refine s_val (v_load1 rfl (sc rfl) (by first | exact S.c.cell _ rfl | assumption)) rfl ?_
  refine s_op (o_callF rfl (en rfl) S.k17) rfl rfl ?_
  rintro _ w11 hw11 ⟨A8, c8, rfl, hc8, hr8⟩
  refine s_val (v_assign rfl) rfl ?_
  replace S := (S.pure hw11).add (p := ⟨A8, c8, bndOf (hkOf k s b) q⟩) hr8
  repeat (first | refine t_seq ?_ | refine t_region ?_ | refine s_nil ?_ | refine p_then ?_ | refine t_ret ?_ | refine p_then_ret ?_ | refine p_block_ret ?_ | refine t_block ?_ | refine t_exit ?_ | refine p_then_exit ?_ | refine p_block_exit ?_ | refine p_block ?_ | refine t_skip ?_)
  refine t_weak [(7, .ex v), (2, .ex (pt w.heap.size 0)), (3, .ex (pt w1.heap.size 0)), (8, .ex (.slice A8 (bndOf (hkOf k s b) q).length c8))] (by repeat (first | exact trivial | refine ⟨rfl, ?_⟩)) ?_
  refine t_drawO 8 (by kernel_rfl) rfl ?_
  refine fk_val (Only.refl _) (fun wF hR => v_move rfl) ?_
  refine fk_val (Only.refl _) (fun wF hR => v_move rfl) ?_
  refine fk_val Only.refl' (fun wF hR => v_load rfl (S.pure hR).ld) ?_
  refine fk_val (Only.refl _) (fun wF hR => v_move rfl) ?_
  refine fk_val Only.refl' (fun wF hR => v_load rfl (S.pure hR).ldc) ?_
  refine fk_op st_s (fun wF hR => f13 rfl (S.pure hR).at_ hx.ok (by decide)) ?_
  refine fk_op st_s (fun wF hR => o_callM (pre := [.tmp 45, .tmp 46]) (post := []) rfl rfl rfl (en rfl) (fun A c _ hr => (S.pure hR).k18 ((S.pure hR).ks ⟨A8, c8, bndOf (hkOf k s b) q⟩ (by simp)) (dl _ _ _ _ _ _) 1 hr)) ?_
  refine fk_op st_jp (fun wF hR => o_parts (ls := [bndOf (hkOf k s b) q, finishedOf (hkOf k s b) (bndOf (hkOf k s b) q) (q.up 1)]) rt30 rfl rfl (by show 0 < 2; decide) (by show 2 ≤ 1000; decide) (fun a ha => ⟨⟨A8, c8, ha.val (x := .tmp 44) (by simp [Op.operands]) rfl, hc8, (S.pure hR).ks ⟨A8, c8, bndOf (hkOf k s b) q⟩ (by simp)⟩, ha.get (.tmp 49) (by simp [Op.operands]) _ rfl, trivial⟩)) ?_
  refine fk_nil (fun wA hwA => ?_)
  replace S := S.pure hwA
  refine x_open 50 rfl (fun u hu => ?_)
  refine x_weak [(43, .ex v), (50, .ex u), (2, .ex (pt w.heap.size 0)), (3, .ex (pt w1.heap.size 0)), (8, .ex (.slice A8 (bndOf (hkOf k s b) q).length c8))] (by repeat (first | exact trivial | refine ⟨rfl, ?_⟩)) ?_
  refine s_op (o_appZ rfl rfl S.row hu (by simp [keysOf, outs_length] <;> omega) S.newZ) rfl rfl ?_
  rintro v wB hwB hB
  replace S := S.appd hwB hB
  clear hB
  refine s_val (v_assign rfl) rfl ?_
  repeat (first | refine t_seq ?_ | refine t_region ?_ | refine s_nil ?_ | refine p_then ?_ | refine t_ret ?_ | refine p_then_ret ?_ | refine p_block_ret ?_ | refine t_block ?_ | refine t_exit ?_ | refine p_then_exit ?_ | refine p_block_exit ?_ | refine p_block ?_ | refine t_skip ?_)
  refine t_weak [(2, .ex (pt w.heap.size 0)), (3, .ex (pt w1.heap.size 0)), (7, .ex v)] (by repeat (first | exact trivial | refine ⟨rfl, ?_⟩)) ?_
  refine t_drawO 16 (by kernel_rfl) rfl ?_
  refine fk_val Only.refl' (fun wF hR => v_load rfl (S.pure hR).ld) ?_
  refine fk_val (Only.refl _) (fun wF hR => v_fieldAddr rfl (fo rfl)) ?_
  refine fk_val (Only.refl _) (fun wF hR => v_load1 rfl (sc rfl) (by first | exact (S.pure hR).c.cell _ rfl | assumption)) ?_
  refine fk_val (Only.refl _) (fun wF hR => v_fieldAddr rfl (fo rfl)) ?_
  refine fk_val (Only.refl _) (fun wF hR => v_load1 rfl (sc rfl) (by first | exact (S.pure hR).c.cell _ rfl | assumption)) ?_
  refine fk_val Only.refl' (fun wF hR => v_load rfl (S.pure hR).ldc) ?_
  refine fk_op st_s (fun wF hR => f13 rfl (S.pure hR).at_ hx.ok (by decide)) ?_
  refine fk_op st_s (fun wF hR => o_callMF (pre := [.tmp 52, .tmp 54, .tmp 56]) (post := []) rfl rfl rfl (en rfl) (fun A c _ hr => (S.pure hR).k19 hr)) ?_
  refine fk_val Only.refl' (fun wF hR => v_load rfl (S.pure hR).ld) ?_
  refine fk_val (Only.refl _) (fun wF hR => v_fieldAddr rfl (fo rfl)) ?_
  refine fk_val (Only.refl _) (fun wF hR => v_load1 rfl (sc rfl) (by first | exact (S.pure hR).c.cell _ rfl | assumption)) ?_
  refine fk_val (Only.refl _) (fun wF hR => v_fieldAddr rfl (fo rfl)) ?_
  refine fk_val (Only.refl _) (fun wF hR => v_load1 rfl (sc rfl) (by first | exact (S.pure hR).c.cell _ rfl | assumption)) ?_
  refine fk_val Only.refl' (fun wF hR => v_load rfl (S.pure hR).ldc) ?_
  refine fk_op st_s (fun wF hR => f13 rfl (S.pure hR).at_ hx.ok (by decide)) ?_
  refine fk_op st_s (fun wF hR => o_callMF (pre := [.tmp 60, .tmp 62, .tmp 64]) (post := []) rfl rfl rfl (en rfl) (fun A c _ hr => (S.pure hR).k20 hr)) ?_
  refine fk_nil (fun wA hwA => ?_)
  refine x_open 59 rfl (fun u hu => ?_)
  obtain ⟨A9, c9, rfl, hc9, hr9⟩ := hu
  refine x_open 67 rfl (fun u hu => ?_)
  obtain ⟨A10, c10, rfl, hc10, hr10⟩ := hu
  replace S := ((S.pure hwA).add (p := ⟨A9, c9, chsOf (hkOf k s b) q⟩) hr9).add (p := ⟨A10, c10, shsOf (hkOf k s b) q⟩) hr10
  refine x_weak [(59, .ex (.slice A9 (chsOf (hkOf k s b) q).length c9)), (67, .ex (.slice A10 (shsOf (hkOf k s b) q).length c10)), (2, .ex (pt w.heap.size 0)), (3, .ex (pt w1.heap.size 0)), (7, .ex v)] (by repeat (first | exact trivial | refine ⟨rfl, ?_⟩)) ?_
  refine s_val (v_assign rfl) rfl ?_
  refine s_val (v_assign rfl) rfl ?_
  repeat (first | refine t_seq ?_ | refine t_region ?_ | refine s_nil ?_ | refine p_then ?_ | refine t_ret ?_ | refine p_then_ret ?_ | refine p_block_ret ?_ | refine t_block ?_ | refine t_exit ?_ | refine p_then_exit ?_ | refine p_block_exit ?_ | refine p_block ?_ | refine t_skip ?_)
  refine t_weak [(2, .ex (pt w.heap.size 0)), (3, .ex (pt w1.heap.size 0)), (9, .ex (.slice A9 (chsOf (hkOf k s b) q).length c9)), (10, .ex (.slice A10 (shsOf (hkOf k s b) q).length c10)), (7, .ex v)] (by repeat (first | exact trivial | refine ⟨rfl, ?_⟩)) ?_
  obtain ⟨g7, k7, ps7, rfl, hZ7, hR7, hL7, hD7⟩ := S.row
  have hg7 := hR7.blk.lt
  have hn7 : ps7.length + 1 ≤ 100000 := by have := congrArg List.length hL7; simp [keysOf] at this; omega
  have hh7 := S.l1
  have hZ7' := hZ7.1
  refine t_drawK 6 (RX g7 (cellsOf ps7 k7) (X1of ps7 ⟨A9, c9, chsOf (hkOf k s b) q⟩ k7)) hmix (by kernel_rfl) RX.refl (fun _ _ _ => RX.trans) RX.drew rfl ?_
  refine fk_val RX.refl (fun wF hR => v_move rfl) ?_
  refine fk_val RX.refl (fun wF hR => v_move rfl) ?_
  refine fk_op (st_one hg7) (fun wF hR => opAt_mono (o_one (p := ⟨A9, c9, chsOf (hkOf k s b) q⟩) hR.1.size rfl) (fun _ h => RX.pure h) (fun _ _ _ h => h)) ?_
  refine fk_op (st_mid hg7) (fun wF hR => o_mid rfl rfl hR7 (Nat.le_refl _) hR hn7) ?_
  refine fk_val RX.refl (fun wF hR => v_load rfl (ld23 (S.h.only hR.1 (by simp; omega)))) ?_
  refine fk_val RX.refl (fun wF hR => v_move rfl) ?_
  refine fk_nil (fun wA hwA _ => ?_)
  refine x_open 71 rfl (fun v hu => ?_)
  skip
  replace S := S.mid (p := ⟨A9, c9, chsOf (hkOf k s b) q⟩) hR7 hL7 hD7 (by simp) hwA hu hZ7
  clear hu hR7 hD7 hn7 hZ7 hh7 hZ7' hg7 hL7
  refine x_weak [(71, .ex v), (72, .ex (hv k s b)), (73, .ex (⟨A9, c9, chsOf (hkOf k s b) q⟩ : Pt).val), (2, .ex (pt w.heap.size 0)), (3, .ex (pt w1.heap.size 0)), (9, .ex (.slice A9 (chsOf (hkOf k s b) q).length c9)), (10, .ex (.slice A10 (shsOf (hkOf k s b) q).length c10))] (by repeat (first | exact trivial | refine ⟨rfl, ?_⟩)) ?_
  refine s_op (o_call rfl (en rfl) (S.k15 (S.ks ⟨A9, c9, chsOf (hkOf k s b) q⟩ (by simp)) (dl _ _ _ _ _ _))) rfl rfl ?_
  rintro u wB hwB hu
  replace S := S.pure hwB
  skip
  refine s_op (o_appZ rfl rfl S.row hu (by simp [keysOf] <;> omega) S.newZ) rfl rfl ?_
  rintro v wC hwC hC
  skip
  replace S := S.appd hwC hC
  clear hC
  refine s_val (v_assign rfl) rfl ?_
  repeat (first | refine t_seq ?_ | refine t_region ?_ | refine s_nil ?_ | refine p_then ?_ | refine t_ret ?_ | refine p_then_ret ?_ | refine p_block_ret ?_ | refine t_block ?_ | refine t_exit ?_ | refine p_then_exit ?_ | refine p_block_exit ?_ | refine p_block ?_ | refine t_skip ?_)
  refine t_weak [(2, .ex (pt w.heap.size 0)), (3, .ex (pt w1.heap.size 0)), (9, .ex (.slice A9 (chsOf (hkOf k s b) q).length c9)), (10, .ex (.slice A10 (shsOf (hkOf k s b) q).length c10)), (7, .ex v)] (by repeat (first | exact trivial | refine ⟨rfl, ?_⟩)) ?_
  obtain ⟨g7, k7, ps7, rfl, hZ7, hR7, hL7, hD7⟩ := S.row
  have hg7 := hR7.blk.lt
  have hn7 : ps7.length + 1 ≤ 100000 := by have := congrArg List.length hL7; simp [keysOf] at this; omega
  have hh7 := S.l1
  have hZ7' := hZ7.1
  refine t_drawK 6 (RX g7 (cellsOf ps7 k7) (X1of ps7 ⟨A10, c10, shsOf (hkOf k s b) q⟩ k7)) hmix (by kernel_rfl) RX.refl (fun _ _ _ => RX.trans) RX.drew rfl ?_
  refine fk_val RX.refl (fun wF hR => v_move rfl) ?_
  refine fk_val RX.refl (fun wF hR => v_move rfl) ?_
  refine fk_op (st_one hg7) (fun wF hR => opAt_mono (o_one (p := ⟨A10, c10, shsOf (hkOf k s b) q⟩) hR.1.size rfl) (fun _ h => RX.pure h) (fun _ _ _ h => h)) ?_
  refine fk_op (st_mid hg7) (fun wF hR => o_mid rfl rfl hR7 (Nat.le_refl _) hR hn7) ?_
  refine fk_val RX.refl (fun wF hR => v_load rfl (ld23 (S.h.only hR.1 (by simp; omega)))) ?_
  refine fk_val RX.refl (fun wF hR => v_move rfl) ?_
  refine fk_nil (fun wA hwA _ => ?_)
  refine x_open 79 rfl (fun v hu => ?_)
  skip
  replace S := S.mid (p := ⟨A10, c10, shsOf (hkOf k s b) q⟩) hR7 hL7 hD7 (by simp) hwA hu hZ7
  clear hu hR7 hD7 hn7 hZ7 hh7 hZ7' hg7 hL7
  refine x_weak [(79, .ex v), (80, .ex (hv k s b)), (81, .ex (⟨A10, c10, shsOf (hkOf k s b) q⟩ : Pt).val), (2, .ex (pt w.heap.size 0)), (3, .ex (pt w1.heap.size 0)), (9, .ex (.slice A9 (chsOf (hkOf k s b) q).length c9)), (10, .ex (.slice A10 (shsOf (hkOf k s b) q).length c10))] (by repeat (first | exact trivial | refine ⟨rfl, ?_⟩)) ?_
  refine s_op (o_call rfl (en rfl) (S.k15 (S.ks ⟨A10, c10, shsOf (hkOf k s b) q⟩ (by simp)) (dl _ _ _ _ _ _))) rfl rfl ?_
  rintro u wB hwB hu
  replace S := S.pure hwB
  skip
  refine s_op (o_appZ rfl rfl S.row hu (by simp [keysOf] <;> omega) S.newZ) rfl rfl ?_
  rintro v wC hwC hC
  skip
  replace S := S.appd hwC hC
  clear hC
  refine s_val (v_assign rfl) rfl ?_
  repeat (first | refine t_seq ?_ | refine t_region ?_ | refine s_nil ?_ | refine p_then ?_ | refine t_ret ?_ | refine p_then_ret ?_ | refine p_block_ret ?_ | refine t_block ?_ | refine t_exit ?_ | refine p_then_exit ?_ | refine p_block_exit ?_ | refine p_block ?_ | refine t_skip ?_)
  refine t_weak [(7, .ex v), (2, .ex (pt w.heap.size 0)), (3, .ex (pt w1.heap.size 0)), (9, .ex (.slice A9 (chsOf (hkOf k s b) q).length c9)), (10, .ex (.slice A10 (shsOf (hkOf k s b) q).length c10))] (by repeat (first | exact trivial | refine ⟨rfl, ?_⟩)) ?_
  refine t_drawO 12 (by kernel_rfl) rfl ?_
  refine fk_val (Only.refl _) (fun wF hR => v_move rfl) ?_
  refine fk_val Only.refl' (fun wF hR => v_load rfl (S.pure hR).ld) ?_
  refine fk_val (Only.refl _) (fun wF hR => v_move rfl) ?_
  refine fk_val Only.refl' (fun wF hR => v_load rfl (S.pure hR).ldc) ?_
  refine fk_op st_s (fun wF hR => f13 rfl (S.pure hR).at_ hx.ok (by decide)) ?_
  refine fk_op st_s (fun wF hR => o_callM (pre := [.tmp 85, .tmp 86]) (post := []) rfl rfl rfl (en rfl) (fun A c _ hr => (S.pure hR).k18 ((S.pure hR).ks ⟨A10, c10, shsOf (hkOf k s b) q⟩ (by simp)) (dl _ _ _ _ _ _) 4 hr)) ?_
  refine fk_val Only.refl' (fun wF hR => v_load rfl (S.pure hR).ld) ?_
  refine fk_val (Only.refl _) (fun wF hR => v_move rfl) ?_
  refine fk_val Only.refl' (fun wF hR => v_load rfl (S.pure hR).ldc) ?_
  refine fk_op st_s (fun wF hR => f13 rfl (S.pure hR).at_ hx.ok (by decide)) ?_
  refine fk_op st_s (fun wF hR => o_callM (pre := [.tmp 90, .tmp 91]) (post := []) rfl rfl rfl (en rfl) (fun A c _ hr => (S.pure hR).k18 ((S.pure hR).ks ⟨A9, c9, chsOf (hkOf k s b) q⟩ (by simp)) (dl _ _ _ _ _ _) 6 hr)) ?_
  refine fk_op st_jp (fun wF hR => o_parts (ls := [finishedOf (hkOf k s b) (shsOf (hkOf k s b) q) (q.up 4), finishedOf (hkOf k s b) (chsOf (hkOf k s b) q) (q.up 6)]) rt30 rfl rfl (by show 0 < 2; decide) (by show 2 ≤ 1000; decide) (fun a ha => ⟨ha.get (.tmp 89) (by simp [Op.operands]) _ rfl, ha.get (.tmp 94) (by simp [Op.operands]) _ rfl, trivial⟩)) ?_
  refine fk_nil (fun wA hwA => ?_)
  replace S := S.pure hwA
  refine x_open 95 rfl (fun u hu => ?_)
  refine x_weak [(84, .ex v), (95, .ex u), (2, .ex (pt w.heap.size 0)), (3, .ex (pt w1.heap.size 0)), (9, .ex (.slice A9 (chsOf (hkOf k s b) q).length c9)), (10, .ex (.slice A10 (shsOf (hkOf k s b) q).length c10))] (by repeat (first | exact trivial | refine ⟨rfl, ?_⟩)) ?_
  refine s_op (o_appZ rfl rfl S.row hu (by simp [keysOf, outs_length] <;> omega) S.newZ) rfl rfl ?_
  rintro v wB hwB hB
  replace S := S.appd hwB hB
  clear hB
  refine s_val (v_assign rfl) rfl ?_
  replace S := S.sub (ks' := []) (by simp)
  refine s_nil (p_then ?_)
  have S0 : St k s b q w w.heap.size w1.heap.size w4.heap.size 0 [] (outs (hkOf k s b) q 0) v _ := S
  clear S
  refine t_cut (fun v : Value => [(2, .ex (pt w.heap.size 0)), (3, .ex (pt w1.heap.size 0)), (7, .ex v)]) (fun v w' => ∃ gx, St k s b q w w.heap.size w1.heap.size w4.heap.size gx [] (outs (hkOf k s b) q 2) v w') ?_ ?_
  · repeat (first | refine t_seq ?_ | refine t_region ?_ | refine s_nil ?_ | refine p_then ?_ | refine t_ret ?_ | refine p_then_ret ?_ | refine p_block_ret ?_ | refine t_block ?_ | refine t_exit ?_ | refine p_then_exit ?_ | refine p_block_exit ?_ | refine p_block ?_ | refine t_skip ?_)
    refine t_weak [(2, .ex (pt w.heap.size 0)), (3, .ex (pt w1.heap.size 0)), (7, .ex v)] (by repeat (first | exact trivial | refine ⟨rfl, ?_⟩)) ?_
    refine t_drawO 19 (by kernel_rfl) rfl ?_
    refine fk_val Only.refl' (fun wF hR => v_load rfl (S0.pure hR).ld) ?_
    refine fk_val (Only.refl _) (fun wF hR => v_fieldAddr rfl (fo rfl)) ?_
    refine fk_val (Only.refl _) (fun wF hR => v_load1 rfl (sc rfl) (by first | exact (S0.pure hR).c.cell _ rfl | assumption)) ?_
    refine fk_val (Only.refl _) (fun wF hR => v_fieldAddr rfl (fo rfl)) ?_
    refine fk_val (Only.refl _) (fun wF hR => v_load1 rfl (sc rfl) (by first | exact (S0.pure hR).c.cell _ rfl | assumption)) ?_
    refine fk_val Only.refl' (fun wF hR => v_load rfl (S0.pure hR).ldc) ?_
    refine fk_op st_s (fun wF hR => f13 rfl (S0.pure hR).at_ hx.ok (by decide)) ?_
    refine fk_op st_s (fun wF hR => o_callMF (pre := [.tmp 97, .tmp 99, .tmp 101]) (post := []) rfl rfl rfl (en rfl) (fun A c _ hr => (S0.pure hR).k21 hr)) ?_
    refine fk_val Only.refl' (fun wF hR => v_load rfl (S0.pure hR).ld) ?_
    refine fk_val (Only.refl _) (fun wF hR => v_fieldAddr rfl (fo rfl)) ?_
    refine fk_val (Only.refl _) (fun wF hR => v_load1 rfl (sc rfl) (by first | exact (S0.pure hR).c.cell _ rfl | assumption)) ?_
    refine fk_val (Only.refl _) (fun wF hR => v_fieldAddr rfl (fo rfl)) ?_
    refine fk_val (Only.refl _) (fun wF hR => v_load1 rfl (sc rfl) (by first | exact (S0.pure hR).c.cell _ rfl | assumption)) ?_
    refine fk_val Only.refl' (fun wF hR => v_load rfl (S0.pure hR).ldc) ?_
    refine fk_op st_s (fun wF hR => f13 rfl (S0.pure hR).at_ hx.ok (by decide)) ?_
    refine fk_op st_s (fun wF hR => o_callMF (pre := [.tmp 105, .tmp 107, .tmp 109]) (post := []) rfl rfl rfl (en rfl) (fun A c _ hr => (S0.pure hR).k22 hr)) ?_
    refine fk_op st_rowz (fun wF hR => o_row (Z := fun g => wB.heap.size ≤ g) (ls := [capOf (hkOf k s b) q, sapOf (hkOf k s b) q]) hR.size rfl rfl (by show 0 < 2; decide) (by show 2 ≤ 1000; decide) (fun a ha => ⟨ha.get (.tmp 104) (by simp [Op.operands]) _ rfl, ha.get (.tmp 112) (by simp [Op.operands]) _ rfl, trivial⟩)) ?_
    refine fk_ex (fun wF hR => o_len2 rfl) ?_
    refine fk_val (Only.refl _) (fun wF hR => v_move rfl) ?_
    refine fk_nil (fun wA hwA => ?_)
    refine x_open 113 rfl (fun u hu => ?_)
    obtain ⟨gx, cx, psx, rfl, hgx, hrx, hlx, hdx⟩ := hu
    obtain ⟨p1, p2, rfl⟩ : ∃ p1 p2, psx = [p1, p2] := by
      have h2 : psx.length = 2 := by simpa using congrArg List.length hlx
      match psx, h2 with
      | [a, b], _ => exact ⟨a, b, rfl⟩
    simp only [List.map_cons, List.map_nil, List.cons.injEq, and_true] at hlx
    obtain ⟨hp1, hp2⟩ := hlx
    have S1 : St k s b q w w.heap.size w1.heap.size w4.heap.size gx [p1, p2] (outs (hkOf k s b) q 0) v wA := ⟨⟨S0.x, S0.z.trans hwA, (S0.pure hwA).h, (S0.pure hwA).c, hdx⟩, (S0.row.mono (Z' := fun g => w4.heap.size ≤ g ∧ g ≠ gx) (fun g hg hlt => ⟨hg.1, by omega⟩)).pure hwA, S0.l1, S0.l2, S0.l0, (S0.pure hwA).bs, hrx.blk.lt⟩
    refine x_weak [(115, .ex (I 0)), (114, .ex (I 2)), (113, .ex (.slice (some ⟨gx, 0, none⟩) 2 cx)), (2, .ex (pt w.heap.size 0)), (3, .ex (pt w1.heap.size 0)), (7, .ex v)] (by repeat (first | exact trivial | refine ⟨rfl, ?_⟩)) ?_
    repeat (first | refine t_seq ?_ | refine t_region ?_ | refine s_nil ?_ | refine p_then ?_ | refine t_ret ?_ | refine p_then_ret ?_ | refine p_block_ret ?_ | refine t_block ?_ | refine t_exit ?_ | refine p_then_exit ?_ | refine p_block_exit ?_ | refine p_block ?_ | refine t_skip ?_)
    refine t_loop (fun o : OSt => [(115, .ex (I o.j)), (114, .ex (I 2)), (113, .ex (.slice (some ⟨gx, 0, none⟩) 2 cx)), (2, .ex (pt w.heap.size 0)), (3, .ex (pt w1.heap.size 0)), (7, .ex o.v)]) (fun o w' => o.j ≤ 2 ∧ St k s b q w w.heap.size w1.heap.size w4.heap.size gx [p1, p2] (outs (hkOf k s b) q o.j) o.v w' ∧ Blk w' gx 24 (cellsOf [p1, p2] cx)) (fun o => 2 - o.j) ⟨0, v⟩ (by repeat (first | exact trivial | refine ⟨rfl, ?_⟩)) ⟨Nat.zero_le _, S1, hrx.blk⟩ ?_
    clear S1 S0
    rintro ⟨j, v⟩ wL ⟨hj, S, hX⟩
    simp only at hj S
    refine t_weak [(115, .ex (I j)), (114, .ex (I 2)), (113, .ex (.slice (some ⟨gx, 0, none⟩) 2 cx)), (2, .ex (pt w.heap.size 0)), (3, .ex (pt w1.heap.size 0)), (7, .ex v)] (by repeat (first | exact trivial | refine ⟨rfl, ?_⟩)) ?_
    repeat (first | refine t_seq ?_ | refine t_region ?_ | refine s_nil ?_ | refine p_then ?_ | refine t_ret ?_ | refine p_then_ret ?_ | refine p_block_ret ?_ | refine t_block ?_ | refine t_exit ?_ | refine p_then_exit ?_ | refine p_block_exit ?_ | refine p_block ?_ | refine t_skip ?_)
    refine s_val (v_ltI rfl rfl) rfl ?_
    repeat (first | refine t_seq ?_ | refine t_region ?_ | refine s_nil ?_ | refine p_then ?_ | refine t_ret ?_ | refine p_then_ret ?_ | refine p_block_ret ?_ | refine t_block ?_ | refine t_exit ?_ | refine p_then_exit ?_ | refine p_block_exit ?_ | refine p_block ?_ | refine t_skip ?_)
    refine t_if rfl (fun hb => ?_) (fun hb => ?_)
    · have hj' : j < 2 := by have := of_decide_eq_true hb; omega
      clear hb
      obtain ⟨p, hp, hpm, hpl, hpo⟩ : ∃ p : Pt, (cellsOf [p1, p2] cx)[0 + j]? = some p.val ∧ p ∈ [p1, p2] ∧ p.l.length ≤ 20000 ∧ outs (hkOf k s b) q j ++ upds (hkOf k s b) (U + 1) p.l = outs (hkOf k s b) q (j + 1) := by
        rcases (by omega : j = 0 ∨ j = 1) with rfl | rfl
        · exact ⟨p1, by simp [cellsOf], by simp, by rw [hp1]; exact dl _ _ _ _ _ _, by rw [hp1, ← hUn]; rfl⟩
        · exact ⟨p2, by simp [cellsOf], by simp, by rw [hp2]; exact dl _ _ _ _ _ _, by rw [hp2, ← hUn]; rfl⟩
      refine t_skip (p_then ?_)
      refine t_cut (fun v : Value => [(115, .ex (I j)), (114, .ex (I 2)), (113, .ex (.slice (some ⟨gx, 0, none⟩) 2 cx)), (2, .ex (pt w.heap.size 0)), (3, .ex (pt w1.heap.size 0)), (7, .ex v)]) (fun v w' => St k s b q w w.heap.size w1.heap.size w4.heap.size gx [p1, p2] (outs (hkOf k s b) q (j + 1)) v w' ∧ Blk w' gx 24 (cellsOf [p1, p2] cx)) ?_ ?_
      · repeat (first | refine t_seq ?_ | refine t_region ?_ | refine s_nil ?_ | refine p_then ?_ | refine t_ret ?_ | refine p_then_ret ?_ | refine p_block_ret ?_ | refine t_block ?_ | refine t_exit ?_ | refine p_then_exit ?_ | refine p_block_exit ?_ | refine p_block ?_ | refine t_skip ?_)
        refine s_val (v_indexSlice rfl rfl (so rfl) (by omega)) rfl ?_
        refine s_val (v_load1 rfl (sc rfl) (by first | exact hX.cell _ hp | assumption)) rfl ?_
        refine s_val (v_assign rfl) rfl ?_
        repeat (first | refine t_seq ?_ | refine t_region ?_ | refine s_nil ?_ | refine p_then ?_ | refine t_ret ?_ | refine p_then_ret ?_ | refine p_block_ret ?_ | refine t_block ?_ | refine t_exit ?_ | refine p_then_exit ?_ | refine p_block_exit ?_ | refine p_block ?_ | refine t_skip ?_)
        refine s_val (v_assign rfl) rfl ?_
        repeat (first | refine t_seq ?_ | refine t_region ?_ | refine s_nil ?_ | refine p_then ?_ | refine t_ret ?_ | refine p_then_ret ?_ | refine p_block_ret ?_ | refine t_block ?_ | refine t_exit ?_ | refine p_then_exit ?_ | refine p_block_exit ?_ | refine p_block ?_ | refine t_skip ?_)
        refine t_loop (fun o : ISt => [(13, .ex (I o.i)), (12, .ex o.p.val), (115, .ex (I j)), (114, .ex (I 2)), (113, .ex (.slice (some ⟨gx, 0, none⟩) 2 cx)), (2, .ex (pt w.heap.size 0)), (3, .ex (pt w1.heap.size 0)), (7, .ex o.v)]) (fun o w' => o.i ≤ U + 1 ∧ o.p.l.length ≤ 20000 ∧ ∃ ls, ls ++ upds (hkOf k s b) (U + 1 - o.i) o.p.l = outs (hkOf k s b) q (j + 1) ∧ St k s b q w w.heap.size w1.heap.size w4.heap.size gx [o.p, p1, p2] ls o.v w' ∧ Blk w' gx 24 (cellsOf [p1, p2] cx)) (fun o => U + 1 - o.i) ⟨0, v, p⟩ (by repeat (first | exact trivial | refine ⟨rfl, ?_⟩)) ⟨Nat.zero_le _, hpl, _, hpo, S.add (S.ks p hpm), hX⟩ ?_
        clear S hX hp hpm hpl hpo
        rintro ⟨i, v, p⟩ wI ⟨hi, hpl, ls, hls, S, hX⟩
        simp only at hi hpl hls S
        refine t_weak [(13, .ex (I i)), (12, .ex p.val), (115, .ex (I j)), (114, .ex (I 2)), (113, .ex (.slice (some ⟨gx, 0, none⟩) 2 cx)), (2, .ex (pt w.heap.size 0)), (3, .ex (pt w1.heap.size 0)), (7, .ex v)] (by repeat (first | exact trivial | refine ⟨rfl, ?_⟩)) ?_
        repeat (first | refine t_seq ?_ | refine t_region ?_ | refine s_nil ?_ | refine p_then ?_ | refine t_ret ?_ | refine p_then_ret ?_ | refine p_block_ret ?_ | refine t_block ?_ | refine t_exit ?_ | refine p_then_exit ?_ | refine p_block_exit ?_ | refine p_block ?_ | refine t_skip ?_)
        refine s_val (v_move rfl) rfl ?_
        refine s_val (v_fieldAddr rfl (fo rfl)) rfl ?_
        refine s_val (v_load1 rfl (sc rfl) (by first | exact S.c.cell _ rfl | assumption)) rfl ?_
        refine s_val (v_leI rfl rfl) rfl ?_
        repeat (first | refine t_seq ?_ | refine t_region ?_ | refine s_nil ?_ | refine p_then ?_ | refine t_ret ?_ | refine p_then_ret ?_ | refine p_block_ret ?_ | refine t_block ?_ | refine t_exit ?_ | refine p_then_exit ?_ | refine p_block_exit ?_ | refine p_block ?_ | refine t_skip ?_)
        refine t_if rfl (fun hb => ?_) (fun hb => ?_)
        · have hi' : i ≤ U := by have := of_decide_eq_true hb; omega
          clear hb
          have hlen : ls.length ≤ 200 := by
            have h1 := congrArg List.length hls
            have h2 := outs_le (hkOf k s b) q (j + 1)
            rw [List.length_append] at h1
            omega
          rw [show U + 1 - i = (U - i) + 1 from by omega, upds] at hls
          refine t_skip (p_then ?_)
          repeat (first | refine t_seq ?_ | refine t_region ?_ | refine s_nil ?_ | refine p_then ?_ | refine t_ret ?_ | refine p_then_ret ?_ | refine p_block_ret ?_ | refine t_block ?_ | refine t_exit ?_ | refine p_then_exit ?_ | refine p_block_exit ?_ | refine p_block ?_ | refine t_skip ?_)
          refine t_weak [(13, .ex (I i)), (12, .ex p.val), (115, .ex (I j)), (114, .ex (I 2)), (113, .ex (.slice (some ⟨gx, 0, none⟩) 2 cx)), (2, .ex (pt w.heap.size 0)), (3, .ex (pt w1.heap.size 0)), (7, .ex v)] (by repeat (first | exact trivial | refine ⟨rfl, ?_⟩)) ?_
          obtain ⟨g7, k7, ps7, rfl, hZ7, hR7, hL7, hD7⟩ := S.row
          have hg7 := hR7.blk.lt
          have hn7 : ps7.length + 1 ≤ 100000 := by have := congrArg List.length hL7; simp [keysOf] at this; omega
          have hh7 := S.l1
          have hZ7' := hZ7.1
          refine t_drawK 6 (RX g7 (cellsOf ps7 k7) (X1of ps7 p k7)) hmix (by kernel_rfl) RX.refl (fun _ _ _ => RX.trans) RX.drew rfl ?_
          refine fk_val RX.refl (fun wF hR => v_move rfl) ?_
          refine fk_val RX.refl (fun wF hR => v_move rfl) ?_
          refine fk_op (st_one hg7) (fun wF hR => opAt_mono (o_one (p := p) hR.1.size rfl) (fun _ h => RX.pure h) (fun _ _ _ h => h)) ?_
          refine fk_op (st_mid hg7) (fun wF hR => o_mid rfl rfl hR7 (Nat.le_refl _) hR hn7) ?_
          refine fk_val RX.refl (fun wF hR => v_load rfl (ld23 (S.h.only hR.1 (by simp; omega)))) ?_
          refine fk_val RX.refl (fun wF hR => v_move rfl) ?_
          refine fk_nil (fun wA hwA _ => ?_)
          refine x_open 128 rfl (fun v hu => ?_)
          replace hX := S.keepX hwA.1 hX
          replace S := S.mid (p := p) hR7 hL7 hD7 (by simp) hwA hu hZ7
          clear hu hR7 hD7 hn7 hZ7 hh7 hZ7' hg7 hL7
          refine x_weak [(128, .ex v), (129, .ex (hv k s b)), (130, .ex (p : Pt).val), (13, .ex (I i)), (12, .ex p.val), (115, .ex (I j)), (114, .ex (I 2)), (113, .ex (.slice (some ⟨gx, 0, none⟩) 2 cx)), (2, .ex (pt w.heap.size 0)), (3, .ex (pt w1.heap.size 0))] (by repeat (first | exact trivial | refine ⟨rfl, ?_⟩)) ?_
          refine s_op (o_call rfl (en rfl) (S.k15 (S.ks p (by simp)) hpl)) rfl rfl ?_
          rintro u wB hwB hu
          replace S := S.pure hwB
          replace hX := hX.only hwB (by simp)
          refine s_op (o_appZ rfl rfl S.row hu (by simp [keysOf] <;> omega) S.newZ) rfl rfl ?_
          rintro v wC hwC hC
          replace hX := S.keepX hwC hX
          replace S := S.appd hwC hC
          clear hC
          refine s_val (v_assign rfl) rfl ?_
          repeat (first | refine t_seq ?_ | refine t_region ?_ | refine s_nil ?_ | refine p_then ?_ | refine t_ret ?_ | refine p_then_ret ?_ | refine p_block_ret ?_ | refine t_block ?_ | refine t_exit ?_ | refine p_then_exit ?_ | refine p_block_exit ?_ | refine p_block ?_ | refine t_skip ?_)
          refine t_weak [(13, .ex (I i)), (12, .ex p.val), (115, .ex (I j)), (114, .ex (I 2)), (113, .ex (.slice (some ⟨gx, 0, none⟩) 2 cx)), (2, .ex (pt w.heap.size 0)), (3, .ex (pt w1.heap.size 0)), (7, .ex v)] (by repeat (first | exact trivial | refine ⟨rfl, ?_⟩)) ?_
          refine t_drawO 4 (by kernel_rfl) rfl ?_
          refine fk_val Only.refl' (fun wF hR => v_load rfl (S.pure hR).ld) ?_
          refine fk_val (Only.refl _) (fun wF hR => v_move rfl) ?_
          refine fk_val Only.refl' (fun wF hR => v_load rfl (S.pure hR).ld) ?_
          refine fk_ex (fun wF hR => f24 rfl) ?_
          refine fk_nil (fun wE hwE => ?_)
          replace S := S.pure hwE
          replace hX := hX.only hwE (by simp)
          refine s_op (o_callF rfl (en rfl) (S.k23 (S.ks p (by simp)) hpl)) rfl rfl ?_
          rintro _ wD hwD ⟨An, cn, rfl, hcn, hrn⟩
          refine s_val (v_assign rfl) rfl ?_
          replace S := ((S.pure hwD).sub (ks' := [p1, p2]) (by simp)).add (p := ⟨An, cn, nxOf (hkOf k s b) p.l⟩) hrn
          replace hX := hX.only hwD (by simp)
          repeat (first | refine t_seq ?_ | refine t_region ?_ | refine s_nil ?_ | refine p_then ?_ | refine t_ret ?_ | refine p_then_ret ?_ | refine p_block_ret ?_ | refine t_block ?_ | refine t_exit ?_ | refine p_then_exit ?_ | refine p_block_exit ?_ | refine p_block ?_ | refine t_skip ?_)
          refine s_val (v_move rfl) rfl ?_
          refine s_val (v_addI rfl opc (by omega)) rfl ?_
          refine s_val (v_assign rfl) rfl ?_
          repeat (first | refine t_seq ?_ | refine t_region ?_ | refine s_nil ?_ | refine p_then ?_ | refine t_ret ?_ | refine p_then_ret ?_ | refine p_block_ret ?_ | refine t_block ?_ | refine t_exit ?_ | refine p_then_exit ?_ | refine p_block_exit ?_ | refine p_block ?_ | refine t_skip ?_)
          exact p_round ⟨i + 1, v, ⟨An, cn, nxOf (hkOf k s b) p.l⟩⟩ (by show U + 1 - (i + 1) < U + 1 - i; omega) (by repeat (first | exact trivial | refine ⟨rfl, ?_⟩)) ⟨by show i + 1 ≤ U + 1; omega, nl _ _ _ _, _, by show _ ++ upds (hkOf k s b) (U + 1 - (i + 1)) (nxOf (hkOf k s b) p.l) = _; rw [← hls, Nat.add_sub_add_right]; simp only [List.append_assoc], S, hX⟩
        · have hi' : i = U + 1 := by have := of_decide_eq_false hb; omega
          subst hi'
          rw [Nat.sub_self, upds, List.append_nil] at hls
          subst hls
          repeat (first | refine t_seq ?_ | refine t_region ?_ | refine s_nil ?_ | refine p_then ?_ | refine t_ret ?_ | refine p_then_ret ?_ | refine p_block_ret ?_ | refine t_block ?_ | refine t_exit ?_ | refine p_then_exit ?_ | refine p_block_exit ?_ | refine p_block ?_ | refine t_skip ?_)
          exact p_cut v (by repeat (first | exact trivial | refine ⟨rfl, ?_⟩)) ⟨S.sub (by simp), hX⟩
      · clear S hX
        rintro v wR ⟨S, hX⟩
        repeat (first | refine t_seq ?_ | refine t_region ?_ | refine s_nil ?_ | refine p_then ?_ | refine t_ret ?_ | refine p_then_ret ?_ | refine p_block_ret ?_ | refine t_block ?_ | refine t_exit ?_ | refine p_then_exit ?_ | refine p_block_exit ?_ | refine p_block ?_ | refine t_skip ?_)
        refine s_val (v_addI rfl opc (by omega)) rfl ?_
        refine s_val (v_move rfl) rfl ?_
        repeat (first | refine t_seq ?_ | refine t_region ?_ | refine s_nil ?_ | refine p_then ?_ | refine t_ret ?_ | refine p_then_ret ?_ | refine p_block_ret ?_ | refine t_block ?_ | refine t_exit ?_ | refine p_then_exit ?_ | refine p_block_exit ?_ | refine p_block ?_ | refine t_skip ?_)
        exact p_round ⟨j + 1, v⟩ (by show 2 - (j + 1) < 2 - j; omega) (by repeat (first | exact trivial | refine ⟨rfl, ?_⟩)) ⟨hj', S, hX⟩
    · have hj' : j = 2 := by have := of_decide_eq_false hb; omega
      subst hj'
      repeat (first | refine t_seq ?_ | refine t_region ?_ | refine s_nil ?_ | refine p_then ?_ | refine t_ret ?_ | refine p_then_ret ?_ | refine p_block_ret ?_ | refine t_block ?_ | refine t_exit ?_ | refine p_then_exit ?_ | refine p_block_exit ?_ | refine p_block ?_ | refine t_skip ?_)
      exact p_cut v (by repeat (first | exact trivial | refine ⟨rfl, ?_⟩)) ⟨gx, S.sub (by simp)⟩
  · clear S0
    rintro v wR ⟨gx, S⟩
    have h25 := outs_length (hkOf k s b) q
    repeat (first | refine t_seq ?_ | refine t_region ?_ | refine s_nil ?_ | refine p_then ?_ | refine t_ret ?_ | refine p_then_ret ?_ | refine p_block_ret ?_ | refine t_block ?_ | refine t_exit ?_ | refine p_then_exit ?_ | refine p_block_exit ?_ | refine p_block ?_ | refine t_skip ?_)
    refine t_weak [(7, .ex v), (2, .ex (pt w.heap.size 0)), (3, .ex (pt w1.heap.size 0))] (by repeat (first | exact trivial | refine ⟨rfl, ?_⟩)) ?_
    refine t_drawO 14 (by kernel_rfl) rfl ?_
    refine fk_val (Only.refl _) (fun wF hR => v_move rfl) ?_
    refine fk_val Only.refl' (fun wF hR => v_load rfl (S.pure hR).ld) ?_
    refine fk_val (Only.refl _) (fun wF hR => v_fieldAddr rfl (fo rfl)) ?_
    refine fk_val (Only.refl _) (fun wF hR => v_load1 rfl (sc rfl) (by first | exact (S.pure hR).c.cell _ rfl | assumption)) ?_
    refine fk_val (Only.refl _) (fun wF hR => v_fieldAddr rfl (fo rfl)) ?_
    refine fk_val (Only.refl _) (fun wF hR => v_load1 rfl (sc rfl) (by first | exact (S.pure hR).c.cell _ rfl | assumption)) ?_
    refine fk_val Only.refl' (fun wF hR => v_load rfl (S.pure hR).ldc) ?_
    refine fk_op st_s (fun wF hR => f13 rfl (S.pure hR).at_ hx.ok (by decide)) ?_
    refine fk_val (Only.refl _) (fun wF hR => v_fieldAddr rfl (fo rfl)) ?_
    refine fk_val (Only.refl _) (fun wF hR => v_load1 rfl (sc rfl) (by first | exact (S.pure hR).c.cell _ rfl | assumption)) ?_
    refine fk_val (Only.refl _) (fun wF hR => v_fieldAddr rfl (fo rfl)) ?_
    refine fk_val (Only.refl _) (fun wF hR => v_load1 rfl (sc rfl) (by first | exact (S.pure hR).c.cell _ rfl | assumption)) ?_
    refine fk_op st_s (fun wF hR => o_callMF (pre := [.tmp 140, .tmp 142, .tmp 144]) (post := [.tmp 148, .tmp 150, .const (.int .i64 32)]) rfl rfl rfl (en rfl) (fun A c _ hr => (S.pure hR).k25 hr)) ?_
    refine fk_op st_jp (fun wF hR => o_parts (ls := [expOf (hkOf k s b) q]) rt30 rfl rfl (by show 0 < 1; decide) (by show 1 ≤ 1000; decide) (fun a ha => ⟨ha.get (.tmp 151) (by simp [Op.operands]) _ rfl, trivial⟩)) ?_
    refine fk_nil (fun wA hwA => ?_)
    replace S := S.pure hwA
    refine x_open 152 rfl (fun u hu => ?_)
    refine x_weak [(139, .ex v), (152, .ex u), (2, .ex (pt w.heap.size 0)), (3, .ex (pt w1.heap.size 0))] (by repeat (first | exact trivial | refine ⟨rfl, ?_⟩)) ?_
    refine s_op (o_appZ rfl rfl S.row hu (by simp [keysOf, outs_length] <;> omega) S.newZ) rfl rfl ?_
    rintro v wB hwB hB
    replace S := S.appd hwB hB
    clear hB
    refine s_val (v_assign rfl) rfl ?_
    repeat (first | refine t_seq ?_ | refine t_region ?_ | refine s_nil ?_ | refine p_then ?_ | refine t_ret ?_ | refine p_then_ret ?_ | refine p_block_ret ?_ | refine t_block ?_ | refine t_exit ?_ | refine p_then_exit ?_ | refine p_block_exit ?_ | refine p_block ?_ | refine t_skip ?_)
    refine t_weak [(7, .ex v), (2, .ex (pt w.heap.size 0)), (3, .ex (pt w1.heap.size 0))] (by repeat (first | exact trivial | refine ⟨rfl, ?_⟩)) ?_
    refine t_drawO 13 (by kernel_rfl) rfl ?_
    refine fk_val (Only.refl _) (fun wF hR => v_move rfl) ?_
    refine fk_val Only.refl' (fun wF hR => v_load rfl (S.pure hR).ld) ?_
    refine fk_val (Only.refl _) (fun wF hR => v_fieldAddr rfl (fo rfl)) ?_
    refine fk_val (Only.refl _) (fun wF hR => v_load1 rfl (sc rfl) (by first | exact (S.pure hR).c.cell _ rfl | assumption)) ?_
    refine fk_val (Only.refl _) (fun wF hR => v_fieldAddr rfl (fo rfl)) ?_
    refine fk_val (Only.refl _) (fun wF hR => v_load1 rfl (sc rfl) (by first | exact (S.pure hR).c.cell _ rfl | assumption)) ?_
    refine fk_val Only.refl' (fun wF hR => v_load rfl (S.pure hR).ldc) ?_
    refine fk_op st_s (fun wF hR => f13 rfl (S.pure hR).at_ hx.ok (by decide)) ?_
    refine fk_op st_s (fun wF hR => o_callMF (pre := [.tmp 155, .tmp 157, .tmp 159]) (post := []) rfl rfl rfl (en rfl) (fun A c _ hr => (S.pure hR).k26 hr)) ?_
    refine fk_val Only.refl' (fun wF hR => v_load rfl (S.pure hR).ld) ?_
    refine fk_val Only.refl' (fun wF hR => v_load rfl (S.pure hR).ldc) ?_
    refine fk_op st_s (fun wF hR => o_call rfl (en rfl) (S.pure hR).k10) ?_
    refine fk_op st_jp (fun wF hR => o_parts (ls := [resOf (hkOf k s b) q, ticketOf (hkOf k s b) q]) rt30 rfl rfl (by show 0 < 2; decide) (by show 2 ≤ 1000; decide) (fun a ha => ⟨ha.get (.tmp 162) (by simp [Op.operands]) _ rfl, ha.get (.tmp 165) (by simp [Op.operands]) _ rfl, trivial⟩)) ?_
    refine fk_nil (fun wA hwA => ?_)
    replace S := S.pure hwA
    refine x_open 166 rfl (fun u hu => ?_)
    refine x_weak [(154, .ex v), (166, .ex u), (2, .ex (pt w.heap.size 0)), (3, .ex (pt w1.heap.size 0))] (by repeat (first | exact trivial | refine ⟨rfl, ?_⟩)) ?_
    refine s_op (o_appZ rfl rfl S.row hu (by simp [keysOf, outs_length] <;> omega) S.newZ) rfl rfl ?_
    rintro v wB hwB hB
    replace S := S.appd hwB hB
    clear hB
    refine s_val (v_assign rfl) rfl ?_
    repeat (first | refine t_seq ?_ | refine t_region ?_ | refine s_nil ?_ | refine p_then ?_ | refine t_ret ?_ | refine p_then_ret ?_ | refine p_block_ret ?_ | refine t_block ?_ | refine t_exit ?_ | refine p_then_exit ?_ | refine p_block_exit ?_ | refine p_block ?_ | refine t_skip ?_)
    exact ret1 rfl rfl ⟨_, rfl, S.z, S.row.jq⟩
end Go.Proofs.YtnaefgnjdmmmcaaGreatDoor
