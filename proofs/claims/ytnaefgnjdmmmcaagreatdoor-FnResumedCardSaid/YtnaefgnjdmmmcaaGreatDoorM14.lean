/-
  Proved: fnResumed_card : Rows.FnResumedCardSaid: of every hash and every two connections that come in, laws.FnResumed returns true, and what came in reads behind the call as it read before. Conditions: the card's own alone (the listed table starts as the program's text lays it, which the given tie shows); no further one. Parts: A region that draws its order, by an invariant of what has been done; a connection copied twice. laws.FnResumed. FnResumed: the row's statement and the card.
-/
import Derived.Test.YtnaefgnjdmmmcaaGreatDoorM13
/- A region that draws its order, by an invariant of what has been done; a connection copied twice. -/
namespace Go.Proofs.YtnaefgnjdmmmcaaGreatDoor
open Go.RowKit
set_option linter.unusedSimpArgs false
set_option linter.unusedVariables false
section
variable {P : Program} {N : Nat} {l : List Oper} {Q : Exit → Act → World → Prop}
theorem wpAny_inv (J : Array Bool → Act → World → Prop) (hb : ∀ i o, l[i]? = some o → ∀ e ∈ o.after, Region.binds .any e = true → e.on < i) (hsz : ∀ listed a w, J listed a w → listed.size = l.length)
    (step : ∀ i o listed a w, l[i]? = some o → listed.getD i false = false → (∀ e ∈ o.after, Region.binds .any e = true → listed.getD e.on false = true) → J listed a w → o.guard = none ∧ o.wp P a w (fun a' w' => J (listed.setIfInBounds i true) a' w') Q)
    (fin : ∀ listed a w, J listed a w → (∀ i, i < l.length → listed.getD i false = true) → Q .normal a w) :
    ∀ (fuel : Nat) (listed : Array Bool) (a : Act) (w : World), J listed a w → left l.length listed ≤ fuel → wpAny P .any l.toArray Q fuel listed a w := by
  have quiet : ∀ (listed : Array Bool) (a : Act) (w : World), J listed a w → Region.ready .any l.toArray listed = [] → Q .normal a w := by
    intro listed a w hJ hr
    refine fin listed a w hJ fun i hi => ?_
    refine Classical.byContradiction fun hn => ?_
    have hex : ∃ k, k < l.length ∧ listed.getD k false = false := ⟨i, hi, by cases hx : listed.getD i false with | true => exact absurd hx hn | false => rfl⟩
    obtain ⟨k, ⟨hk, hkl⟩, hmin⟩ := exists_least hex
    have hready : k ∈ Region.ready .any l.toArray listed := by
      refine mem_ready.2 ⟨?_, l[k], by simp, fun e he hbd => ?_⟩
      · rw [getD_of_size (by rw [hsz _ _ _ hJ]; exact hk) true false]; exact hkl
      · have hlt := hb k _ (List.getElem?_eq_getElem hk) e he hbd
        cases hx : listed.getD e.on false with
        | true => rfl
        | false => exact absurd (hmin e.on ⟨by omega, hx⟩) (by omega)
    rw [hr] at hready
    cases hready
  intro fuel
  induction fuel with
  | zero =>
    intro listed a w hJ hf
    have hnone : ∀ i, i < l.length → listed.getD i false = true := by
      intro i hi
      have h0 : left l.length listed = 0 := by omega
      have := List.countP_eq_zero.1 h0 i (List.mem_range.2 hi)
      simpa using this
    refine wpAny_done ?_ (fin listed a w hJ hnone) 0
    refine List.eq_nil_iff_forall_not_mem.2 fun i hi => ?_
    obtain ⟨h0, o, ho, _⟩ := mem_ready.1 hi
    have hi' : i < l.length := by have := (Array.getElem?_eq_some_iff.1 ho).1; simpa using this
    rw [getD_of_size (by rw [hsz _ _ _ hJ]; exact hi') true false, hnone i hi'] at h0
    cases h0
  | succ fuel ih =>
    intro listed a w hJ hf
    refine ⟨quiet listed a w hJ, fun i hi => ?_⟩
    obtain ⟨hi0, o, ho, hall⟩ := mem_ready.1 hi
    have ho' : l[i]? = some o := by simpa using ho
    have hil : i < l.length := (List.getElem?_eq_some_iff.1 ho').1
    rw [getD_of_size (by rw [hsz _ _ _ hJ]; exact hil) true false] at hi0
    obtain ⟨hg, hw⟩ := step i o listed a w ho' hi0 hall hJ
    unfold wpOp
    simp only [ho, Region.wanted, hg, if_true]
    refine .inl (Oper.wp_mono (fun a' w' h => ?_) hw)
    refine ih _ _ _ h ?_
    have : left l.length (listed.setIfInBounds i true) < left l.length listed := by
      refine countP_lt _ (fun x hx => ?_) ⟨i, List.mem_range.2 hil, by simp only [hi0]; rfl, by rw [getD_set_same (by rw [hsz _ _ _ hJ]; exact hil)]; rfl⟩
      by_cases hxi : i = x
      · subst hxi; rw [hi0]; rfl
      · rw [getD_set_ne false hxi] at hx; exact hx
    omega
theorem t_any {id : Nat} {Γ : Env} {w : World} (hm : P.follows .mixedOrders = true) (J : Array Bool → Act → World → Prop) (hb : ∀ i o, l[i]? = some o → ∀ e ∈ o.after, Region.binds .any e = true → e.on < i) (hsz : ∀ listed a w, J listed a w → listed.size = l.length)
    (step : ∀ i o listed a w, l[i]? = some o → listed.getD i false = false → (∀ e ∈ o.after, Region.binds .any e = true → listed.getD e.on false = true) → J listed a w → o.guard = none ∧ o.wp P a w (fun a' w' => J (listed.setIfInBounds i true) a' w') Q)
    (fin : ∀ listed a w, J listed a w → (∀ i, i < l.length → listed.getD i false = true) → Q .normal a w)
    (init : ∀ a, Sat N Γ a w → J (Array.replicate l.length false) a w.drew) : Tr P N (.region id l.toArray true) Q Γ w := fun a ha => by
  refine wp_region_any hm ?_
  have h0 : left l.length (Array.replicate l.length false) ≤ l.length := by
    unfold left
    refine Nat.le_trans List.countP_le_length ?_
    simp
  have := wpAny_inv J hb hsz step fin l.length _ a w.drew (init a ha) h0
  simpa using this
/-- Each operation waits for earlier ones alone. -/
def afterOk (l : List Oper) : Bool := (List.range l.length).all fun i => match l[i]? with | none => false | some o => o.after.all fun e => !Region.binds .any e || Nat.blt e.on i
theorem afterOk_spec {l : List Oper} (h : afterOk l = true) : ∀ i o, l[i]? = some o → ∀ e ∈ o.after, Region.binds .any e = true → e.on < i := by
  intro i o ho e he hb
  have hi := (List.getElem?_eq_some_iff.1 ho).1
  have h4 := List.all_eq_true.1 h i (List.mem_range.2 hi)
  rw [ho] at h4
  have h5 := Array.all_eq_true_iff_forall_mem.1 h4 e he
  simp only [hb, Bool.not_true, Bool.false_or] at h5
  exact Nat.le_of_ble_eq_true h5
theorem sat_add {N : Nat} {Γ : Env} {a : Act} {w : World} {t : Nat} {v : Value} (h : Sat N Γ a w) (e : look a t = v) : Sat N ((t, .ex v) :: Γ) a w :=
  ⟨h.size, h.defers, fun t' s hs => by
    by_cases ht : t = t'
    · subst ht; rw [Env.find_cons_same] at hs; cases hs; exact e
    · rw [Env.find_cons_ne _ ht] at hs; exact h.get t' s hs⟩
end
end Go.Proofs.YtnaefgnjdmmmcaaGreatDoor
/- laws.FnResumed. -/
namespace Go.Proofs.YtnaefgnjdmmmcaaGreatDoor
open Go.RowKit
set_option linter.unusedSimpArgs false
set_option linter.unusedVariables false
theorem zc27' : ∃ cs, zeroCells Tryz.prog 27 = some cs ∧ cs.size = 13 := by
  have h := zc27
  cases hz : zeroCells Tryz.prog 27 with
  | none => rw [hz] at h; cases h
  | some cs => rw [hz] at h; exact ⟨cs, rfl, by simpa using h⟩
/-- A guarded operation whose guard says yes; its world moves. -/
theorem s_yes_op {P : Program} {N : Nat} {Γ : Env} {w : World} {Q : Exit → Act → World → Prop} {rest : List Oper} {l : List Oper} {d j t : Nat} {b : Bool} {op : Op} {ty : TypeId} {pos : String} {af : Array Edge} {R : World → World → Prop} {S : Pred} (hj : ((l.toArray)[j]?).bind (·.dst) = some t) (ht : Γ.find t = some (.ex (.bool b)))
    (h : OpAt P N Γ w ⟨some d, op, ty, pos, af, some (j, b)⟩ R S) (hd : Nat.blt d N = true) (hΓ : Γ.exact = true)
    (K : ∀ v w', R w w' → S v w' → RunX P N l.toArray Q ((d, .ex v) :: Γ) rest w') : RunX P N l.toArray Q Γ (⟨some d, op, ty, pos, af, some (j, b)⟩ :: rest) w := fun a ha => by
  have hy := yielded_of ha hj ht
  simp only [wpList, Region.wanted, hy, beq_self_eq_true, if_true]
  exact .inl (h a (ha.on _) _ _ fun v w' h1 h2 => K v w' h1 h2 _ (ha.put (Nat.le_of_ble_eq_true hd) (fun t s ht u hu => Env.exact_stable (fun _ _ => True) hΓ t s ht u _ _ hu trivial) rfl))
/-- The second connection, copied into two variables. -/
structure B5 (r : Conn) (hb cb db : Nat) (w : World) (b0 b1 b2 b3 b4 b5 : Bool) (a : Act) (w' : World) : Prop where
  sat : Sat 51 [(3, .ex (pt hb 0)), (4, .ex (pt cb 0)), (5, .ex (pt db 0))] a w'
  z : Only [] w w'
  l0 : b0 = true → look a 25 = .agg r.cells
  l1 : b1 = true → look a 26 = .agg r.cells
  l2 : b2 = true → ∃ g cs, look a 7 = pt g 0 ∧ w.heap.size ≤ g ∧ Blk w' g 27 cs ∧ cs.size = 13 ∧ (b4 = true → cs = r.cells)
  l3 : b3 = true → ∃ g cs, look a 8 = pt g 0 ∧ w.heap.size ≤ g ∧ Blk w' g 27 cs ∧ cs.size = 13 ∧ (b5 = true → cs = r.cells)
  ne : b2 = true → b3 = true → look a 7 ≠ look a 8
  c4 : b4 = true → b2 = true ∧ b3 = true
  c5 : b5 = true → b4 = true
def J5 (r : Conn) (hb cb db : Nat) (w : World) (listed : Array Bool) (a : Act) (w' : World) : Prop := ∃ b0 b1 b2 b3 b4 b5, listed = #[b0, b1, b2, b3, b4, b5] ∧ B5 r hb cb db w b0 b1 b2 b3 b4 b5 a w'
section
variable {r : Conn} {hb cb db : Nat} {w w' w'' : World} {b0 b1 b2 b3 b4 b5 : Bool} {a : Act} {v : Value} {g : Nat} {cs : Array Value}
theorem sat_put3 {d : Nat} (h : Sat 51 [(3, .ex (pt hb 0)), (4, .ex (pt cb 0)), (5, .ex (pt db 0))] a w') (hd : d < 51) (h3 : 3 ≠ d) (h4 : 4 ≠ d) (h5 : 5 ≠ d) : Sat 51 [(3, .ex (pt hb 0)), (4, .ex (pt cb 0)), (5, .ex (pt db 0))] (a.put (some d) v) w'' := by
  have hp := h.put (w' := w'') (d := d) (s := .ex v) (v := v) hd (fun t s ht u hu => Env.exact_stable (fun _ _ => True) (Γ := [(3, .ex (pt hb 0)), (4, .ex (pt cb 0)), (5, .ex (pt db 0))]) rfl t s ht u _ _ hu trivial) rfl
  refine ⟨hp.size, hp.defers, fun t s ht => hp.get t s ?_⟩
  rw [Env.find_cons_ne]
  · exact ht
  · rintro rfl
    simp only [Env.find] at ht
    have e3 : Nat.beq 3 d = false := by cases hx : Nat.beq 3 d with | false => rfl | true => exact absurd (Nat.eq_of_beq_eq_true hx) h3
    have e4 : Nat.beq 4 d = false := by cases hx : Nat.beq 4 d with | false => rfl | true => exact absurd (Nat.eq_of_beq_eq_true hx) h4
    have e5 : Nat.beq 5 d = false := by cases hx : Nat.beq 5 d with | false => rfl | true => exact absurd (Nat.eq_of_beq_eq_true hx) h5
    rw [e3, e4, e5] at ht
    cases ht
theorem sat_mv (h : Sat 51 [(3, .ex (pt hb 0)), (4, .ex (pt cb 0)), (5, .ex (pt db 0))] a w') : Sat 51 [(3, .ex (pt hb 0)), (4, .ex (pt cb 0)), (5, .ex (pt db 0))] a w'' :=
  ⟨h.size, h.defers, fun t s ht => Env.exact_stable (fun _ _ => True) (Γ := [(3, .ex (pt hb 0)), (4, .ex (pt cb 0)), (5, .ex (pt db 0))]) rfl t s ht _ _ _ (h.get t s ht) trivial⟩
theorem B5.s0 (h : B5 r hb cb db w b0 b1 b2 b3 b4 b5 a w') : B5 r hb cb db w true b1 b2 b3 b4 b5 (a.put (some 25) (.agg r.cells)) w' := by
  have hs : 25 < a.tmps.size := by rw [h.sat.size]; decide
  have e : ∀ t, 25 ≠ t → look (a.put (some 25) (.agg r.cells)) t = look a t := fun t ht => look_put_ne ht _
  refine ⟨sat_put3 h.sat (by decide) (by decide) (by decide) (by decide), h.z, fun _ => look_put_same hs _, ?_, ?_, ?_, ?_, h.c4, h.c5⟩
  · rw [e 26 (by decide)]; exact h.l1
  · rw [e 7 (by decide)]; exact h.l2
  · rw [e 8 (by decide)]; exact h.l3
  · rw [e 7 (by decide), e 8 (by decide)]; exact h.ne
theorem B5.s1 (h : B5 r hb cb db w b0 b1 b2 b3 b4 b5 a w') : B5 r hb cb db w b0 true b2 b3 b4 b5 (a.put (some 26) (.agg r.cells)) w' := by
  have hs : 26 < a.tmps.size := by rw [h.sat.size]; decide
  have e : ∀ t, 26 ≠ t → look (a.put (some 26) (.agg r.cells)) t = look a t := fun t ht => look_put_ne ht _
  refine ⟨sat_put3 h.sat (by decide) (by decide) (by decide) (by decide), h.z, ?_, fun _ => look_put_same hs _, ?_, ?_, ?_, h.c4, h.c5⟩
  · rw [e 25 (by decide)]; exact h.l0
  · rw [e 7 (by decide)]; exact h.l2
  · rw [e 8 (by decide)]; exact h.l3
  · rw [e 7 (by decide), e 8 (by decide)]; exact h.ne
theorem B5.s2 (h : B5 r hb cb db w b0 b1 b2 b3 b4 b5 a w') (h2 : b2 = false) (k : Only [] w' w'') (hB : Blk w'' w'.heap.size 27 cs) (hc : cs.size = 13) : B5 r hb cb db w b0 b1 true b3 b4 b5 (a.put (some 7) (pt w'.heap.size 0)) w'' := by
  have hs : 7 < a.tmps.size := by rw [h.sat.size]; decide
  have e : ∀ t, 7 ≠ t → look (a.put (some 7) (pt w'.heap.size 0)) t = look a t := fun t ht => look_put_ne ht _
  have h4 : b4 = true → False := fun h4 => by have := (h.c4 h4).1; rw [h2] at this; cases this
  refine ⟨sat_put3 h.sat (by decide) (by decide) (by decide) (by decide), h.z.trans k, ?_, ?_, fun _ => ⟨w'.heap.size, cs, look_put_same hs _, h.z.size, hB, hc, fun hh => (h4 hh).elim⟩, ?_, ?_, fun hh => (h4 hh).elim, h.c5⟩
  · rw [e 25 (by decide)]; exact h.l0
  · rw [e 26 (by decide)]; exact h.l1
  · rw [e 8 (by decide)]
    intro h3
    obtain ⟨g, cs', e1, e2, e3, e4, e5⟩ := h.l3 h3
    exact ⟨g, cs', e1, e2, e3.only k (by simp), e4, e5⟩
  · intro _ h3
    obtain ⟨g, cs', e1, e2, e3, e4, e5⟩ := h.l3 h3
    rw [look_put_same hs _, e 8 (by decide), e1]
    intro hh
    injection hh with hh
    injection hh with hh
    injection hh with hh
    have := e3.lt
    omega
theorem B5.s3 (h : B5 r hb cb db w b0 b1 b2 b3 b4 b5 a w') (h2 : b3 = false) (k : Only [] w' w'') (hB : Blk w'' w'.heap.size 27 cs) (hc : cs.size = 13) : B5 r hb cb db w b0 b1 b2 true b4 b5 (a.put (some 8) (pt w'.heap.size 0)) w'' := by
  have hs : 8 < a.tmps.size := by rw [h.sat.size]; decide
  have e : ∀ t, 8 ≠ t → look (a.put (some 8) (pt w'.heap.size 0)) t = look a t := fun t ht => look_put_ne ht _
  have h4 : b4 = true → False := fun h4 => by have := (h.c4 h4).2; rw [h2] at this; cases this
  refine ⟨sat_put3 h.sat (by decide) (by decide) (by decide) (by decide), h.z.trans k, ?_, ?_, ?_, fun _ => ⟨w'.heap.size, cs, look_put_same hs _, h.z.size, hB, hc, fun hh => (h4 (h.c5 hh)).elim⟩, ?_, fun hh => (h4 hh).elim, h.c5⟩
  · rw [e 25 (by decide)]; exact h.l0
  · rw [e 26 (by decide)]; exact h.l1
  · rw [e 7 (by decide)]
    intro h3
    obtain ⟨g, cs', e1, e2, e3, e4, e5⟩ := h.l2 h3
    exact ⟨g, cs', e1, e2, e3.only k (by simp), e4, e5⟩
  · intro h3 _
    obtain ⟨g, cs', e1, e2, e3, e4, e5⟩ := h.l2 h3
    rw [look_put_same hs _, e 7 (by decide), e1]
    intro hh
    injection hh with hh
    injection hh with hh
    injection hh with hh
    have := e3.lt
    omega
theorem B5.s4 (h : B5 r hb cb db w b0 b1 b2 b3 b4 b5 a w') (h2 : b2 = true) (h3 : b3 = true) (h5 : b5 = false) : ∃ g cs, look a 7 = pt g 0 ∧ Blk w' g 27 cs ∧ cs.size = 13 ∧ B5 r hb cb db w b0 b1 b2 b3 true b5 a (w'.setRow g r.cells) := by
  obtain ⟨g, cs, e1, e2, e3, e4, e5⟩ := h.l2 h2
  obtain ⟨g', cs', f1, f2, f3, f4, f5⟩ := h.l3 h3
  have hk := Only.setRow w' g r.cells
  have hne : g' ≠ g := by rintro rfl; exact h.ne h2 h3 (by rw [e1, f1])
  refine ⟨g, cs, e1, e3, e4, sat_mv h.sat, h.z.trans_new hk (by simp; omega), h.l0, h.l1, fun _ => ⟨g, r.cells, e1, e2, e3.setRow _, rfl, fun _ => rfl⟩, fun _ => ⟨g', cs', f1, f2, f3.only hk (by simpa using hne), f4, f5⟩, h.ne, fun _ => ⟨h2, h3⟩, fun _ => rfl⟩
theorem B5.s5 (h : B5 r hb cb db w b0 b1 b2 b3 b4 b5 a w') (h4 : b4 = true) : ∃ g cs, look a 8 = pt g 0 ∧ Blk w' g 27 cs ∧ cs.size = 13 ∧ B5 r hb cb db w b0 b1 b2 b3 b4 true a (w'.setRow g r.cells) := by
  obtain ⟨h2, h3⟩ := h.c4 h4
  obtain ⟨g, cs, e1, e2, e3, e4, e5⟩ := h.l2 h2
  obtain ⟨g', cs', f1, f2, f3, f4, f5⟩ := h.l3 h3
  have hk := Only.setRow w' g' r.cells
  have hne : g ≠ g' := by rintro rfl; exact h.ne h2 h3 (by rw [e1, f1])
  exact ⟨g', cs', f1, f3, f4, sat_mv h.sat, h.z.trans_new hk (by simp; omega), h.l0, h.l1, fun _ => ⟨g, cs, e1, e2, e3.only hk (by simpa using hne), e4, e5⟩, fun _ => ⟨g', r.cells, f1, f2, f3.setRow _, rfl, fun _ => rfl⟩, h.ne, h.c4, fun _ => h4⟩
theorem cells_one (q : Conn) : ∀ v ∈ q.cells.toList, v.oneCell' = true := fun v hv => by
  simp only [Conn.cells, List.mem_cons, List.not_mem_nil, or_false] at hv
  rcases hv with rfl | rfl | rfl | rfl | rfl | rfl | rfl | rfl | rfl | rfl | rfl | rfl | rfl <;> rfl
/-- A whole connection stored. -/
theorem run_storeConn {t7 t25 : Nat} {d : Option Tmp} {ty : TypeId} {pos : String} {af : Array Edge} {gd : Option (Nat × Bool)} (h7 : look a t7 = pt g 0) (h25 : look a t25 = .agg r.cells) (hB : Blk w' g 27 cs) (hc : cs.size = 13) :
    (execOp a.eval ⟨d, .store 27 (.tmp t7) (.tmp t25), ty, pos, af, gd⟩).run Tryz.prog w' = .ok .skip (w'.setRow g r.cells) := by
  have h1 : a.eval (.tmp t7) = pt g 0 := h7
  have h2 : a.eval (.tmp t25) = .agg r.cells := h25
  simp only [execOp, h1, h2, Instr.storeAt, Instr.sureAddr, Sem.run_bind, Sem.run_pure, Result.andThen_ok, run_storeVar_whole (t := 27) (si rfl) hB (hc.trans rfl) (cells_one r)]
end
section
variable {P : Program} {N : Nat} {Γ : Env} {a : Act} {w : World} {o : Oper} {v : Value} {K : Act → World → Prop} {Q : Exit → Act → World → Prop} {R : World → World → Prop} {S : Pred}
theorem val_step (h : ValAt P N Γ w o v) (ha : Sat N Γ a w) (hK : K (a.put o.dst v) w) : o.wp P a w K Q := by
  unfold Oper.wp
  rw [h a (ha.on _)]
  exact hK
theorem op_step (h : OpAt P N Γ w o R S) (ha : Sat N Γ a w) (hK : ∀ v w', R w w' → S v w' → K (a.put o.dst v) w') : o.wp P a w K Q := h a (ha.on _) K Q hK
theorem skip_step {w' : World} (h : (execOp a.eval o).run P w = .ok .skip w') (hK : K (a.put o.dst undef) w') : o.wp P a w K Q := by
  unfold Oper.wp
  rw [h]
  exact hK
end
theorem post_use {N : Nat} {Q : Exit → Act → World → Prop} {e : Exit} {Γ : Env} {w : World} (h : Post N Q e Γ w) (a : Act) (ha : Sat N Γ a w) : Q e a w := h a ha
attribute [local irreducible] ValAt OpAt RunX Tr Post FlowK
theorem ticket_len (k s b : Int) (q : Conn) : (ticketOf (hkOf k s b) q).length ≤ 4096 := by
  have : (ticketOf (hkOf k s b) q).length = (hkOf k s b).size := expand_length (hkOf_ok k s b) _ _ _
  rw [this]
  exact Nat.le_trans (HK.size_le (hkOf_ok k s b)) (by decide)
theorem o_allocG {P : Program} {N : Nat} {Γ : Env} {w : World} {d : Option Tmp} {ty : TypeId} {pos : String} {af : Array Edge} {gd : Option (Nat × Bool)} {t : TypeId} (hz : ∃ cs, zeroCells P t = some cs ∧ cs.size = 13) : OpAt P N Γ w ⟨d, .alloc t, ty, pos, af, gd⟩ (Only []) (fun v w' => v = pt w.heap.size 0 ∧ ∃ cs, Blk w' w.heap.size t cs ∧ cs.size = 13) := by
  obtain ⟨cs, h1, h2⟩ := hz
  exact opAt_mono (o_alloc h1) (fun _ h => h) (fun v w' _ h => ⟨h.1, cs, h.2, h2⟩)
theorem o_allocC {N : Nat} {Γ : Env} {w : World} {d : Option Tmp} {ty : TypeId} {pos : String} {af : Array Edge} {gd : Option (Nat × Bool)} : OpAt Tryz.prog N Γ w ⟨d, .alloc 27, ty, pos, af, gd⟩ (Only []) (fun v w' => v = pt w.heap.size 0 ∧ ∃ cs, Blk w' w.heap.size 27 cs ∧ cs.size = 13) := o_allocG zc27'
/-- What reads as bytes lies in no connection's block. -/
theorem off_conn {w : World} {A : Option Addr} {l : Bytes} {ps : List Nat} (hl : l ≠ []) (h : Rd w A l) (hp : ∀ g ∈ ps, ∃ r : Conn, Blk w g 27 r.cells) : Off A ps := by
  obtain ⟨g, i, rfl, _, hc⟩ := h hl
  refine Off.pt fun hm => ?_
  obtain ⟨r, hB⟩ := hp g hm
  obtain ⟨b, t, rfl⟩ := List.exists_cons_of_ne_nil hl
  have h0 := hc 0 b rfl
  have h1 : r.cells[i + 0]? = some (B b) := by rw [← h0, World.cell?, hB]; rfl
  have h2 := Array.mem_of_getElem? h1
  simp only [Conn.cells, List.mem_toArray, List.mem_cons, List.not_mem_nil, or_false] at h2
  rcases h2 with h | h | h | h | h | h | h | h | h | h | h | h | h <;> cases h
/-- The second connection with the ticket's key. -/
theorem Cx.resumed {r : Conn} {w : World} (h : Cx r w) {A : Option Addr} {c : Nat} {l : Bytes} (hr : Rd w A l) (hc : l.length ≤ c) (hl : l.length ≤ 4096) : Cx { r with psk := ⟨A, c, l⟩ } w :=
  ⟨⟨hr, hc, h.at_.shared, h.at_.sharedc, h.at_.ms, h.at_.ctx, h.at_.ctxc, h.at_.nonce, h.at_.noncec⟩, ⟨hl, h.ok.shared, h.ok.msgs, h.ok.lab1, h.ok.lab, h.ok.ctx, h.ok.nonce, h.ok.upd0, h.ok.upd⟩, h.K, h.pos⟩
set_option maxRecDepth 20000 in
set_option maxHeartbeats 4000000 in
/-- laws.FnResumed -/
theorem c4 (k s b : Int) (q r : Conn) (w : World) (hq : q.At w) (hr : r.At w) (hK : KT w) (hw0 : 0 < w.heap.size) : Calls Tryz.prog 4 #[hv k s b, .agg q.cells, .agg r.cells] w (Ret [] w fun v _ => v = .bool true) := by
  refine enter (N := 51) (Γ := [(0, .ex (hv k s b)), (1, .ex (.agg q.cells)), (2, .ex (.agg r.cells))]) Tryz.func4 rfl rfl rfl ⟨⟨_, rfl, rfl⟩, ⟨_, rfl, rfl⟩, ⟨_, rfl, rfl⟩, trivial⟩ ?_
  repeat (first | refine t_seq ?_ | refine t_region ?_ | refine s_nil ?_ | refine p_then ?_ | refine t_ret ?_ | refine p_then_ret ?_ | refine p_block_ret ?_ | refine t_block ?_ | refine t_exit ?_ | refine p_then_exit ?_ | refine p_block_exit ?_ | refine p_block ?_ | refine t_skip ?_)
  refine s_op (o_box rfl) rfl rfl ?_
  rintro _ w1 hw1 ⟨rfl, hB1⟩
  refine s_op (o_box rfl) rfl rfl ?_
  rintro _ w2 hw2 ⟨rfl, hB2⟩
  refine s_op (o_box rfl) rfl rfl ?_
  rintro _ w3 hw3 ⟨rfl, hB3⟩
  refine s_val (v_assign rfl) rfl ?_
  have hH : Blk w3 w.heap.size 23 (hv k s b).cells := hB1.only (hw2.trans hw3) (by simp)
  have hC : Blk w3 w1.heap.size 27 q.cells := hB2.only hw3 (by simp)
  have hD : Blk w3 w2.heap.size 27 r.cells := hB3
  have hz := hw1.trans (hw2.trans hw3)
  clear hB1 hB2 hB3
  repeat (first | refine t_seq ?_ | refine t_region ?_ | refine s_nil ?_ | refine p_then ?_ | refine t_ret ?_ | refine p_then_ret ?_ | refine p_block_ret ?_ | refine t_block ?_ | refine t_exit ?_ | refine p_then_exit ?_ | refine p_block_exit ?_ | refine p_block ?_ | refine t_skip ?_)
  refine s_val (v_load rfl (ld27 hC)) rfl ?_
  refine s_op (o_call rfl (en rfl) (c5 q w3)) rfl rfl ?_
  rintro _ w4 hw4 ⟨b1, rfl⟩
  replace hz := hz.trans hw4
  replace hH := hH.only hw4 (by simp)
  replace hC := hC.only hw4 (by simp)
  replace hD := hD.only hw4 (by simp)
  cases b1
  case false =>
    refine s_val (v_bool_not rfl) rfl ?_
    refine s_val (v_move rfl) rfl ?_
    refine s_no rfl rfl rfl rfl ?_
    refine s_no rfl rfl rfl rfl ?_
    refine s_no rfl rfl rfl rfl ?_
    refine s_val (v_pick rfl rfl rfl) rfl ?_
    repeat (first | refine t_seq ?_ | refine t_region ?_ | refine s_nil ?_ | refine p_then ?_ | refine t_ret ?_ | refine p_then_ret ?_ | refine p_block_ret ?_ | refine t_block ?_ | refine t_exit ?_ | refine p_then_exit ?_ | refine p_block_exit ?_ | refine p_block ?_ | refine t_skip ?_)
    refine t_true rfl ?_
    repeat (first | refine t_seq ?_ | refine t_region ?_ | refine s_nil ?_ | refine p_then ?_ | refine t_ret ?_ | refine p_then_ret ?_ | refine p_block_ret ?_ | refine t_block ?_ | refine t_exit ?_ | refine p_then_exit ?_ | refine p_block_exit ?_ | refine p_block ?_ | refine t_skip ?_)
    refine s_val (v_assign rfl) rfl ?_
    repeat (first | refine t_seq ?_ | refine t_region ?_ | refine s_nil ?_ | refine p_then ?_ | refine t_ret ?_ | refine p_then_ret ?_ | refine p_block_ret ?_ | refine t_block ?_ | refine t_exit ?_ | refine p_then_exit ?_ | refine p_block_exit ?_ | refine p_block ?_ | refine t_skip ?_)
    exact ret1 rfl rfl ⟨_, rfl, hz, rfl⟩
  refine s_val (v_bool_not rfl) rfl ?_
  refine s_val (v_move rfl) rfl ?_
  refine s_yes rfl rfl (v_load rfl (ld27 hD)) rfl ?_
  refine s_yes_op rfl rfl (o_call rfl (en rfl) (c5 r w4)) rfl rfl ?_
  rintro _ w5 hw5 ⟨b2, rfl⟩
  first | refine s_yes rfl rfl (v_bool_not rfl) rfl ?_ | refine s_no rfl rfl rfl rfl ?_ | refine s_no_undef rfl rfl rfl ?_
  refine s_val (v_pick rfl rfl rfl) rfl ?_
  replace hz := hz.trans hw5
  replace hH := hH.only hw5 (by simp)
  replace hC := hC.only hw5 (by simp)
  replace hD := hD.only hw5 (by simp)
  cases b2
  case false =>
    repeat (first | refine t_seq ?_ | refine t_region ?_ | refine s_nil ?_ | refine p_then ?_ | refine t_ret ?_ | refine p_then_ret ?_ | refine p_block_ret ?_ | refine t_block ?_ | refine t_exit ?_ | refine p_then_exit ?_ | refine p_block_exit ?_ | refine p_block ?_ | refine t_skip ?_)
    refine t_true rfl ?_
    repeat (first | refine t_seq ?_ | refine t_region ?_ | refine s_nil ?_ | refine p_then ?_ | refine t_ret ?_ | refine p_then_ret ?_ | refine p_block_ret ?_ | refine t_block ?_ | refine t_exit ?_ | refine p_then_exit ?_ | refine p_block_exit ?_ | refine p_block ?_ | refine t_skip ?_)
    refine s_val (v_assign rfl) rfl ?_
    repeat (first | refine t_seq ?_ | refine t_region ?_ | refine s_nil ?_ | refine p_then ?_ | refine t_ret ?_ | refine p_then_ret ?_ | refine p_block_ret ?_ | refine t_block ?_ | refine t_exit ?_ | refine p_then_exit ?_ | refine p_block_exit ?_ | refine p_block ?_ | refine t_skip ?_)
    exact ret1 rfl rfl ⟨_, rfl, hz, rfl⟩
  repeat (first | refine t_seq ?_ | refine t_region ?_ | refine s_nil ?_ | refine p_then ?_ | refine t_ret ?_ | refine p_then_ret ?_ | refine p_block_ret ?_ | refine t_block ?_ | refine t_exit ?_ | refine p_then_exit ?_ | refine p_block_exit ?_ | refine p_block ?_ | refine t_skip ?_)
  refine t_false rfl ?_
  refine t_skip ?_
  repeat (first | refine t_seq ?_ | refine t_region ?_ | refine s_nil ?_ | refine p_then ?_ | refine t_ret ?_ | refine p_then_ret ?_ | refine p_block_ret ?_ | refine t_block ?_ | refine t_exit ?_ | refine p_then_exit ?_ | refine p_block_exit ?_ | refine p_block ?_ | refine t_skip ?_)
  refine s_val (v_load rfl (ld27 hC)) rfl ?_
  refine s_op (o_call rfl (en rfl) (c6 q w5)) rfl rfl ?_
  rintro _ w6 hw6 ⟨b1, rfl, hf1⟩
  replace hz := hz.trans hw6
  replace hH := hH.only hw6 (by simp)
  replace hC := hC.only hw6 (by simp)
  replace hD := hD.only hw6 (by simp)
  cases b1
  case false =>
    refine s_val (v_bool_not rfl) rfl ?_
    refine s_val (v_move rfl) rfl ?_
    refine s_no rfl rfl rfl rfl ?_
    refine s_no rfl rfl rfl rfl ?_
    refine s_no rfl rfl rfl rfl ?_
    refine s_val (v_pick rfl rfl rfl) rfl ?_
    repeat (first | refine t_seq ?_ | refine t_region ?_ | refine s_nil ?_ | refine p_then ?_ | refine t_ret ?_ | refine p_then_ret ?_ | refine p_block_ret ?_ | refine t_block ?_ | refine t_exit ?_ | refine p_then_exit ?_ | refine p_block_exit ?_ | refine p_block ?_ | refine t_skip ?_)
    refine t_true rfl ?_
    repeat (first | refine t_seq ?_ | refine t_region ?_ | refine s_nil ?_ | refine p_then ?_ | refine t_ret ?_ | refine p_then_ret ?_ | refine p_block_ret ?_ | refine t_block ?_ | refine t_exit ?_ | refine p_then_exit ?_ | refine p_block_exit ?_ | refine p_block ?_ | refine t_skip ?_)
    refine s_val (v_assign rfl) rfl ?_
    repeat (first | refine t_seq ?_ | refine t_region ?_ | refine s_nil ?_ | refine p_then ?_ | refine t_ret ?_ | refine p_then_ret ?_ | refine p_block_ret ?_ | refine t_block ?_ | refine t_exit ?_ | refine p_then_exit ?_ | refine p_block_exit ?_ | refine p_block ?_ | refine t_skip ?_)
    exact ret1 rfl rfl ⟨_, rfl, hz, rfl⟩
  refine s_val (v_bool_not rfl) rfl ?_
  refine s_val (v_move rfl) rfl ?_
  refine s_yes rfl rfl (v_load rfl (ld27 hD)) rfl ?_
  refine s_yes_op rfl rfl (o_call rfl (en rfl) (c6 r w6)) rfl rfl ?_
  rintro _ w7 hw7 ⟨b2, rfl, hf2⟩
  first | refine s_yes rfl rfl (v_bool_not rfl) rfl ?_ | refine s_no rfl rfl rfl rfl ?_ | refine s_no_undef rfl rfl rfl ?_
  refine s_val (v_pick rfl rfl rfl) rfl ?_
  replace hz := hz.trans hw7
  replace hH := hH.only hw7 (by simp)
  replace hC := hC.only hw7 (by simp)
  replace hD := hD.only hw7 (by simp)
  cases b2
  case false =>
    repeat (first | refine t_seq ?_ | refine t_region ?_ | refine s_nil ?_ | refine p_then ?_ | refine t_ret ?_ | refine p_then_ret ?_ | refine p_block_ret ?_ | refine t_block ?_ | refine t_exit ?_ | refine p_then_exit ?_ | refine p_block_exit ?_ | refine p_block ?_ | refine t_skip ?_)
    refine t_true rfl ?_
    repeat (first | refine t_seq ?_ | refine t_region ?_ | refine s_nil ?_ | refine p_then ?_ | refine t_ret ?_ | refine p_then_ret ?_ | refine p_block_ret ?_ | refine t_block ?_ | refine t_exit ?_ | refine p_then_exit ?_ | refine p_block_exit ?_ | refine p_block ?_ | refine t_skip ?_)
    refine s_val (v_assign rfl) rfl ?_
    repeat (first | refine t_seq ?_ | refine t_region ?_ | refine s_nil ?_ | refine p_then ?_ | refine t_ret ?_ | refine p_then_ret ?_ | refine p_block_ret ?_ | refine t_block ?_ | refine t_exit ?_ | refine p_then_exit ?_ | refine p_block_exit ?_ | refine p_block ?_ | refine t_skip ?_)
    exact ret1 rfl rfl ⟨_, rfl, hz, rfl⟩
  have hxq : Cx q w7 := Cx.pure ⟨hq, (hf1.1 rfl).ok, hK, hw0⟩ hz
  have hxr : Cx r w7 := Cx.pure ⟨hr, (hf2.1 rfl).ok, hK, hw0⟩ hz
  clear hf1 hf2 hq hr
  repeat (first | refine t_seq ?_ | refine t_region ?_ | refine s_nil ?_ | refine p_then ?_ | refine t_ret ?_ | refine p_then_ret ?_ | refine p_block_ret ?_ | refine t_block ?_ | refine t_exit ?_ | refine p_then_exit ?_ | refine p_block_exit ?_ | refine p_block ?_ | refine t_skip ?_)
  refine t_false rfl ?_
  refine t_skip ?_
  repeat (first | refine t_seq ?_ | refine t_region ?_ | refine s_nil ?_ | refine p_then ?_ | refine t_ret ?_ | refine p_then_ret ?_ | refine p_block_ret ?_ | refine t_block ?_ | refine t_exit ?_ | refine p_then_exit ?_ | refine p_block_exit ?_ | refine p_block ?_ | refine t_skip ?_)
  refine t_weak [(3, .ex (pt w.heap.size 0)), (4, .ex (pt w1.heap.size 0)), (5, .ex (pt w2.heap.size 0))] (by repeat (first | exact trivial | refine ⟨rfl, ?_⟩)) ?_
  refine t_any hmix (J5 r w.heap.size w1.heap.size w2.heap.size w7) (afterOk_spec (by kernel_rfl)) ?_ ?_ ?_ ?_
  · rintro listed a w' ⟨b0, b1, b2, b3, b4, b5, rfl, _⟩
    rfl
  · rintro i o listed a w' ho hun hall ⟨b0, b1, b2, b3, b4, b5, rfl, hB⟩
    have hi : i < 6 := (List.getElem?_eq_some_iff.1 ho).1
    have hD' := hD.only hB.z (by simp)
    rcases (by omega : i = 0 ∨ i = 1 ∨ i = 2 ∨ i = 3 ∨ i = 4 ∨ i = 5) with rfl | rfl | rfl | rfl | rfl | rfl
    · obtain rfl := Option.some.inj ho
      exact ⟨rfl, val_step (v_load rfl (ld27 hD')) hB.sat ⟨true, b1, b2, b3, b4, b5, rfl, hB.s0⟩⟩
    · obtain rfl := Option.some.inj ho
      exact ⟨rfl, val_step (v_load rfl (ld27 hD')) hB.sat ⟨b0, true, b2, b3, b4, b5, rfl, hB.s1⟩⟩
    · obtain rfl := Option.some.inj ho
      refine ⟨rfl, ?_⟩
      refine op_step o_allocC hB.sat ?_
      rintro _ w'' k' ⟨rfl, cz, hB', hczs⟩
      exact ⟨b0, b1, true, b3, b4, b5, rfl, hB.s2 hun k' hB' hczs⟩
    · obtain rfl := Option.some.inj ho
      refine ⟨rfl, ?_⟩
      refine op_step o_allocC hB.sat ?_
      rintro _ w'' k' ⟨rfl, cz, hB', hczs⟩
      exact ⟨b0, b1, b2, true, b4, b5, rfl, hB.s3 hun k' hB' hczs⟩
    · obtain rfl := Option.some.inj ho
      have d2 : b2 = true := hall ⟨2, .data⟩ (by simp) rfl
      have d0 : b0 = true := hall ⟨0, .data⟩ (by simp) rfl
      have d3 : b3 = true := hall ⟨3, .phase⟩ (by simp) rfl
      have d4 : b4 = false := hun
      have d5 : b5 = false := by cases b5 with | false => rfl | true => have := hB.c5 rfl; rw [d4] at this; cases this
      obtain ⟨g, cs, e1, e2, e3, hB'⟩ := hB.s4 d2 d3 d5
      exact ⟨rfl, skip_step (run_storeConn e1 (hB.l0 d0) e2 e3) ⟨b0, b1, b2, b3, true, b5, rfl, hB'⟩⟩
    · obtain rfl := Option.some.inj ho
      have d4 : b4 = true := hall ⟨4, .chain⟩ (by simp) rfl
      have d1 : b1 = true := hall ⟨1, .data⟩ (by simp) rfl
      obtain ⟨g, cs, e1, e2, e3, hB'⟩ := hB.s5 d4
      exact ⟨rfl, skip_step (run_storeConn e1 (hB.l1 d1) e2 e3) ⟨b0, b1, b2, b3, b4, true, rfl, hB'⟩⟩
  · rintro listed a w8 ⟨b0, b1, b2, b3, b4, b5, rfl, hB⟩ hall
    have d2 : b2 = true := hall 2 (by show 2 < 6; decide)
    have d3 : b3 = true := hall 3 (by show 3 < 6; decide)
    have d4 : b4 = true := hall 4 (by show 4 < 6; decide)
    have d5 : b5 = true := hall 5 (by show 5 < 6; decide)
    obtain ⟨g7, cs7, e7, hg7, hE, _, hc7⟩ := hB.l2 d2
    obtain ⟨g8, cs8, e8, hg8, hF, _, hc8⟩ := hB.l3 d3
    obtain rfl := hc7 d4
    obtain rfl := hc8 d5
    have hne : g7 ≠ g8 := by rintro rfl; exact hB.ne d2 d3 (by rw [e7, e8])
    have hw8 := hB.z
    have hsat := sat_add (sat_add hB.sat e8) e7
    clear hall e7 e8 hB
    revert hsat
    revert a
    refine (show Post 51 _ .normal [(7, .ex (pt g7 0)), (8, .ex (pt g8 0)), (3, .ex (pt w.heap.size 0)), (4, .ex (pt w1.heap.size 0)), (5, .ex (pt w2.heap.size 0))] w8 → _ from fun h a => post_use h a) ?_
    have hz0 := hz
    have hH0 := hH
    have hC0 := hC
    have hxq0 := hxq
    have hxr0 := hxr
    replace hz := hz.trans hw8
    replace hH := hH.only hw8 (by simp)
    replace hC := hC.only hw8 (by simp)
    replace hxq := hxq.pure hw8
    replace hxr := hxr.pure hw8
    refine p_then ?_
    repeat (first | refine t_seq ?_ | refine t_region ?_ | refine s_nil ?_ | refine p_then ?_ | refine t_ret ?_ | refine p_then_ret ?_ | refine p_block_ret ?_ | refine t_block ?_ | refine t_exit ?_ | refine p_then_exit ?_ | refine p_block_exit ?_ | refine p_block ?_ | refine t_skip ?_)
    refine t_drawO 7 (by kernel_rfl) rfl ?_
    refine fk_val Only.refl' (fun wF hR => v_load rfl (ld23 (hH.only hR (by simp)))) ?_
    refine fk_val Only.refl' (fun wF hR => v_load rfl (ld27 (hC.only hR (by simp)))) ?_
    refine fk_op st_s (fun wF hR => o_call rfl (en rfl) (c10 k s b q wF (hxq.pure hR).at_ hxq.ok (hxq.pure hR).K (hxq.pure hR).pos)) ?_
    refine fk_val Only.refl' (fun wF hR => v_load rfl (ld23 (hH.only hR (by simp)))) ?_
    refine fk_val Only.refl' (fun wF hR => v_load rfl (ld27 (hC.only hR (by simp)))) ?_
    refine fk_op st_s (fun wF hR => o_call rfl (en rfl) (c11 k s b q wF (hxq.pure hR).at_ hxq.ok)) ?_
    refine fk_val (Only.refl _) (fun wF hR => v_fieldAddr rfl (fo rfl)) ?_
    refine fk_nil (fun w9 hw9 => ?_)
    refine x_open 29 rfl (fun u hu => ?_)
    obtain ⟨A1, k1, rfl, hk1, hr1⟩ := hu
    refine x_open 32 rfl (fun u hu => ?_)
    obtain ⟨A2, k2, rfl, hk2, hr2⟩ := hu
    refine x_weak [(29, .ex (.slice A1 (ticketOf (hkOf k s b) q).length k1)), (32, .ex (.slice A2 (ticketOf (hkOf k s b) q).length k2)), (33, .ex (pt g7 (0 + 0))), (7, .ex (pt g7 0)), (8, .ex (pt g8 0)), (3, .ex (pt w.heap.size 0)), (4, .ex (pt w1.heap.size 0)), (5, .ex (pt w2.heap.size 0))] (by repeat (first | exact trivial | refine ⟨rfl, ?_⟩)) ?_
    replace hE := hE.only hw9 (by simp)
    replace hF := hF.only hw9 (by simp)
    have hE9 := hE
    have hF9 := hF
    refine s_store rfl rfl (si rfl) hE (by show 0 < 13; decide) rfl rfl (fun w10 hw10 hE' => ?_)
    refine s_val (v_fieldAddr rfl (fo rfl)) rfl ?_
    refine s_store rfl rfl (si rfl) (hF.only hw10 (by simpa using hne.symm)) (by show 0 < 13; decide) rfl rfl (fun w11 hw11 hF' => ?_)
    have hE1 : Blk w11 g7 27 (Conn.cells { r with psk := ⟨A1, k1, ticketOf (hkOf k s b) q⟩ }) := hE'.only hw11 (by simpa using hne)
    have hF1 : Blk w11 g8 27 (Conn.cells { r with psk := ⟨A2, k2, ticketOf (hkOf k s b) q⟩ }) := hF'
    have hs7 := hw8.size
    have hs9 := hw9.size
    have hold : Only [g7, g8] w9 w11 := (hw10.mono (fun i hi _ => by simp at hi; simp [hi])).trans (hw11.mono (fun i hi _ => by simp at hi; simp [hi]))
    have hlt := hH.lt
    have hltC := hC.lt
    have hnew : Only [] w7 w9 := hw8.trans hw9
    have hz7 : Only [] w7 w11 := hnew.trans_new hold (fun i hi => .inr (by simp at hi; rcases hi with rfl | rfl <;> assumption))
    have hz11 : Only [] w w11 := hz0.trans hz7
    replace hH := hH0.only hz7 (by simp)
    replace hC := hC0.only hz7 (by simp)
    have hxq1 : Cx q w11 := hxq0.pure hz7
    have hxr1 : Cx r w11 := hxr0.pure hz7
    clear hz hxq hxr hE hF hE' hF' hlt hltC hH0 hC0 hxq0 hxr0
    have hr1' : Rd w11 A1 (ticketOf (hkOf k s b) q) := hr1.only hold (fun hne0 => off_conn (ps := [g7, g8]) hne0 hr1 (fun g hg => by simp at hg; rcases hg with rfl | rfl <;> first | exact ⟨r, hE9⟩ | exact ⟨r, hF9⟩))
    have hr2' : Rd w11 A2 (ticketOf (hkOf k s b) q) := hr2.only hold (fun hne0 => off_conn (ps := [g7, g8]) hne0 hr2 (fun g hg => by simp at hg; rcases hg with rfl | rfl <;> first | exact ⟨r, hE9⟩ | exact ⟨r, hF9⟩))
    have hx7 := hxr1.resumed hr1' hk1 (ticket_len k s b q)
    have hx8 := hxr1.resumed hr2' hk2 (ticket_len k s b q)
    repeat (first | refine t_seq ?_ | refine t_region ?_ | refine s_nil ?_ | refine p_then ?_ | refine t_ret ?_ | refine p_then_ret ?_ | refine p_block_ret ?_ | refine t_block ?_ | refine t_exit ?_ | refine p_then_exit ?_ | refine p_block_exit ?_ | refine p_block ?_ | refine t_skip ?_)
    refine t_weak [(7, .ex (pt g7 0)), (8, .ex (pt g8 0)), (3, .ex (pt w.heap.size 0)), (4, .ex (pt w1.heap.size 0)), (5, .ex (pt w2.heap.size 0))] (by repeat (first | exact trivial | refine ⟨rfl, ?_⟩)) ?_
    refine t_drawO 16 (by kernel_rfl) rfl ?_
    refine fk_val Only.refl' (fun wF hR => v_load rfl (ld23 (hH.only hR (by simp)))) ?_
    refine fk_val Only.refl' (fun wF hR => v_load rfl (ld27 (hC.only hR (by simp)))) ?_
    refine fk_op st_jq (fun wF hR => o_call rfl (en rfl) (c8 k s b q wF (hxq1.pure hR))) ?_
    refine fk_val Only.refl' (fun wF hR => v_load rfl (ld23 (hH.only hR (by simp)))) ?_
    refine fk_val Only.refl' (fun wF hR => v_load rfl (ld27 (hC.only hR (by simp)))) ?_
    refine fk_op st_jq (fun wF hR => o_call rfl (en rfl) (c9 k s b q wF (hxq1.pure hR))) ?_
    refine fk_ex (u := .bool true) (fun wF hR => o_same rfl rfl (schedOf_le hxq1.ok _)) ?_
    refine fk_val (Only.refl _) (fun wF hR => v_move rfl) ?_
    refine fk_yes Only.refl' rfl rfl (fun wF hR => v_load rfl (ld23 (hH.only hR (by simp)))) ?_
    refine fk_yes Only.refl' rfl rfl (fun wF hR => v_load rfl (ld27 (hE1.only hR (by simp)))) ?_
    refine fk_yes_op rfl rfl st_jq (fun wF hR => o_call rfl (en rfl) (c8 k s b _ wF (hx7.pure hR))) ?_
    refine fk_yes Only.refl' rfl rfl (fun wF hR => v_load rfl (ld23 (hH.only hR (by simp)))) ?_
    refine fk_yes Only.refl' rfl rfl (fun wF hR => v_load rfl (ld27 (hF1.only hR (by simp)))) ?_
    refine fk_yes_op (p := JQ (schedOf (hkOf k s b) { r with psk := ⟨A1, k1, ticketOf (hkOf k s b) q⟩ })) rfl rfl st_jq (fun wF hR => o_call rfl (en rfl) (c9 k s b _ wF (hx8.pure hR))) ?_
    refine fk_yes_ex (u := .bool true) rfl rfl (fun wF hR => o_same rfl rfl (schedOf_le hx7.ok _)) ?_
    refine fk_val (Only.refl _) (fun wF hR => v_pick rfl rfl rfl) ?_
    refine fk_nil (fun w12 hw12 => ?_)
    refine x_weak [(50, .ex (.bool true))] (by repeat (first | exact trivial | refine ⟨rfl, ?_⟩)) ?_
    refine s_val (v_assign rfl) rfl ?_
    repeat (first | refine t_seq ?_ | refine t_region ?_ | refine s_nil ?_ | refine p_then ?_ | refine t_ret ?_ | refine p_then_ret ?_ | refine p_block_ret ?_ | refine t_block ?_ | refine t_exit ?_ | refine p_then_exit ?_ | refine p_block_exit ?_ | refine p_block ?_ | refine t_skip ?_)
    exact ret1 rfl rfl ⟨_, rfl, hz11.trans hw12, rfl⟩
  · intro a ha
    exact ⟨false, false, false, false, false, false, rfl, sat_mv ha, Only.drew [] w7, fun h => (by cases h), fun h => (by cases h), fun h => (by cases h), fun h => (by cases h), fun h => (by cases h), fun h => (by cases h), fun h => (by cases h)⟩
end Go.Proofs.YtnaefgnjdmmmcaaGreatDoor
/- FnResumed: the row's statement and the card. -/
namespace Go.Proofs.YtnaefgnjdmmmcaaGreatDoor
open Go.ChangeShapes Go.WideShapes Go.ChangeAt Go.RowKit
set_option linter.unusedSimpArgs false
set_option linter.unusedVariables false
section
variable {H : Type} {enc : TypeId × Value → H}
attribute [local irreducible] Value.okWide DataW.trod DataW.Trod
theorem readable3 : ∀ t ∈ [23, 27, 27], Tryz.prog.readableRec t = true ∧ t < Tryz.prog.types.size := by
  intro t ht
  refine readable2 t ?_
  simp only [List.mem_cons, List.not_mem_nil, or_false] at ht ⊢
  rcases ht with h | h | h
  · exact .inl h
  · exact .inr h
  · exact .inr h
theorem contract4 (W : World) (base : Nat) (args : Array Value) (ds gs : List (DataW H)) (before : List MemPlace)
    (hval : ∀ (j : Nat) t v, Tryz.f4.params[j]? = some t → args[j]? = some v → Value.okWide Tryz.prog W .any base t v)
    (hW : DataW.Whole enc Tryz.prog Tryz.f4.params.toList Rows.fnResumedSpec.vars false W args.toList ds gs before) (hL : laidMetH Tryz.prog Rows.fnResumedRow.laid W) :
    Calls Tryz.prog 4 args W fun e W' => ∃ v, e = .returned v ∧ Rows.fnResumedSpec.post enc Tryz.prog Tryz.f4 false true false false W args v W' := by
  have hW' := hW
  obtain ⟨p, q, hA0, hV, rfl, hfz, hnd⟩ := hW
  have hA : DataW.TrodAll enc Tryz.prog W 0 (fun _ => true) true Tryz.f4.params.toList args.toList ds p := hA0
  rw [Tryz.params4] at hA hval
  obtain ⟨v0, vs0, d0, ds0, p0, q0, hargs, rfl, rfl, h0, r0⟩ := trodAll_cons hA
  obtain ⟨v1, vs1, d1, ds1, p1, q1, rfl, rfl, rfl, h1, r1⟩ := trodAll_cons r0
  obtain ⟨v2, vs2, d2, ds2, p2, q2, rfl, rfl, rfl, h2, r2⟩ := trodAll_cons r1
  obtain ⟨rfl, rfl, rfl⟩ := trodAll_nil r2
  obtain rfl : args = #[v0, v1, v2] := by cases args; simp_all
  obtain ⟨g, rfl⟩ := trodVars1 hV
  obtain ⟨k, s, b, rfl⟩ := hashOf (hval 0 23 v0 rfl rfl) h0
  obtain ⟨x, rfl, hx⟩ := connOf (hval 1 27 v1 rfl rfl) h1
  obtain ⟨y, rfl, hy⟩ := connOf (hval 2 27 v2 rfl rfl) h2
  have hK := ktOf hL
  refine (c4 k s b x y W hx hy hK hK.1).mono fun e W' he => ?_
  obtain ⟨v, rfl, hz, rfl⟩ := he
  exact ⟨_, rfl, post_true laidOutT (by rw [Tryz.params4]; exact readable3) rowedV (rt := 4) (by kernel_rfl) Tryz.underlying4 hW' rfl hz.below'⟩
end
theorem laid_met4 (os : Os) : laidMet Tryz.prog Rows.fnResumedRow.laid ((laidWorld os).forCall (fun _ _ => 0) ⟨#[], #[noHash, noConn, noConn], []⟩).memory :=
  laidMet_of_run' 8 (by kernel_rfl) (by kernel_rfl)
theorem reads4 (os : Os) {H : Type} (enc : TypeId × Value → H) : ∃ places, DataW.whole enc Tryz.prog ((laidWorld os).forCall (fun _ _ => 0) ⟨#[], #[noHash, noConn, noConn], []⟩).memory Tryz.f4.params.toList Rows.fnResumedSpec.vars false #[noHash, noConn, noConn].toList 8 = some ([dHash, dConn, dConn], [Rows.laid_loop_example_pub_g03087_pub_sha256_K], places) :=
  ⟨MemPlace.row ⟨0, 0, none⟩ 64, by kernel_rfl⟩
set_option maxRecDepth 100000 in
theorem lifted4 (os : Os) (started : os.Started) (H : Type) (enc : TypeId × Value → H) (F : Stop.Interp) :
    ReturnsInHanded {} Tryz.checked os 4 .any ((OpenSpec.ofChange Rows.fnResumedSpec).preRow enc Tryz.prog Tryz.f4 Rows.fnResumedRow.domain false Rows.fnResumedRow.laid) (((OpenSpec.ofChange Rows.fnResumedSpec).at F).post enc Tryz.prog Tryz.f4 false true false false) := by
  obtain ⟨places, hx⟩ := reads4 os enc
  refine returnsInHanded_of_row (C := Tryz.checked) (s := OpenSpec.ofChange Rows.fnResumedSpec) ownK started (by kernel_rfl) Tryz.func4
    (witness_row_at (enc := enc) (C := Tryz.checked) false (laidWorld os) #[noHash, noConn, noConn] rfl (by kernel_rfl) (by kernel_rfl) (by kernel_rfl)
      (OpenSpec.preRow_of_cond 8 hx (by kernel_rfl) (fun k hk => by cases hk) (by kernel_rfl) (laid_met4 os))) ?_
  intro W base args ds gs before hval hW _ _ _ hL _ _
  exact contract4 W base args ds gs before hval hW hL
theorem said4 : Rows.FnResumedSaid :=
  OpenClaim.holds_of_cond 4 Tryz.f4 rfl rfl rfl rfl rfl rfl rfl ⟨rfl, rfl, rfl, rfl, rfl⟩ rfl rfl rfl rfl rfl (by kernel_rfl) Tryz.func4 (by kernel_rfl)
    (of_decide_eq_true (by kernel_rfl)) (by unfold Func.isWrapper; first | (rw [if_pos (by decide +kernel)]; kernel_rfl) | (rw [if_neg (by decide +kernel)]; exact ⟨rfl, rfl⟩))
    (fun os started H enc _ F => by rw [OpenClaim.pre_eq_preRow]; exact lifted4 os started H enc F)
theorem plain4 (f : FuncId) (fn : Func) (hf : Tryz.pinned.checked.prog.funcNamed "loop.example/pub-g03087/laws.FnResumed" = some f) (hfn : Tryz.pinned.checked.prog.funcs[f]? = some fn) :
    true = Tryz.pinned.checked.prog.looks [] ∧ ∀ (j : Nat) t, fn.params[j]? = some t → Tryz.pinned.checked.prog.wantsStandIn t = false := by
  obtain rfl : f = 4 := Option.some.inj ((show Tryz.prog.funcNamed "loop.example/pub-g03087/laws.FnResumed" = some 4 by kernel_rfl).symm.trans hf) |>.symm
  obtain rfl : fn = Tryz.f4 := (Option.some.inj (Tryz.func4.symm.trans hfn)).symm
  refine ⟨by kernel_rfl, fun j t ht => ?_⟩
  rw [Tryz.params4] at ht
  have hm : t = 23 ∨ t = 27 := by simpa using Array.mem_of_getElem? ht
  rcases hm with rfl | rfl
  · exact (show Tryz.prog.wantsStandIn 23 = false by kernel_rfl)
  · exact (show Tryz.prog.wantsStandIn 27 = false by kernel_rfl)
/-- The card of FnResumed. -/
theorem fnResumed_card : Rows.FnResumedCardSaid :=
  Claim7.holds_tied_plain_at .later [] _ _ _ _ said4 (fun _ h => by cases h) (by kernel_rfl) (fun _ h => by cases h) fnResumed_row_tie rfl ⟨rfl, rfl⟩ (by kernel_rfl) rfl plain4 (by kernel_rfl)
#print axioms fnResumed_card
end Go.Proofs.YtnaefgnjdmmmcaaGreatDoor
