/-
  What is proved here, of the given program in the given model, of every input, with no condition but those that each theorem states ahead of its conclusion: MORE RULES: copy, masks. ROWS OF BYTES OF THE CALL'S OWN; append; a result in a cell. MORE RULES: literals of slices, structs; function values; interfaces; strings. MORE CLOSED FACTS on the program's types, each by the kernel. SHA-256's Write in the program: the digest's state holds what was written. THE THIN PACKAGE's OWN HASH in the program: Reset, fresh, Write, Sum. THE THIN PACKAGE's OWN HASH in the program: Write, Sum.
-/
import Derived.Test.YtnaefgnjdmmmcaaGreatDoorM02
import Derived.Great.BuildSlice
import Derived.Laws.Cover3
import Derived.Laws.IdiomStrings
/- MORE RULES: copy, masks. -/
namespace Go.Proofs.YtnaefgnjdmmmcaaGreatDoor
open Go.RowKit

section
variable {P : Program} {N : Nat} {Γ : Env} {w : World} {d : Option Tmp} {ty : TypeId} {pos : String} {af : Array Edge} {gd : Option (Nat × Bool)}

/-! ## copy -/
/-- Cells with bytes laid over them, from some place on. -/
def splC (cs : Array Value) (i : Nat) (m : Bytes) : Array Value := (cs.toList.take i ++ m.map B ++ cs.toList.drop (i + m.length)).toArray
theorem splC_bytes (l : Bytes) (i : Nat) (m : Bytes) : splC (l.map B).toArray i m = ((spl l i m).map B).toArray := by
  simp [splC, spl, List.map_take, List.map_drop]
theorem splC_size {cs : Array Value} {i : Nat} {m : Bytes} (h : i + m.length ≤ cs.size) : (splC cs i m).size = cs.size := by
  simp [splC]; omega
theorem run_copyB {dT sT ty e : TypeId} {z : Value} {bytes : Nat} (hT : RowTy P dT e z bytes) {g i nd cd cn T : Nat} {D A : Option Addr} {cs : Array Value} {p : Bytes} (hB : Blk w g T cs) (hp : Rd w A p) (hD : 0 < min nd p.length → D = some ⟨g, i, none⟩) (hfit : i + min nd p.length ≤ cs.size) :
    ∃ w', (Builtin.copy_ #[dT, sT] ty #[.slice D nd cd, .slice A p.length cn]).run P w = .ok (I (min nd p.length)) w' ∧ Only [g] w w' ∧ Blk w' g T (splC cs i (p.take nd)) := by
  obtain ⟨inf, hi, _, hsz, _⟩ := hT.info
  have hsz' : (P.info? e).map (·.size) = some 1 := by rw [hi]; simp [hsz]
  by_cases h0 : min nd p.length = 0
  · refine ⟨w, ?_, Only.refl _ _, ?_⟩
    · have := run_copy_none (P := P) w dT sT ty e D A nd cd p.length cn hT.und hsz' (by show min p.length nd = 0; omega)
      rw [this, h0]; rfl
    · have : p.take nd = [] := List.eq_nil_of_length_eq_zero (by rw [List.length_take]; exact h0)
      rw [this]
      simpa [splC] using hB
  · obtain rfl := hD (by omega)
    obtain ⟨g', i', rfl, hg', hc⟩ := hp (by rintro rfl; simp at h0)
    have hl : ((p.take nd).map B).length = min nd p.length := by simp
    have := run_copy_row (P := P) w dT sT ty e g i nd cd ⟨g', i', none⟩ p.length cn cs T ((p.take nd).map B) hT.und hsz' hB (by rw [hl]; exact Nat.min_comm _ _)
      (fun j v hv => by
        rw [List.getElem?_map] at hv
        cases hb : (p.take nd)[j]? with
        | none => rw [hb] at hv; cases hv
        | some b =>
          rw [hb] at hv
          cases hv
          rw [add_lit]
          exact hc j b (by rw [List.getElem?_take] at hb; split at hb; exact hb; cases hb)) (by rw [hl]; exact hfit) (fun v hv => by
        obtain ⟨b, _, rfl⟩ := List.mem_map.1 hv; rfl)
    refine ⟨_, by rw [this, hl]; rfl, Only.setRow w g _, ?_⟩
    have h2 := hB.setRow (((cs.toList.take i ++ (p.take nd).map B ++ cs.toList.drop (i + ((p.take nd).map B).length))).toArray)
    simpa [splC] using h2
theorem o_copy {x y : Operand} {dT sT e : TypeId} {z : Value} {bytes : Nat} (hT : RowTy P dT e z bytes) {g i nd cd n cn T : Nat} {D A : Option Addr} {cs : Array Value} {p : Bytes} (hx : Γ.op x = some (.ex (.slice D nd cd))) (hy : Γ.op y = some (.ex (.slice A n cn)))
    (hn : n = p.length) (hB : Blk w g T cs) (hp : Rd w A p) (hD : 0 < min nd p.length → D = some ⟨g, i, none⟩) (hfit : i + min nd p.length ≤ cs.size) :
    OpAt P N Γ w ⟨d, .call ⟨.builtin .copy, #[x, y], #[dT, sT]⟩, ty, pos, af, gd⟩ (Only [g]) (fun v w' => v = I (min nd p.length) ∧ Blk w' g T (splC cs i (p.take nd))) :=
  opAt_val fun a ha => by
    have h1 := ha.val (x := x) (by simp [Op.operands, Call.operands]) hx
    have h2 := ha.val (x := y) (by simp [Op.operands, Call.operands]) hy
    subst hn
    obtain ⟨w', hr, h3, h4⟩ := run_copyB (P := P) (sT := sT) (ty := ty) (cd := cd) (cn := cn) hT hB hp hD hfit
    refine ⟨_, w', ?_, h3, rfl, h4⟩
    simp only [execOp, resolve, invoke, builtin, Sem.run_bind, Sem.run_pure, Result.andThen_ok, List.map_toArray, List.map_cons, List.map_nil, h1, h2, hr]

/-! ## Masks -/
theorem andNot63 (n : Nat) (h : n < 9223372036854775808) : (BitVec.ofInt 64 (n : Int) &&& ~~~ BitVec.ofInt 64 63).toNat = n / 64 * 64 := by
  have h1 : (BitVec.ofInt 64 (n : Int)).toNat = n := by rw [BitVec.ofInt_natCast, BitVec.toNat_ofNat]; omega
  have h2 : (~~~ BitVec.ofInt 64 63).toNat = 18446744073709551552 := by decide
  rw [BitVec.toNat_and, h1, h2]
  apply Nat.eq_of_testBit_eq
  intro i
  rw [Nat.testBit_and, show n / 64 * 64 = n / 2 ^ 6 * 2 ^ 6 from rfl, Nat.testBit_mul_two_pow, Nat.testBit_div_two_pow]
  by_cases hi : i < 64
  · by_cases h6 : 6 ≤ i
    · rw [show i - 6 + 6 = i from by omega]
      have : ∀ i : Fin 64, 6 ≤ i.val → Nat.testBit 18446744073709551552 i.val = true := by decide
      have e := this ⟨i, hi⟩ h6
      simp only at e
      simp [e, h6]
    · have : ∀ i : Fin 6, Nat.testBit 18446744073709551552 i.val = false := by decide
      have e := this ⟨i, by omega⟩
      simp only at e
      simp [e, h6]
  · have : n.testBit i = false := Nat.testBit_lt_two_pow (Nat.lt_of_lt_of_le h (by
      calc 9223372036854775808 = 2 ^ 63 := rfl
        _ ≤ 2 ^ i := Nat.pow_le_pow_right (by omega) (by omega)))
    simp only [this, Bool.false_and]
    rw [show i - 6 + 6 = i from by omega, this]; simp
theorem v_andNot63 {x : Operand} {t t' : TypeId} {n : Nat} (hx : Γ.op x = some (.ex (I n))) (hn : n < 9223372036854775808) : ValAt P N Γ w ⟨d, .binOp .andNot t x (.const (.int .i64 63)) t', ty, pos, af, gd⟩ (I (n / 64 * 64)) :=
  v_bin hx rfl fun w => by
    simp only [binOp, Op.intBits, ne_eq, not_true_eq_false, if_false]
    show (pure (Value.int .i64 (IntKind.i64.wrap ((BitVec.ofInt 64 (n : Int) &&& ~~~ BitVec.ofInt 64 63).toNat : Int))) : Sem Value).run P w = _
    rw [andNot63 n hn, wrap64_ok (by omega) (by omega)]; rfl
end
end Go.Proofs.YtnaefgnjdmmmcaaGreatDoor
/- ROWS OF BYTES OF THE CALL'S OWN; append; a result in a cell. -/
namespace Go.Proofs.YtnaefgnjdmmmcaaGreatDoor
open Go.RowKit

/-- A row of bytes, nil or at the head of a block of its own. -/
def Own (w : World) (v : Value) (l : Bytes) : Prop := w.ownsRow 0 5 1 v l.length (l.map B)
/-- Its block lies at b or behind it. -/
def From (b : Nat) (v : Value) : Prop := ∀ k, v.ownBlock = some k → b ≤ k
/-- Its block is none of these. -/
def Nots (v : Value) (fp : List Nat) : Prop := ∀ k, v.ownBlock = some k → k ∉ fp
theorem From.nots {b : Nat} {v : Value} {fp : List Nat} (h : From b v) (hf : ∀ k ∈ fp, k < b) : Nots v fp := fun k hk hm => by have := h k hk; have := hf k hm; omega
theorem From.mono {b b' : Nat} {v : Value} (h : From b v) (hb : b' ≤ b) : From b' v := fun k hk => Nat.le_trans hb (h k hk)
theorem From.nil (b : Nat) : From b (.slice none 0 0) := fun k hk => by cases hk
theorem Nots.nil (fp : List Nat) : Nots (.slice none 0 0) fp := fun k hk => by cases hk
section
variable {P : Program} {N : Nat} {Γ : Env} {w w' : World} {d : Option Tmp} {ty : TypeId} {pos : String} {af : Array Edge} {gd : Option (Nat × Bool)} {fp : List Nat} {v : Value} {l : Bytes}
theorem Own.nil (w : World) : Own w (.slice none 0 0) [] := World.ownsRow_nil w 0 5 1
theorem Own.only (h : Own w v l) (k : Only fp w w') (hn : Nots v fp) : Own w' v l := by
  obtain ⟨h1, h2⟩ := h
  refine ⟨h1, ?_⟩
  rcases h2 with h2 | ⟨g, cap, cur, rfl, hb, hh, h3⟩
  · exact .inl h2
  · have hlt : g < w.heap.size := (Array.getElem?_eq_some_iff.1 hh).1
    exact .inr ⟨g, cap, cur, rfl, hb, (k.block g hlt (hn g rfl)).trans hh, h3⟩
theorem Own.slice (h : Own w v l) : ∃ A c, v = .slice A l.length c ∧ l.length ≤ c ∧ Rd w A l ∧ (∀ fp, Nots v fp → Off A fp) := by
  obtain ⟨h1, h2⟩ := id h
  rcases h2 with ⟨rfl, h2⟩ | ⟨g, cap, cur, rfl, hb, hh, hc, _⟩
  · have : l = [] := List.eq_nil_of_length_eq_zero h2
    subst this
    exact ⟨none, 0, rfl, by simp, Rd.nil _ _, fun fp _ => Off.none_⟩
  · exact ⟨_, cap, rfl, hc, (own_rd h).1, fun fp hn => Off.pt (hn g rfl)⟩
theorem Own.lt (h : Own w v l) {k : Nat} (hk : v.ownBlock = some k) : k < w.heap.size := by
  obtain ⟨h1, h2⟩ := h
  rcases h2 with ⟨rfl, h2⟩ | ⟨g, cap, cur, rfl, hb, hh, hc, _⟩
  · cases hk
  · cases hk; exact (Array.getElem?_eq_some_iff.1 hh).1
theorem Own.of {g : Nat} (h : Blk w g 5 (l.map B).toArray) (hl : l.length ≤ maxLen) : Own w (.slice (some ⟨g, 0, none⟩) l.length l.length) l :=
  ⟨by simp, .inr ⟨g, l.length, _, rfl, Nat.zero_le _, h, Nat.le_refl _, hl, by simp, by simp [List.take_of_length_le]⟩⟩
theorem opAt_mono {o : Oper} {R R' : World → World → Prop} {S S' : Pred} (h : OpAt P N Γ w o R S) (hR : ∀ w', R w w' → R' w w') (hS : ∀ v w', R w w' → S v w' → S' v w') : OpAt P N Γ w o R' S' :=
  fun a ha K Q hK => h a ha K Q fun v w' h1 h2 => hK v w' (hR w' h1) (hS v w' h1 h2)
theorem Src.ofRd {A : Option Addr} {tx e' : TypeId} (hk : P.underlying tx = some (.slice e')) {m : Bytes} {c : Nat} (h : Rd w A m) : Src P 1 tx (.slice A m.length c) m.length (m.map B) w := by
  cases A with
  | none =>
    have : m = [] := Classical.byContradiction fun hm => by
      obtain ⟨g, i, e, _⟩ := h hm; cases e
    subst this
    exact Src.ofNil w hk c
  | some a =>
    refine Src.ofSlice w hk a m.length c (m.map B) (by simp) (fun j u hu => ?_) (fun u hu => by obtain ⟨b, _, rfl⟩ := List.mem_map.1 hu; rfl)
    rw [List.getElem?_map] at hu
    cases hb : m[j]? with
    | none => rw [hb] at hu; cases hu
    | some b =>
      rw [hb] at hu; cases hu
      obtain ⟨g, i, e, _, hc⟩ := h (by rintro rfl; simp at hb)
      cases e
      rw [add_lit]
      exact hc j b hb
/-- What append gives. -/
def App (w : World) (v : Value) (l : Bytes) : Pred := fun v' w' => Own w' v' l ∧ ∀ k, v'.ownBlock = some k → v.ownBlock = some k ∨ w.heap.size ≤ k
theorem o_appB {x y : Operand} {t tx e' : TypeId} (hT : RowTy P t 5 (B 0) 1) {A : Option Addr} {c : Nat} {m : Bytes} {n : Nat} (hx : Γ.op x = some (.ex v)) (hy : Γ.op y = some (.ex (.slice A n c))) (hn : n = m.length) (hk : P.underlying tx = some (.slice e'))
    (hown : Own w v l) (hm : Rd w A m) (hb : l.length + m.length ≤ 140737488355328) (hfp : ∀ k, v.ownBlock = some k → k ∈ fp) :
    OpAt P N Γ w ⟨d, .call ⟨.builtin .append, #[x, y], #[t, tx]⟩, ty, pos, af, gd⟩ (Only fp) (App w v (l ++ m)) := by
  subst hn
  refine opAt_mono (o_append hT hx hy hown (Src.ofRd hk hm) (by simp only [maxLen]; omega) (by omega) (Nat.zero_le _)) (fun w' h => Only.grown h hfp) (fun v' w' h1 h2 => ⟨?_, ?_⟩)
  · have := h2.1
    unfold Own
    rw [List.length_append, List.map_append]; exact this
  · intro k hk
    rcases h2.2 with e | e
    · exact .inl (by rw [← e]; exact hk)
    · rw [e] at hk; cases hk; exact .inr (Nat.le_refl _)
theorem retc {fn : Func} {R : Ending → World → Prop} {N t T g : Nat} {v : Value} (hr : fn.results = #[.cell t T]) (ht : Γ.find t = some (.ex (pt g 0))) (hl : (loadVar T ⟨g, 0, none⟩).run P w = .ok v w) (hR : R (.returned v) w) : Post N (bodyPost P fn R) .ret Γ w := fun a ha =>
  ⟨ha.defers, v, by
    have h1 : look a t = pt g 0 := ha.get t _ ht
    unfold look at h1
    rw [Array.getD_eq_getD_getElem?] at h1
    simp [results, hr, h1, asAddr, hl], hR⟩
/-- A cut of a slice whose address is known. -/
theorem v_sliceLoA {x lo : Operand} {t : TypeId} {g i n c k : Nat} {kk : IntKind} (hx : Γ.op x = some (.ex (.slice (some ⟨g, i, none⟩) n c))) (hl : Γ.op lo = some (.ex (.int kk (k : Int)))) (ht : sliceOne P t = true) (hk : k ≤ n) (hc : k < c) :
    ValAt P N Γ w ⟨d, .slice t x (some lo) none none, ty, pos, af, gd⟩ (.slice (some ⟨g, i + k, none⟩) (n - k) (c - k)) := by
  have := v_sliceLo (P := P) (N := N) (w := w) (d := d) (ty := ty) (pos := pos) (af := af) (gd := gd) hx hl ht hk
  rw [if_neg (by omega), Option.map_some, add_lit, Nat.mul_one] at this
  exact this
end
end Go.Proofs.YtnaefgnjdmmmcaaGreatDoor
/- MORE RULES: literals of slices, structs; function values; interfaces; strings. -/
namespace Go.Proofs.YtnaefgnjdmmmcaaGreatDoor
open Go.RowKit
set_option linter.unusedSimpArgs false

section
variable {P : Program} {N : Nat} {Γ : Env} {w w' : World} {d : Option Tmp} {ty : TypeId} {pos : String} {af : Array Edge} {gd : Option (Nat × Bool)} {fp : List Nat}

theorem parts_of {o : Oper} {a : Act} (h : SatOn N Γ o a w) (ps : Array (Nat × Operand)) {vs : List Value} (hx : Γ.ops (ps.toList.map (·.2)) = some vs) (hm : ∀ x ∈ ps.toList.map (·.2), x ∈ o.op.operands) :
    (ps.map fun (i, x) => (i, a.eval x)).toList = (ps.toList.map (·.1)).zip vs := by
  have := Env.ops_get h _ _ hx hm
  rw [← this, Array.toList_map]
  induction ps.toList with
  | nil => rfl
  | cons p r ih => simp [ih]
/-- A literal of a slice: every place written. -/
theorem o_buildSlice {ps : Array (Nat × Operand)} {t e : TypeId} {z : Value} {bytes : Nat} (hT : RowTy P t e z bytes) {n : Nat} {vs : List Value} (hx : Γ.ops (ps.toList.map (·.2)) = some vs)
    (hi : ps.toList.map (·.1) = List.range vs.length) (hn : n = vs.length) (hpos : 0 < vs.length) (hsm : vs.length ≤ 2 ^ 24) (h1 : ∀ v ∈ vs, v.cells = #[v]) :
    OpAt P N Γ w ⟨d, .buildSlice t n ps, ty, pos, af, gd⟩ (Only []) (NewRow w e n n vs.toArray) :=
  opAt_val fun a ha => by
    subst hn
    obtain ⟨i, hinf, hz, hs, _⟩ := hT.info
    have hp := parts_of ha ps hx (fun x hm => by simpa [Op.operands] using hm)
    have hzip : (List.range vs.length).zip vs = (vs.zipIdx 0).map fun x => (x.2, x.1) := by
      apply List.ext_getElem?
      intro k
      simp [List.getElem?_zip_eq_some, List.zip, List.getElem?_zipWith, List.getElem?_range, List.getElem?_zipIdx]
      by_cases hk : k < vs.length
      · simp [hk]
      · simp [hk]
    have hf := Great.fill_flat vs ((Array.range (vs.length * i.size)).map (z.cells[· % z.cells.size]!)) h1 (by simp [hs])
    refine ⟨_, w.alloc (.cells vs.toArray e), ?_, Only.alloc [] w _, rfl, Blk.new w e _⟩
    have hr := run_buildSlice (P := P) w t e vs.length (ps.map fun (i, x) => (i, a.eval x)) vs.toArray i z hT.und hinf hz (by rw [hs]; omega) (by rw [hs]; omega) (by rw [hp, hi, hzip, hs]; rw [hs] at hf; exact hf)
    simp only [execOp, Sem.run_bind, hr, Result.andThen_ok, Sem.run_pure]
theorem o_buildSlice0 {t e : TypeId} {z : Value} {bytes : Nat} (hT : RowTy P t e z bytes) : OpAt P N Γ w ⟨d, .buildSlice t 0 #[], ty, pos, af, gd⟩ (Only []) (NewRow w e 0 0 #[]) :=
  opAt_val fun a ha => by
    obtain ⟨i, hinf, hz, hs, _⟩ := hT.info
    refine ⟨_, w.alloc (.cells #[] e), ?_, Only.alloc [] w _, rfl, Blk.new w e _⟩
    simp [execOp, Instr.buildSlice, run_underlying hT.und, sizeOf, typeInfo, hinf, Instr.fill, newRow, show Array.range 0 = #[] from rfl]
/-- A literal of a struct or an array. -/
theorem v_build {ps : Array (Nat × Operand)} {t : TypeId} {vs : List Value} {u : Value} (hx : Γ.ops (ps.toList.map (·.2)) = some vs) (hb : ∀ w : World, (Instr.build t ((ps.toList.map (·.1)).zip vs).toArray).run P w = .ok u w) :
    ValAt P N Γ w ⟨d, .build t ps, ty, pos, af, gd⟩ u := fun a ha => by
  have hp := parts_of ha ps hx (fun x hm => by simpa [Op.operands] using hm)
  have hp' : (ps.map fun (i, x) => (i, a.eval x)) = ((ps.toList.map (·.1)).zip vs).toArray := Array.ext' hp
  simp only [execOp, hp', Sem.run_bind, hb, Result.andThen_ok, Sem.run_pure]
theorem v_makeFunc {fn : Fn} {xs ys : List Operand} {us vs : List Value} (hx : Γ.ops xs = some us) (hy : Γ.ops ys = some vs) : ValAt P N Γ w ⟨d, .makeFunc fn xs.toArray ys.toArray, ty, pos, af, gd⟩ (.func fn us.toArray vs.toArray) := fun a ha => by
  have h1 := Env.ops_get ha _ _ hx (fun x hm => by simp [Op.operands, hm])
  have h2 := Env.ops_get ha _ _ hy (fun x hm => by simp [Op.operands, hm])
  simp only [execOp, List.map_toArray, h1, h2]
  rfl
@[irreducible] def concrete (P : Program) (t : TypeId) : Bool := match P.underlying t with | some (.interface _) => false | some _ => true | none => false
theorem v_makeInterface {t : TypeId} {x : Operand} {v : Value} (hx : Γ.op x = some (.ex v)) (ht : concrete P t = true) : ValAt P N Γ w ⟨d, .makeInterface t x, ty, pos, af, gd⟩ (.iface t v) := fun a ha => by
  have h := ha.val (x := x) (by simp [Op.operands]) hx
  unfold concrete at ht
  cases hu : P.underlying t with
  | none => rw [hu] at ht; cases ht
  | some u =>
    rw [hu] at ht
    cases u <;> simp at ht <;> simp [execOp, h, Instr.makeInterface, underlying, hu]
theorem v_extract {x : Operand} {i : Nat} {vs : Array Value} {v : Value} (hx : Γ.op x = some (.ex (.tuple vs))) (hi : vs[i]? = some v) : ValAt P N Γ w ⟨d, .extract x i, ty, pos, af, gd⟩ v := fun a ha => by
  have h := ha.val (x := x) (by simp [Op.operands]) hx
  simp only [execOp, h, Instr.extract, hi]; rfl
theorem v_eqNil {x y : Operand} {t t' : TypeId} {A : Option Addr} {n c : Nat} (hx : Γ.op x = some (.ex (.slice A n c))) (hy : Γ.op y = some (.ex (.slice none 0 0))) (ht : sliceOne P t = true) : ValAt P N Γ w ⟨d, .binOp .eql t x y t', ty, pos, af, gd⟩ (.bool A.isNone) := fun a ha => by
  have h1 := ha.val (x := x) (by simp [Op.operands]) hx
  have h2 := ha.val (x := y) (by simp [Op.operands]) hy
  obtain ⟨e, i, hu, _⟩ := sliceOne_some ht
  have h3 : (eqGuard .eql t x y (.slice A n c) (.slice none 0 0)).run P w = .ok () w := by simp [eqGuard]
  have h4 := run_equal_slice_nil (P := P) w t e A n c hu
  simp only [execOp, h1, h2, Sem.run_bind, h3, Result.andThen_ok, binOp, h4, Sem.run_pure]
@[irreducible] def isIface (P : Program) (t : TypeId) : Bool := match P.underlying t with | some (.interface _) => true | _ => false
theorem isIface_some {t : TypeId} (h : isIface P t = true) : ∃ ms, P.underlying t = some (.interface ms) := by
  unfold isIface at h
  cases hu : P.underlying t with
  | none => rw [hu] at h; cases h
  | some u => rw [hu] at h; cases u <;> first | exact ⟨_, rfl⟩ | cases h
theorem run_equal_nilnil {t : TypeId} (ht : isIface P t = true) : (Op.equal t .nilIface .nilIface).run P w = .ok true w := by
  obtain ⟨ms, hu⟩ := isIface_some ht
  have : ∀ d, (Op.equalIn (d + 1) t .nilIface .nilIface).run P w = .ok true w := fun d => by simp [Op.equalIn, run_underlying hu]
  exact this 9999
theorem run_equal_nil {t T : TypeId} {v : Value} (ht : isIface P t = true) : (Op.equal t (.iface T v) .nilIface).run P w = .ok false w := by
  obtain ⟨ms, hu⟩ := isIface_some ht
  have : ∀ d, (Op.equalIn (d + 1) t (.iface T v) .nilIface).run P w = .ok false w := fun d => by simp [Op.equalIn, run_underlying hu]
  exact this 9999
theorem v_neNilNil {x : Operand} {t t' : TypeId} (hx : Γ.op x = some (.ex .nilIface)) (ht : isIface P t = true) : ValAt P N Γ w ⟨d, .binOp .neq t x (.const .nilIface) t', ty, pos, af, gd⟩ (.bool false) := fun a ha => by
  have h1 := ha.val (x := x) (by simp [Op.operands]) hx
  have h2 : a.eval (.const .nilIface) = .nilIface := rfl
  have h3 : (eqGuard .neq t x (.const .nilIface) .nilIface .nilIface).run P w = .ok () w := by simp [eqGuard]
  simp only [execOp, h1, h2, Sem.run_bind, h3, Result.andThen_ok, binOp, run_equal_nilnil ht, Sem.run_pure]; rfl
theorem v_eqNilIface {x : Operand} {t t' T : TypeId} {v : Value} (hx : Γ.op x = some (.ex (.iface T v))) (ht : isIface P t = true) : ValAt P N Γ w ⟨d, .binOp .eql t x (.const .nilIface) t', ty, pos, af, gd⟩ (.bool false) := fun a ha => by
  have h1 := ha.val (x := x) (by simp [Op.operands]) hx
  have h2 : a.eval (.const .nilIface) = .nilIface := rfl
  have h3 : (eqGuard .eql t x (.const .nilIface) (.iface T v) .nilIface).run P w = .ok () w := by simp [eqGuard]
  simp only [execOp, h1, h2, Sem.run_bind, h3, Result.andThen_ok, binOp, run_equal_nil ht, Sem.run_pure]
theorem v_eqNilIface0 {x : Operand} {t t' : TypeId} (hx : Γ.op x = some (.ex .nilIface)) (ht : isIface P t = true) : ValAt P N Γ w ⟨d, .binOp .eql t x (.const .nilIface) t', ty, pos, af, gd⟩ (.bool true) := fun a ha => by
  have h1 := ha.val (x := x) (by simp [Op.operands]) hx
  have h2 : a.eval (.const .nilIface) = .nilIface := rfl
  have h3 : (eqGuard .eql t x (.const .nilIface) .nilIface .nilIface).run P w = .ok () w := by simp [eqGuard]
  simp only [execOp, h1, h2, Sem.run_bind, h3, Result.andThen_ok, binOp, run_equal_nilnil ht, Sem.run_pure]
theorem v_min {x y : Operand} {t t' : TypeId} {m n : Nat} (hx : Γ.op x = some (.ex (I m))) (hy : Γ.op y = some (.ex (I n))) : ValAt P N Γ w ⟨d, .call ⟨.builtin .min, #[x, y], #[t, t']⟩, ty, pos, af, gd⟩ (I (min m n)) := fun a ha => by
  have h1 := ha.val (x := x) (by simp [Op.operands, Call.operands]) hx
  have h2 := ha.val (x := y) (by simp [Op.operands, Call.operands]) hy
  have h3 : (if n < m then (n : Int) else (m : Int)) = ((min m n : Nat) : Int) := by split <;> omega
  simp [execOp, resolve, invoke, builtin, h1, h2, Builtin.min_, Builtin.min2, h3]
/-! ## Strings -/
abbrev S (l : Bytes) : Value := .string ⟨l.toArray⟩
theorem S_size (l : Bytes) : (ByteArray.mk l.toArray).size = l.length := by simp [ByteArray.size]
theorem v_lenS {x : Operand} {l : Bytes} {t : TypeId} (hx : Γ.op x = some (.ex (S l))) (ht : P.underlying t = some .string) : ValAt P N Γ w ⟨d, .call ⟨.builtin .len, #[x], #[t]⟩, ty, pos, af, gd⟩ (I l.length) := fun a ha => by
  have h1 := ha.val (x := x) (by simp [Op.operands, Call.operands]) hx
  simp [execOp, resolve, invoke, builtin, h1, Builtin.len_, underlying, ht, goInt, S_size]
theorem Src.ofS {tx : TypeId} (hk : P.underlying tx = some .string) (m : Bytes) : Src P 1 tx (S m) m.length (m.map B) w := by
  have := Src.ofString (P := P) w hk ⟨m.toArray⟩
  rw [S_size] at this
  simpa [byteCells] using this
theorem o_appS {x y : Operand} {t tx : TypeId} (hT : RowTy P t 5 (B 0) 1) {v : Value} {l m : Bytes} (hx : Γ.op x = some (.ex v)) (hy : Γ.op y = some (.ex (S m))) (hk : P.underlying tx = some .string)
    (hown : Own w v l) (hb : l.length + m.length ≤ 140737488355328) (hfp : ∀ k, v.ownBlock = some k → k ∈ fp) :
    OpAt P N Γ w ⟨d, .call ⟨.builtin .append, #[x, y], #[t, tx]⟩, ty, pos, af, gd⟩ (Only fp) (App w v (l ++ m)) := by
  refine opAt_mono (o_append hT hx hy hown (Src.ofS hk m) (by simp only [maxLen]; omega) (by omega) (Nat.zero_le _)) (fun w' h => Only.grown h hfp) (fun v' w' h1 h2 => ⟨?_, ?_⟩)
  · have := h2.1
    unfold Own
    rw [List.length_append, List.map_append]; exact this
  · intro k hk
    rcases h2.2 with e | e
    · exact .inl (by rw [← e]; exact hk)
    · rw [e] at hk; cases hk; exact .inr (Nat.le_refl _)
/-- []byte(s): a new row that reads as the string's bytes. -/
def NewRd (w : World) (l : Bytes) : Pred := fun v w' => ∃ c, v = .slice (some ⟨w.heap.size, 0, none⟩) l.length c ∧ l.length ≤ c ∧ Rd w' (some ⟨w.heap.size, 0, none⟩) l ∧ w.heap.size < w'.heap.size
theorem o_bytes {x : Operand} {src dst e : TypeId} {l : Bytes} (hx : Γ.op x = some (.ex (S l))) (hs : P.underlying src = some .string) (hd : P.underlying dst = some (.slice e)) (he : P.underlying e = some (.int .u8)) :
    OpAt P N Γ w ⟨d, .convert src dst x, ty, pos, af, gd⟩ (Only []) (NewRd w l) :=
  opAt_val fun a ha => by
    have h1 := ha.val (x := x) (by simp [Op.operands]) hx
    have hr := run_bytes_of_string (P := P) w src dst e ⟨l.toArray⟩ hs hd he
    rw [S_size] at hr
    have hge := grownCap_ge w l.length 0 e
    refine ⟨_, _, by simp only [execOp, h1, Sem.run_bind, hr, Result.andThen_ok, Sem.run_pure]; rfl, ?_, _, rfl, hge, ?_, ?_⟩
    · exact (Only.drew [] w).trans (Only.alloc [] w.drew _)
    · intro hne
      refine ⟨w.heap.size, 0, rfl, by simp, fun j b hb => ?_⟩
      have hh : (w.drew.alloc (.cells (bytesRow ⟨l.toArray⟩ (grownCap w l.length 0 e)) e ((bytesRow ⟨l.toArray⟩ (grownCap w l.length 0 e)).size, (bytesRow ⟨l.toArray⟩ (grownCap w l.length 0 e)).size + 1))).heap[w.heap.size]? = some (.cells (bytesRow ⟨l.toArray⟩ (grownCap w l.length 0 e)) e ((bytesRow ⟨l.toArray⟩ (grownCap w l.length 0 e)).size, (bytesRow ⟨l.toArray⟩ (grownCap w l.length 0 e)).size + 1)) := heap_alloc_new w.drew _
      have hj : j < l.length := (List.getElem?_eq_some_iff.1 hb).1
      simp only [World.cell?, Nat.zero_add, hh]
      simp only [bytesRow]
      rw [Array.getElem?_append_left (by simp; exact hj)]
      simp [hb]
    · simp
/-- string(b) -/
theorem v_string {x : Operand} {src dst e : TypeId} {A : Option Addr} {n c : Nat} {l : Bytes} (hx : Γ.op x = some (.ex (.slice A n c))) (hn : n = l.length) (hs : P.underlying src = some (.slice e)) (he : P.underlying e = some (.int .u8)) (hd : P.underlying dst = some .string) (hr : Rd w A l) :
    ValAt P N Γ w ⟨d, .convert src dst x, ty, pos, af, gd⟩ (S l) := fun a ha => by
  have h1 := ha.val (x := x) (by simp [Op.operands]) hx
  subst hn
  have h2 : (convert src dst (.slice A l.length c)).run P w = .ok (S l) w := by
    cases A with
    | none =>
      have : l = [] := Classical.byContradiction fun hm => by
        obtain ⟨g, i, e, _⟩ := hr hm; cases e
      subst this
      simp [convert, run_underlying hs, run_underlying hd, run_underlying he, Conv.bytesToString]
      rfl
    | some ad =>
      refine run_convert_bytes_back w src dst e ad c l hs he hd (fun j hj => ?_)
      obtain ⟨g, i, e, _, hc⟩ := hr (by rintro rfl; simp at hj)
      cases e
      rw [add_lit]
      exact hc j _ (List.getElem?_eq_getElem hj)
  simp only [execOp, h1, Sem.run_bind, h2, Result.andThen_ok, Sem.run_pure]
theorem v_neS {x y : Operand} {t t' : TypeId} {l m : Bytes} (hx : Γ.op x = some (.ex (S l))) (hy : Γ.op y = some (.ex (S m))) : ValAt P N Γ w ⟨d, .binOp .neq t x y t', ty, pos, af, gd⟩ (.bool (l != m)) := fun a ha => by
  have h1 := ha.val (x := x) (by simp [Op.operands]) hx
  have h2 := ha.val (x := y) (by simp [Op.operands]) hy
  have h3 : (eqGuard .neq t x y (S l) (S m)).run P w = .ok () w := by simp [eqGuard]
  simp only [execOp, h1, h2, Sem.run_bind, h3, Result.andThen_ok, binOp, Op.stringOp, Sem.run_pure]
  simp [bne]
end
end Go.Proofs.YtnaefgnjdmmmcaaGreatDoor
/- MORE CLOSED FACTS on the program's types, each by the kernel. -/
namespace Go.Proofs.YtnaefgnjdmmmcaaGreatDoor
open Go.RowKit
set_option maxRecDepth 100000
def coT : List Nat := [64, 67, 9]
theorem coT_ok : coT.all (fun t => concrete Tryz.prog t) = true := by kernel_rfl
theorem co {t : Nat} (h : inT coT t = true) : concrete Tryz.prog t = true := List.all_eq_true.1 coT_ok t (inT_mem h)
def ifT : List Nat := [75, 81, 52]
theorem ifT_ok : ifT.all (fun t => isIface Tryz.prog t) = true := by kernel_rfl
theorem if_ {t : Nat} (h : inT ifT t = true) : isIface Tryz.prog t = true := List.all_eq_true.1 ifT_ok t (inT_mem h)
theorem u9 : Tryz.prog.underlying 9 = some .string := by kernel_rfl
theorem u5 : Tryz.prog.underlying 5 = some (.int .u8) := by kernel_rfl
theorem ua108 : Tryz.prog.underlying 108 = some (.array 32 5) := by kernel_rfl
theorem ua96 : Tryz.prog.underlying 96 = some (.array 8 95) := by kernel_rfl
theorem ua127 : Tryz.prog.underlying 127 = some (.array 64 95) := by kernel_rfl
theorem ua25 : Tryz.prog.underlying 25 = some (.array 7 24) := by kernel_rfl
def stT : List Nat := [23, 27, 79, 84, 89, 91, 100, 103, 120]
theorem stT_ok : stT.all (fun t => match Tryz.prog.underlying t with | some (.struct _) => true | _ => false) = true := by kernel_rfl
theorem st {t : Nat} (h : inT stT t = true) : ∃ fs, Tryz.prog.underlying t = some (.struct fs) := by
  have h := List.all_eq_true.1 stT_ok t (inT_mem h)
  cases hu : Tryz.prog.underlying t with
  | none => simp [hu] at h
  | some u => rw [hu] at h; cases u <;> first | exact ⟨_, rfl⟩ | cases h
theorem bu103 (a b : Int) (w : World) : (Instr.build 103 #[(0, .int .i64 a), (1, .int .i64 b)]).run Tryz.prog w = .ok (.agg #[.int .i64 a, .int .i64 b, .int .i64 0, .slice none 0 0]) w := by kernel_rfl
theorem bu79 (f : Fn) (us vs : Array Value) (A : Option Addr) (n c : Nat) (w : World) : (Instr.build 79 #[(0, .func f us vs), (1, .slice A n c)]).run Tryz.prog w = .ok (.agg #[.func f us vs, .slice A n c]) w := by kernel_rfl
theorem bu84 (f : Fn) (us vs : Array Value) (A : Option Addr) (n c : Nat) (w : World) : (Instr.build 84 #[(0, .func f us vs), (1, .slice A n c)]).run Tryz.prog w = .ok (.agg #[.func f us vs, .slice A n c]) w := by kernel_rfl
theorem bu89 (f : Fn) (us vs : Array Value) (A : Option Addr) (n c : Nat) (w : World) : (Instr.build 89 #[(0, .func f us vs), (1, .slice A n c)]).run Tryz.prog w = .ok (.agg #[.func f us vs, .slice A n c]) w := by kernel_rfl
theorem bu91 (f : Fn) (us vs : Array Value) (A : Option Addr) (n c : Nat) (w : World) : (Instr.build 91 #[(0, .func f us vs), (1, .slice A n c)]).run Tryz.prog w = .ok (.agg #[.func f us vs, .slice A n c]) w := by kernel_rfl
theorem bu120 (n : Int) (w : World) : (Instr.build 120 #[(6, .int .i64 n)]).run Tryz.prog w = .ok (.agg #[.slice none 0 0, .slice none 0 0, .nilIface, .nilIface, .bool false, .bool false, .int .i64 n]) w := by kernel_rfl
end Go.Proofs.YtnaefgnjdmmmcaaGreatDoor
/- SHA-256's Write in the program: the digest's state holds what was written. -/
namespace Go.Proofs.YtnaefgnjdmmmcaaGreatDoor
open Go.RowKit
attribute [local irreducible] ValAt OpAt RunX Tr Post FlowK

/-- sha256.block -/
theorem c86 (g : Nat) (v : Regs) (x : Bytes) (nx len : Nat) (A : Option Addr) (c : Nat) (p : Bytes) (w : World) (hx : x.length = 64) (hB : Blk w g 100 (dgs v x nx len).toArray) (hp : Rd w A p) (hc : p.length ≤ c) (hK : KT w) :
    Calls Tryz.prog 86 #[pt g 0, .slice A p.length c] w (Ret [g] w fun _ w' => Blk w' g 100 (dgs (blocks v p) x nx len).toArray) := by
  refine enter (Γ := [(0, .ex (pt g 0)), (1, .ex (.slice A p.length c))]) Tryz.func86 rfl rfl rfl ⟨⟨_, rfl, rfl⟩, ⟨_, rfl, rfl⟩, trivial⟩ ?_
  repeat (first | refine t_seq ?_ | refine t_region ?_ | refine s_nil ?_ | refine p_then ?_ | refine t_ret ?_ | refine p_then_ret ?_ | refine p_block_ret ?_ | refine t_block ?_ | refine t_exit ?_ | refine p_then_exit ?_ | refine p_block_exit ?_ | refine p_block ?_ | refine t_skip ?_)
  refine s_val (v_move rfl) rfl ?_
  refine s_val (v_move rfl) rfl ?_
  refine s_op (o_call rfl (en rfl) (c99 g v x nx len A c p w hx hB hp hc hK)) rfl rfl ?_
  rintro v1 w1 hw1 hB1
  repeat (first | refine t_seq ?_ | refine t_region ?_ | refine s_nil ?_ | refine p_then ?_ | refine t_ret ?_ | refine p_then_ret ?_ | refine p_block_ret ?_ | refine t_block ?_ | refine t_exit ?_ | refine p_then_exit ?_ | refine p_block_exit ?_ | refine p_block ?_ | refine t_skip ?_)
  exact end0 rfl ⟨_, rfl, hw1, hB1⟩

/-- The digest at g has taken in these bytes. -/
structure Sha (w : World) (g : Nat) (body pend x : Bytes) (n : Nat) : Prop where
  whole : 64 ∣ body.length
  part : pend.length < 64
  len : x.length = 64
  has : x.take pend.length = pend
  blk : Blk w g 100 (dgs (blocks shaIV body) x pend.length n).toArray
def ShaAt (w : World) (g : Nat) (data : Bytes) : Prop := ∃ body pend x, data = body ++ pend ∧ Sha w g body pend x data.length
theorem ShaAt.only {w w' : World} {g : Nat} {data : Bytes} {fp : List Nat} (h : ShaAt w g data) (k : Only fp w w') (hg : g ∉ fp) : ShaAt w' g data := by
  obtain ⟨body, pend, x, e, h⟩ := h
  exact ⟨body, pend, x, e, h.whole, h.part, h.len, h.has, h.blk.only k hg⟩
theorem ShaAt.lt {w : World} {g : Nat} {data : Bytes} (h : ShaAt w g data) : g < w.heap.size := by
  obtain ⟨body, pend, x, e, h⟩ := h
  exact h.blk.lt
theorem ShaAt.new {w : World} {g : Nat} {x : Bytes} (hx : x.length = 64) (h : Blk w g 100 (dgs shaIV x 0 0).toArray) : ShaAt w g [] :=
  ⟨[], [], x, rfl, ⟨0, rfl⟩, by decide, hx, rfl, by rw [blocks_short _ (by decide)]; exact h⟩
theorem dgs_splC (v : Regs) {x : Bytes} (hx : x.length = 64) (nx len i : Nat) (m : Bytes) (h : i + m.length ≤ 64) : splC (dgs v x nx len).toArray (0 + 8 + i) m = (dgs v (spl x i m) nx len).toArray := by
  apply Array.ext'
  simp only [splC, dgs, spl]
  rw [show 0 + 8 + i = i + 8 from by omega, show i + 8 + m.length = (i + m.length) + 8 from by omega]
  simp only [List.take_succ_cons, List.drop_succ_cons, List.cons_append]
  rw [List.take_append_of_le_length (by simp; omega), List.drop_append_of_le_length (by simp; omega)]
  simp [List.map_take, List.map_drop]
structure WS where
  body : Bytes
  pend : Bytes
  x : Bytes
  q : Bytes
  A : Option Addr
  c : Nat
structure WS3 where
  body : Bytes
  pend : Bytes
  x : Bytes
theorem dgs_rd {w : World} {g : Nat} {v : Regs} {x : Bytes} (hx : x.length = 64) {nx len : Nat} (h : Blk w g 100 (dgs v x nx len).toArray) : Rd w (some ⟨g, 0 + 8, none⟩) x := fun _ => by
  refine ⟨g, 0 + 8, rfl, h.lt, fun j b hb => h.cell _ ?_⟩
  have hj : j < x.length := (List.getElem?_eq_some_iff.1 hb).1
  rw [show 0 + 8 + j = 8 + j from by omega, dgs_x v hx nx len j (by omega)]
  simp [List.getD_eq_getElem?_getD, hb]
theorem Rd.take {w : World} {A : Option Addr} {l : Bytes} (h : Rd w A l) (n : Nat) : Rd w A (l.take n) := fun hne => by
  obtain ⟨g, i, e, hg, hc⟩ := h (by rintro rfl; simp at hne)
  exact ⟨g, i, e, hg, fun j b hb => hc j b (by rw [List.getElem?_take] at hb; split at hb; exact hb; cases hb)⟩
theorem spl_take {x pend m : Bytes} (hx : x.take pend.length = pend) (_h : pend.length + m.length ≤ x.length) : (spl x pend.length m).take (pend ++ m).length = pend ++ m := by
  rw [spl, hx, ← List.append_assoc, List.take_left]

set_option maxHeartbeats 1000000 in
/-- (*sha256.Digest).Write -/
theorem c66 (g : Nat) (data : Bytes) (A : Option Addr) (c : Nat) (p : Bytes) (w : World) (hB : ShaAt w g data) (hp : Rd w A p) (ho : p ≠ [] → Off A [g]) (hc : p.length ≤ c) (hK : KT w) (h0 : g ≠ 0) (hn : data.length < 1000000000) (hpn : p.length ≤ 65536) :
    Calls Tryz.prog 66 #[pt g 0, .slice A p.length c] w (Ret [g] w fun v w' => v = .tuple #[I p.length, .nilIface] ∧ ShaAt w' g (data ++ p)) := by
  obtain ⟨body, pend, x, rfl, hS⟩ := hB
  have hx := hS.len
  have hpart := hS.part
  have hB := hS.blk
  have hbody : body.length < 1000000000 := by simp at hn; omega
  have hK' : ∀ w', Only [g] w w' → KT w' := fun w' h => hK.only h (by simp; omega)
  refine enter (Γ := [(0, .ex (pt g 0)), (1, .ex (.slice A p.length c))]) Tryz.func66 rfl rfl rfl ⟨⟨_, rfl, rfl⟩, ⟨_, rfl, rfl⟩, trivial⟩ ?_
  repeat (first | refine t_seq ?_ | refine t_region ?_ | refine s_nil ?_ | refine p_then ?_ | refine t_ret ?_ | refine p_then_ret ?_ | refine p_block_ret ?_ | refine t_block ?_ | refine t_exit ?_ | refine p_then_exit ?_ | refine p_block_exit ?_ | refine p_block ?_ | refine t_skip ?_)
  refine s_val (v_assign rfl) rfl ?_
  refine s_val (v_assign rfl) rfl ?_
  repeat (first | refine t_seq ?_ | refine t_region ?_ | refine s_nil ?_ | refine p_then ?_ | refine t_ret ?_ | refine p_then_ret ?_ | refine p_block_ret ?_ | refine t_block ?_ | refine t_exit ?_ | refine p_then_exit ?_ | refine p_block_exit ?_ | refine p_block ?_ | refine t_skip ?_)
  refine s_val (v_move rfl) rfl ?_
  refine s_val (v_len rfl (so rfl) rfl) rfl ?_
  refine s_val (v_assign rfl) rfl ?_
  repeat (first | refine t_seq ?_ | refine t_region ?_ | refine s_nil ?_ | refine p_then ?_ | refine t_ret ?_ | refine p_then_ret ?_ | refine p_block_ret ?_ | refine t_block ?_ | refine t_exit ?_ | refine p_then_exit ?_ | refine p_block_exit ?_ | refine p_block ?_ | refine t_skip ?_)
  refine s_val (v_move rfl) rfl ?_
  first | refine s_val (v_nilCheck rfl) rfl ?_ | refine s_val (v_nilCheck_iface rfl) rfl ?_
  refine s_val (v_fieldAddr rfl (fo rfl)) rfl ?_
  refine s_val (v_load1 rfl (sc rfl) (by first | exact hB.cell _ (dgs_len _ hx _ _) | assumption)) rfl ?_
  refine s_val (v_move rfl) rfl ?_
  refine s_val (v_convIL rfl (ko rfl) (ko rfl) (by omega)) rfl ?_
  refine s_val (v_addL rfl rfl (by omega)) rfl ?_
  first | refine s_val (v_nilCheck rfl) rfl ?_ | refine s_val (v_nilCheck_iface rfl) rfl ?_
  refine s_val (v_fieldAddr rfl (fo rfl)) rfl ?_
  refine s_store rfl rfl (si rfl) hB (by simp [dgs_length _ hx]) rfl rfl (fun w1 hw1 hB1 => ?_)
  rw [show 0 + 73 = 73 from rfl, dgs_set_len _ hx] at hB1
  refine s_nil (p_then ?_)
  refine t_cut (fun s : WS => [(0, .ex (pt g 0)), (1, .ex (.slice s.A s.q.length s.c)), (4, .ex (I p.length)), (5, .ex .nilIface)])
    (fun s w' => Only [g] w w' ∧ s.body ++ s.pend ++ s.q = body ++ pend ++ p ∧ (s.pend = [] ∨ s.q = []) ∧ Rd w s.A s.q ∧ (s.q ≠ [] → Off s.A [g]) ∧ s.q.length ≤ s.c ∧ s.q.length ≤ 65536 ∧ Sha w' g s.body s.pend s.x ((body ++ pend).length + p.length)) ?_ ?_
  · repeat (first | refine t_seq ?_ | refine t_region ?_ | refine s_nil ?_ | refine p_then ?_ | refine t_ret ?_ | refine p_then_ret ?_ | refine p_block_ret ?_ | refine t_block ?_ | refine t_exit ?_ | refine p_then_exit ?_ | refine p_block_exit ?_ | refine p_block ?_ | refine t_skip ?_)
    refine s_val (v_move rfl) rfl ?_
    first | refine s_val (v_nilCheck rfl) rfl ?_ | refine s_val (v_nilCheck_iface rfl) rfl ?_
    refine s_val (v_fieldAddr rfl (fo rfl)) rfl ?_
    refine s_val (v_load1 rfl (sc rfl) (by first | exact hB1.cell _ (dgs_nx _ hx _ _) | assumption)) rfl ?_
    refine s_val (v_gtI rfl rfl) rfl ?_
    repeat (first | refine t_seq ?_ | refine t_region ?_ | refine s_nil ?_ | refine p_then ?_ | refine t_ret ?_ | refine p_then_ret ?_ | refine p_block_ret ?_ | refine t_block ?_ | refine t_exit ?_ | refine p_then_exit ?_ | refine p_block_exit ?_ | refine p_block ?_ | refine t_skip ?_)
    refine t_if rfl (fun hb => ?_) (fun hb => ?_)
    · clear hb
      obtain ⟨m, hm⟩ : ∃ m, m = min (64 - pend.length) p.length := ⟨_, rfl⟩
      have hml : (p.take (64 - pend.length)).length = m := by simp [hm]
      repeat (first | refine t_seq ?_ | refine t_region ?_ | refine s_nil ?_ | refine p_then ?_ | refine t_ret ?_ | refine p_then_ret ?_ | refine p_block_ret ?_ | refine t_block ?_ | refine t_exit ?_ | refine p_then_exit ?_ | refine p_block_exit ?_ | refine p_block ?_ | refine t_skip ?_)
      refine t_drawO 9 (by kernel_rfl) rfl ?_
      refine fk_val (Only.refl _) (fun wF hR => v_move rfl) ?_
      first | refine fk_val (Only.refl _) (fun wF hR => v_nilCheck rfl) ?_ | refine fk_val (Only.refl _) (fun wF hR => v_nilCheck_iface rfl) ?_
      refine fk_val (Only.refl _) (fun wF hR => v_fieldAddr rfl (fo rfl)) ?_
      refine fk_val (Only.refl _) (fun wF hR => v_move rfl) ?_
      first | refine fk_val (Only.refl _) (fun wF hR => v_nilCheck rfl) ?_ | refine fk_val (Only.refl _) (fun wF hR => v_nilCheck_iface rfl) ?_
      refine fk_val (Only.refl _) (fun wF hR => v_fieldAddr rfl (fo rfl)) ?_
      refine fk_val (Only.refl _) (fun wF hR => v_load1 rfl (sc rfl) (by first | exact (hB1.only hR (by simp)).cell _ (dgs_nx _ hx _ _) | assumption)) ?_
      refine fk_val (Only.refl _) (fun wF hR => v_sliceArrLo rfl rfl (al rfl) (by omega)) ?_
      refine fk_val (Only.refl _) (fun wF hR => v_move rfl) ?_
      refine fk_nil (fun w2 hw2 => ?_)
      have hB2 := hB1.only hw2 (by simp)
      have hp2 := (hp.only hw1 ho).pure hw2
      refine s_op (o_copy rt24 rfl rfl rfl hB2 hp2 (fun _ => rfl) (by simp [dgs_length _ hx]; omega)) rfl rfl ?_
      rintro _ w3 hw3 ⟨rfl, hB3⟩
      refine s_val (v_assign rfl) rfl ?_
      rw [dgs_splC _ hx _ _ _ _ (by omega)] at hB3
      rw [← hm]
      have hx' : (spl x pend.length (p.take (64 - pend.length))).length = 64 := by rw [spl_length (by omega)]; exact hx
      have hw03 := (hw1.trans (hw2.mono (by simp))).trans hw3
      repeat (first | refine t_seq ?_ | refine t_region ?_ | refine s_nil ?_ | refine p_then ?_ | refine t_ret ?_ | refine p_then_ret ?_ | refine p_block_ret ?_ | refine t_block ?_ | refine t_exit ?_ | refine p_then_exit ?_ | refine p_block_exit ?_ | refine p_block ?_ | refine t_skip ?_)
      refine s_val (v_move rfl) rfl ?_
      first | refine s_val (v_nilCheck rfl) rfl ?_ | refine s_val (v_nilCheck_iface rfl) rfl ?_
      refine s_val (v_fieldAddr rfl (fo rfl)) rfl ?_
      refine s_val (v_load1 rfl (sc rfl) (by first | exact hB3.cell _ (dgs_nx _ hx' _ _) | assumption)) rfl ?_
      refine s_val (v_move rfl) rfl ?_
      refine s_val (v_addI rfl rfl (by omega)) rfl ?_
      first | refine s_val (v_nilCheck rfl) rfl ?_ | refine s_val (v_nilCheck_iface rfl) rfl ?_
      refine s_val (v_fieldAddr rfl (fo rfl)) rfl ?_
      refine s_store rfl rfl (si rfl) hB3 (by simp [dgs_length _ hx']) rfl rfl (fun w4 hw4 hB4 => ?_)
      rw [show 0 + 72 = 72 from rfl, dgs_set_nx _ hx'] at hB4
      have hw04 := hw03.trans hw4
      have htk := spl_take (m := p.take (64 - pend.length)) hS.has (by omega)
      refine s_nil (p_then ?_)
      refine t_cut (fun _ : WS3 => [(0, .ex (pt g 0)), (1, .ex (.slice A p.length c)), (4, .ex (I p.length)), (5, .ex .nilIface), (6, .ex (I m))])
        (fun s w' => Only [g] w w' ∧ s.body ++ s.pend ++ p.drop m = body ++ pend ++ p ∧ (s.pend = [] ∨ p.drop m = []) ∧ Sha w' g s.body s.pend s.x ((body ++ pend).length + p.length)) ?_ ?_
      · repeat (first | refine t_seq ?_ | refine t_region ?_ | refine s_nil ?_ | refine p_then ?_ | refine t_ret ?_ | refine p_then_ret ?_ | refine p_block_ret ?_ | refine t_block ?_ | refine t_exit ?_ | refine p_then_exit ?_ | refine p_block_exit ?_ | refine p_block ?_ | refine t_skip ?_)
        refine s_val (v_move rfl) rfl ?_
        first | refine s_val (v_nilCheck rfl) rfl ?_ | refine s_val (v_nilCheck_iface rfl) rfl ?_
        refine s_val (v_fieldAddr rfl (fo rfl)) rfl ?_
        refine s_val (v_load1 rfl (sc rfl) (by first | exact hB4.cell _ (dgs_nx _ hx' _ _) | assumption)) rfl ?_
        refine s_val (v_eqI rfl rfl) rfl ?_
        repeat (first | refine t_seq ?_ | refine t_region ?_ | refine s_nil ?_ | refine p_then ?_ | refine t_ret ?_ | refine p_then_ret ?_ | refine p_block_ret ?_ | refine t_block ?_ | refine t_exit ?_ | refine p_then_exit ?_ | refine p_block_exit ?_ | refine p_block ?_ | refine t_skip ?_)
        refine t_if rfl (fun hb => ?_) (fun hb => ?_)
        · have h64 : pend.length + m = 64 := by have := eq_of_beq hb; omega
          clear hb
          have hxe : spl x pend.length (p.take (64 - pend.length)) = pend ++ p.take m := by
            rw [show (pend ++ p.take (64 - pend.length)).length = 64 by simp; omega, List.take_of_length_le (Nat.le_of_eq hx')] at htk
            rw [htk, show 64 - pend.length = m from by omega]
          have hcall := c86 g (blocks shaIV body) _ (pend.length + m) ((body ++ pend).length + p.length) (some ⟨g, 0 + 8, none⟩) 64 _ w4 hx' hB4 (dgs_rd hx' hB4) (by omega) (hK' _ hw04)
          rw [hx'] at hcall
          repeat (first | refine t_seq ?_ | refine t_region ?_ | refine s_nil ?_ | refine p_then ?_ | refine t_ret ?_ | refine p_then_ret ?_ | refine p_block_ret ?_ | refine t_block ?_ | refine t_exit ?_ | refine p_then_exit ?_ | refine p_block_exit ?_ | refine p_block ?_ | refine t_skip ?_)
          refine s_val (v_move rfl) rfl ?_
          refine s_val (v_move rfl) rfl ?_
          first | refine s_val (v_nilCheck rfl) rfl ?_ | refine s_val (v_nilCheck_iface rfl) rfl ?_
          refine s_val (v_fieldAddr rfl (fo rfl)) rfl ?_
          refine s_val (v_sliceArr rfl (al rfl)) rfl ?_
          refine s_op (o_call rfl (en rfl) hcall) rfl rfl ?_
          rintro _ w5 hw5 hB5
          rw [← blocks_append _ _ _ hS.whole] at hB5
          repeat (first | refine t_seq ?_ | refine t_region ?_ | refine s_nil ?_ | refine p_then ?_ | refine t_ret ?_ | refine p_then_ret ?_ | refine p_block_ret ?_ | refine t_block ?_ | refine t_exit ?_ | refine p_then_exit ?_ | refine p_block_exit ?_ | refine p_block ?_ | refine t_skip ?_)
          refine s_val (v_move rfl) rfl ?_
          first | refine s_val (v_nilCheck rfl) rfl ?_ | refine s_val (v_nilCheck_iface rfl) rfl ?_
          refine s_val (v_fieldAddr rfl (fo rfl)) rfl ?_
          refine s_store (v := I 0) rfl rfl (si rfl) hB5 (by simp [dgs_length _ hx']) rfl rfl (fun w6 hw6 hB6 => ?_)
          rw [show 0 + 72 = 72 from rfl, dgs_set_nx _ hx'] at hB6
          repeat (first | refine t_seq ?_ | refine t_region ?_ | refine s_nil ?_ | refine p_then ?_ | refine t_ret ?_ | refine p_then_ret ?_ | refine p_block_ret ?_ | refine t_block ?_ | refine t_exit ?_ | refine p_then_exit ?_ | refine p_block_exit ?_ | refine p_block ?_ | refine t_skip ?_)
          refine p_cut ⟨body ++ spl x pend.length (p.take (64 - pend.length)), [], spl x pend.length (p.take (64 - pend.length))⟩ ⟨rfl, rfl, rfl, rfl, rfl, trivial⟩ ⟨(hw04.trans hw5).trans hw6, ?_, .inl rfl, ?_, by show 0 < 64; omega, hx', rfl, hB6⟩
          · show body ++ spl x pend.length (p.take (64 - pend.length)) ++ [] ++ p.drop m = _
            rw [hxe]; simp
          · show 64 ∣ (body ++ spl x pend.length (p.take (64 - pend.length))).length
            rw [List.length_append, hx']
            exact Nat.dvd_add hS.whole ⟨1, rfl⟩
        · have h64 : pend.length + m ≠ 64 := by have := ne_of_beq_false hb; omega
          clear hb
          have hmp : m = p.length := by omega
          have htp : p.take (64 - pend.length) = p := List.take_of_length_le (by omega)
          rw [htp] at htk hx' hB4
          repeat (first | refine t_seq ?_ | refine t_region ?_ | refine s_nil ?_ | refine p_then ?_ | refine t_ret ?_ | refine p_then_ret ?_ | refine p_block_ret ?_ | refine t_block ?_ | refine t_exit ?_ | refine p_then_exit ?_ | refine p_block_exit ?_ | refine p_block ?_ | refine t_skip ?_)
          refine p_cut ⟨body, pend ++ p, spl x pend.length p⟩ ⟨rfl, rfl, rfl, rfl, rfl, trivial⟩ ⟨hw04, ?_, .inr (by rw [hmp]; simp), hS.whole, by show (pend ++ p).length < 64; simp; omega, hx', htk, ?_⟩
          · show body ++ (pend ++ p) ++ p.drop m = _
            rw [hmp]; simp
          · show Blk w4 g 100 (dgs (blocks shaIV body) (spl x pend.length p) (pend ++ p).length _).toArray
            rw [show (pend ++ p).length = pend.length + m by simp; omega]; exact hB4
      · rintro ⟨body1, pend1, x1⟩ w5 ⟨hw5, he, hor, hS5⟩
        simp only at he hor hS5
        have hcut := hp.cut m (p.length - m) (m := c) (fun _ _ => by omega) (by omega)
        rw [List.take_of_length_le (by simp : (p.drop m).length ≤ p.length - m)] at hcut
        repeat (first | refine t_seq ?_ | refine t_region ?_ | refine s_nil ?_ | refine p_then ?_ | refine t_ret ?_ | refine p_then_ret ?_ | refine p_block_ret ?_ | refine t_block ?_ | refine t_exit ?_ | refine p_then_exit ?_ | refine p_block_exit ?_ | refine p_block ?_ | refine t_skip ?_)
        refine s_val (v_move rfl) rfl ?_
        refine s_val (v_move rfl) rfl ?_
        refine s_val (v_sliceLo rfl rfl (so rfl) (by omega)) rfl ?_
        refine s_val (v_assign rfl) rfl ?_
        repeat (first | refine t_seq ?_ | refine t_region ?_ | refine s_nil ?_ | refine p_then ?_ | refine t_ret ?_ | refine p_then_ret ?_ | refine p_block_ret ?_ | refine t_block ?_ | refine t_exit ?_ | refine p_then_exit ?_ | refine p_block_exit ?_ | refine p_block ?_ | refine t_skip ?_)
        exact p_cut ⟨body1, pend1, x1, p.drop m, if c = m then A else Option.map (fun x : Addr => x.add (m * 1)) A, c - m⟩ ⟨rfl, by rw [List.length_drop]; rfl, rfl, rfl, trivial⟩
          ⟨hw5, he, hor, hcut, fun h => (ho (by rintro rfl; simp at h)).cut m c, by show (p.drop m).length ≤ c - m; simp; omega, by show (p.drop m).length ≤ 65536; simp; omega, hS5⟩
    · have hp0 : pend = [] := by
        have := of_decide_eq_false hb
        exact List.eq_nil_of_length_eq_zero (by omega)
      repeat (first | refine t_seq ?_ | refine t_region ?_ | refine s_nil ?_ | refine p_then ?_ | refine t_ret ?_ | refine p_then_ret ?_ | refine p_block_ret ?_ | refine t_block ?_ | refine t_exit ?_ | refine p_then_exit ?_ | refine p_block_exit ?_ | refine p_block ?_ | refine t_skip ?_)
      exact p_cut ⟨body, pend, x, p, A, c⟩ ⟨rfl, rfl, rfl, rfl, trivial⟩ ⟨hw1, rfl, .inl hp0, hp, ho, hc, hpn, hS.whole, hS.part, hx, hS.has, hB1⟩
  · rintro ⟨body1, pend1, x1, q, A, c⟩ w2 ⟨hw2, he, hor, hq, ho, hc, hqn, hS2⟩
    simp only at he hor hq ho hc hqn hS2
    refine t_weak [(0, .ex (pt g 0)), (1, .ex (.slice A q.length c)), (4, .ex (I p.length)), (5, .ex .nilIface)] ⟨rfl, rfl, rfl, rfl, trivial⟩ ?_
    refine t_cut (fun s : WS => [(0, .ex (pt g 0)), (1, .ex (.slice s.A s.q.length s.c)), (4, .ex (I p.length)), (5, .ex .nilIface)])
      (fun s w' => Only [g] w w' ∧ s.body ++ s.pend ++ s.q = body ++ pend ++ p ∧ (s.pend = [] ∨ s.q = []) ∧ Rd w s.A s.q ∧ (s.q ≠ [] → Off s.A [g]) ∧ s.q.length ≤ s.c ∧ s.q.length < 64 ∧ Sha w' g s.body s.pend s.x ((body ++ pend).length + p.length)) ?_ ?_
    · repeat (first | refine t_seq ?_ | refine t_region ?_ | refine s_nil ?_ | refine p_then ?_ | refine t_ret ?_ | refine p_then_ret ?_ | refine p_block_ret ?_ | refine t_block ?_ | refine t_exit ?_ | refine p_then_exit ?_ | refine p_block_exit ?_ | refine p_block ?_ | refine t_skip ?_)
      refine s_val (v_move rfl) rfl ?_
      refine s_val (v_len rfl (so rfl) rfl) rfl ?_
      refine s_val (v_geI rfl rfl) rfl ?_
      repeat (first | refine t_seq ?_ | refine t_region ?_ | refine s_nil ?_ | refine p_then ?_ | refine t_ret ?_ | refine p_then_ret ?_ | refine p_block_ret ?_ | refine t_block ?_ | refine t_exit ?_ | refine p_then_exit ?_ | refine p_block_exit ?_ | refine p_block ?_ | refine t_skip ?_)
      refine t_if rfl (fun hb => ?_) (fun hb => ?_)
      · have h64 : 64 ≤ q.length := by have := of_decide_eq_true hb; omega
        clear hb
        have hp1 : pend1 = [] := hor.resolve_right (by rintro rfl; simp at h64)
        subst hp1
        have hx1 := hS2.len
        repeat (first | refine t_seq ?_ | refine t_region ?_ | refine s_nil ?_ | refine p_then ?_ | refine t_ret ?_ | refine p_then_ret ?_ | refine p_block_ret ?_ | refine t_block ?_ | refine t_exit ?_ | refine p_then_exit ?_ | refine p_block_exit ?_ | refine p_block ?_ | refine t_skip ?_)
        refine s_val (v_move rfl) rfl ?_
        refine s_val (v_len rfl (so rfl) rfl) rfl ?_
        refine s_val (v_andNot63 rfl (by omega)) rfl ?_
        refine s_val (v_assign rfl) rfl ?_
        repeat (first | refine t_seq ?_ | refine t_region ?_ | refine s_nil ?_ | refine p_then ?_ | refine t_ret ?_ | refine p_then_ret ?_ | refine p_block_ret ?_ | refine t_block ?_ | refine t_exit ?_ | refine p_then_exit ?_ | refine p_block_exit ?_ | refine p_block ?_ | refine t_skip ?_)
        refine t_loop (fun _ : Unit => [(0, .ex (pt g 0)), (1, .ex (.slice A q.length c)), (4, .ex (I p.length)), (5, .ex .nilIface), (7, .ex (I (q.length / 64 * 64)))]) (fun _ w' => w2 = w') (fun _ => 0) () ⟨rfl, rfl, rfl, rfl, rfl, trivial⟩ rfl ?_
        rintro _ _ rfl
        repeat (first | refine t_seq ?_ | refine t_region ?_ | refine s_nil ?_ | refine p_then ?_ | refine t_ret ?_ | refine p_then_ret ?_ | refine p_block_ret ?_ | refine t_block ?_ | refine t_exit ?_ | refine p_then_exit ?_ | refine p_block_exit ?_ | refine p_block ?_ | refine t_skip ?_)
        refine s_val (v_move rfl) rfl ?_
        refine s_val (v_gtI rfl rfl) rfl ?_
        repeat (first | refine t_seq ?_ | refine t_region ?_ | refine s_nil ?_ | refine p_then ?_ | refine t_ret ?_ | refine p_then_ret ?_ | refine p_block_ret ?_ | refine t_block ?_ | refine t_exit ?_ | refine p_then_exit ?_ | refine p_block_exit ?_ | refine p_block ?_ | refine t_skip ?_)
        refine t_if rfl (fun hb => ?_) (fun hb => ?_)
        · exfalso
          have := of_decide_eq_true hb
          omega
        clear hb
        have hq2 := (hq.take (q.length / 64 * 64)).only hw2 (fun h => ho (by rintro rfl; simp at h))
        have hcall := c86 g (blocks shaIV body1) x1 0 ((body ++ pend).length + p.length) A c (q.take (q.length / 64 * 64)) w2 hx1 hS2.blk hq2 (by simp; omega) (hK' _ hw2)
        rw [show (q.take (q.length / 64 * 64)).length = q.length / 64 * 64 by simp; omega] at hcall
        rw [← blocks_append _ _ _ hS2.whole] at hcall
        have hcut := hq.cut (q.length / 64 * 64) (q.length - q.length / 64 * 64) (m := c) (fun _ _ => by omega) (by omega)
        rw [List.take_of_length_le (by simp : (q.drop (q.length / 64 * 64)).length ≤ q.length - q.length / 64 * 64)] at hcut
        repeat (first | refine t_seq ?_ | refine t_region ?_ | refine s_nil ?_ | refine p_then ?_ | refine t_ret ?_ | refine p_then_ret ?_ | refine p_block_ret ?_ | refine t_block ?_ | refine t_exit ?_ | refine p_then_exit ?_ | refine p_block_exit ?_ | refine p_block ?_ | refine t_skip ?_)
        refine s_val (v_move rfl) rfl ?_
        refine s_val (v_move rfl) rfl ?_
        refine s_val (v_move rfl) rfl ?_
        refine s_val (v_sliceHi rfl rfl (so rfl) (by omega)) rfl ?_
        refine s_op (o_call rfl (en rfl) hcall) rfl rfl ?_
        rintro _ w5 hw5 hB5
        repeat (first | refine t_seq ?_ | refine t_region ?_ | refine s_nil ?_ | refine p_then ?_ | refine t_ret ?_ | refine p_then_ret ?_ | refine p_block_ret ?_ | refine t_block ?_ | refine t_exit ?_ | refine p_then_exit ?_ | refine p_block_exit ?_ | refine p_block ?_ | refine t_skip ?_)
        refine s_val (v_move rfl) rfl ?_
        refine s_val (v_move rfl) rfl ?_
        refine s_val (v_sliceLo rfl rfl (so rfl) (by omega)) rfl ?_
        refine s_val (v_assign rfl) rfl ?_
        repeat (first | refine t_seq ?_ | refine t_region ?_ | refine s_nil ?_ | refine p_then ?_ | refine t_ret ?_ | refine p_then_ret ?_ | refine p_block_ret ?_ | refine t_block ?_ | refine t_exit ?_ | refine p_then_exit ?_ | refine p_block_exit ?_ | refine p_block ?_ | refine t_skip ?_)
        refine p_cut ⟨body1 ++ q.take (q.length / 64 * 64), [], x1, q.drop (q.length / 64 * 64), if c = q.length / 64 * 64 then A else Option.map (fun x : Addr => x.add ((q.length / 64 * 64) * 1)) A, c - q.length / 64 * 64⟩ ⟨rfl, by rw [List.length_drop]; rfl, rfl, rfl, trivial⟩
          ⟨hw2.trans hw5, ?_, .inl rfl, hcut, fun h => (ho (by rintro rfl; simp at h)).cut _ c, by show (q.drop _).length ≤ c - _; simp; omega, by show (q.drop _).length < 64; simp; omega, ?_, by show 0 < 64; omega, hx1, rfl, hB5⟩
        · show body1 ++ q.take (q.length / 64 * 64) ++ [] ++ q.drop (q.length / 64 * 64) = _
          rw [← he]; simp
        · show 64 ∣ (body1 ++ q.take (q.length / 64 * 64)).length
          rw [List.length_append, List.length_take, Nat.min_eq_left (by omega)]
          exact Nat.dvd_add hS2.whole ⟨q.length / 64, Nat.mul_comm _ _⟩
      · have h64 : q.length < 64 := by have := of_decide_eq_false hb; omega
        repeat (first | refine t_seq ?_ | refine t_region ?_ | refine s_nil ?_ | refine p_then ?_ | refine t_ret ?_ | refine p_then_ret ?_ | refine p_block_ret ?_ | refine t_block ?_ | refine t_exit ?_ | refine p_then_exit ?_ | refine p_block_exit ?_ | refine p_block ?_ | refine t_skip ?_)
        exact p_cut ⟨body1, pend1, x1, q, A, c⟩ ⟨rfl, rfl, rfl, rfl, trivial⟩ ⟨hw2, he, hor, hq, ho, hc, h64, hS2⟩
    · clear hq ho hc hqn hS2 hw2 hor he
      rintro ⟨body1, pend1, x1, q, A, c⟩ w3 ⟨hw3, he, hor, hq, ho, hc, hqn, hS3⟩
      simp only at he hor hq ho hc hqn hS3
      refine t_weak [(0, .ex (pt g 0)), (1, .ex (.slice A q.length c)), (4, .ex (I p.length)), (5, .ex .nilIface)] ⟨rfl, rfl, rfl, rfl, trivial⟩ ?_
      have hx1 := hS3.len
      have hlen : (body ++ pend).length + p.length = (body ++ pend ++ p).length := by simp [Nat.add_assoc]
      refine t_cut (fun _ : Unit => [(4, .ex (I p.length)), (5, .ex .nilIface)]) (fun _ w' => Only [g] w w' ∧ ShaAt w' g (body ++ pend ++ p)) ?_ ?_
      · repeat (first | refine t_seq ?_ | refine t_region ?_ | refine s_nil ?_ | refine p_then ?_ | refine t_ret ?_ | refine p_then_ret ?_ | refine p_block_ret ?_ | refine t_block ?_ | refine t_exit ?_ | refine p_then_exit ?_ | refine p_block_exit ?_ | refine p_block ?_ | refine t_skip ?_)
        refine s_val (v_move rfl) rfl ?_
        refine s_val (v_len rfl (so rfl) rfl) rfl ?_
        refine s_val (v_gtI rfl rfl) rfl ?_
        repeat (first | refine t_seq ?_ | refine t_region ?_ | refine s_nil ?_ | refine p_then ?_ | refine t_ret ?_ | refine p_then_ret ?_ | refine p_block_ret ?_ | refine t_block ?_ | refine t_exit ?_ | refine p_then_exit ?_ | refine p_block_exit ?_ | refine p_block ?_ | refine t_skip ?_)
        refine t_if rfl (fun hb => ?_) (fun hb => ?_)
        · have hq0 : q ≠ [] := by
            rintro rfl
            have := of_decide_eq_true hb
            simp at this
          clear hb
          have hp1 : pend1 = [] := hor.resolve_right hq0
          subst hp1
          have hBc := hS3.blk
          have hq3 := hq.only hw3 ho
          repeat (first | refine t_seq ?_ | refine t_region ?_ | refine s_nil ?_ | refine p_then ?_ | refine t_ret ?_ | refine p_then_ret ?_ | refine p_block_ret ?_ | refine t_block ?_ | refine t_exit ?_ | refine p_then_exit ?_ | refine p_block_exit ?_ | refine p_block ?_ | refine t_skip ?_)
          refine s_val (v_move rfl) rfl ?_
          refine s_val (v_move rfl) rfl ?_
          first | refine s_val (v_nilCheck rfl) rfl ?_ | refine s_val (v_nilCheck_iface rfl) rfl ?_
          refine s_val (v_fieldAddr rfl (fo rfl)) rfl ?_
          refine s_val (v_sliceArr rfl (al rfl)) rfl ?_
          refine s_val (v_move rfl) rfl ?_
          refine s_op (o_copy (i := 0 + 8 + 0) rt24 rfl rfl rfl hBc hq3 (fun _ => rfl) (by simp [dgs_length _ hx1]; omega)) rfl rfl ?_
          rintro _ w4 hw4 ⟨rfl, hB4⟩
          rw [dgs_splC _ hx1 _ _ _ _ (by simp; omega), List.take_of_length_le (by omega)] at hB4
          rw [show min 64 q.length = q.length from by omega]
          have hx' : (spl x1 0 q).length = 64 := by rw [spl_length (by omega)]; exact hx1
          first | refine s_val (v_nilCheck rfl) rfl ?_ | refine s_val (v_nilCheck_iface rfl) rfl ?_
          refine s_val (v_fieldAddr rfl (fo rfl)) rfl ?_
          refine s_store rfl rfl (si rfl) hB4 (by simp [dgs_length _ hx']) rfl rfl (fun w5 hw5 hB5 => ?_)
          rw [show 0 + 72 = 72 from rfl, dgs_set_nx _ hx'] at hB5
          have htk := spl_take (x := x1) (pend := []) (m := q) rfl (by simp; omega)
          repeat (first | refine t_seq ?_ | refine t_region ?_ | refine s_nil ?_ | refine p_then ?_ | refine t_ret ?_ | refine p_then_ret ?_ | refine p_block_ret ?_ | refine t_block ?_ | refine t_exit ?_ | refine p_then_exit ?_ | refine p_block_exit ?_ | refine p_block ?_ | refine t_skip ?_)
          refine p_cut () ⟨rfl, rfl, trivial⟩ ⟨(hw3.trans hw4).trans hw5, ?_⟩
          refine ⟨body1, q, spl x1 0 q, by rw [← he]; simp, hS3.whole, hqn, hx', htk, ?_⟩
          rw [← hlen]; exact hB5
        · have hq0 : q = [] := by
            have := of_decide_eq_false hb
            exact List.eq_nil_of_length_eq_zero (by omega)
          subst hq0
          repeat (first | refine t_seq ?_ | refine t_region ?_ | refine s_nil ?_ | refine p_then ?_ | refine t_ret ?_ | refine p_then_ret ?_ | refine p_block_ret ?_ | refine t_block ?_ | refine t_exit ?_ | refine p_then_exit ?_ | refine p_block_exit ?_ | refine p_block ?_ | refine t_skip ?_)
          refine p_cut () ⟨rfl, rfl, trivial⟩ ⟨hw3, body1, pend1, x1, by rw [← he]; simp, ?_⟩
          rw [← hlen]; exact hS3
      · rintro _ w4 ⟨hw4, hS4⟩
        repeat (first | refine t_seq ?_ | refine t_region ?_ | refine s_nil ?_ | refine p_then ?_ | refine t_ret ?_ | refine p_then_ret ?_ | refine p_block_ret ?_ | refine t_block ?_ | refine t_exit ?_ | refine p_then_exit ?_ | refine p_block_exit ?_ | refine p_block ?_ | refine t_skip ?_)
        exact ret2 rfl rfl rfl ⟨_, rfl, hw4, rfl, hS4⟩
end Go.Proofs.YtnaefgnjdmmmcaaGreatDoor
/- THE THIN PACKAGE's OWN HASH in the program: Reset, fresh, Write, Sum. -/
namespace Go.Proofs.YtnaefgnjdmmmcaaGreatDoor
open Go.RowKit
attribute [local irreducible] ValAt OpAt RunX Tr Post FlowK

def ownCells (s size block count : Nat) : Array Value := #[I size, I block, I count, .slice (some ⟨s, 0, none⟩) size size]
/-- The hash at g, its state at s, has taken in these bytes. -/
structure OwnAt (w : World) (g s size block : Nat) (data : Bytes) : Prop where
  blk : Blk w g 103 (ownCells s size block data.length)
  st : Blk w s 5 ((ownState size data).map B).toArray
  ne : g ≠ s
theorem OwnAt.only {w w' : World} {g s size block : Nat} {data : Bytes} {fp : List Nat} (h : OwnAt w g s size block data) (k : Only fp w w') (hg : g ∉ fp) (hs : s ∉ fp) : OwnAt w' g s size block data :=
  ⟨h.blk.only k hg, h.st.only k hs, h.ne⟩
theorem set_count (s size block n m : Nat) : (ownCells s size block n).setIfInBounds (0 + 2) (I m) = ownCells s size block m := rfl
theorem ownInit_get (size i : Nat) (h : i < size) : (ownInit size)[i]? = some (UInt8.ofNat i) := by simp [ownInit, h]
theorem ownInit_length (size : Nat) : (ownInit size).length = size := by simp [ownInit]

/-- (*own).Reset -/
theorem c79 (g s size block n : Nat) (l : Bytes) (w : World) (hB : Blk w g 103 (ownCells s size block n)) (hS : Blk w s 5 (l.map B).toArray) (hl : l.length = size) (hne : g ≠ s) (hsz : size < 1000) :
    Calls Tryz.prog 79 #[pt g 0] w (Ret [g, s] w fun _ w' => OwnAt w' g s size block []) := by
  refine enter (Γ := [(0, .ex (pt g 0))]) Tryz.func79 rfl rfl rfl ⟨⟨_, rfl, rfl⟩, trivial⟩ ?_
  repeat (first | refine t_seq ?_ | refine t_region ?_ | refine s_nil ?_ | refine p_then ?_ | refine t_ret ?_ | refine p_then_ret ?_ | refine p_block_ret ?_ | refine t_block ?_ | refine t_exit ?_ | refine p_then_exit ?_ | refine p_block_exit ?_ | refine p_block ?_ | refine t_skip ?_)
  refine s_val (v_move rfl) rfl ?_
  first | refine s_val (v_nilCheck rfl) rfl ?_ | refine s_val (v_nilCheck_iface rfl) rfl ?_
  refine s_val (v_fieldAddr rfl (fo rfl)) rfl ?_
  refine s_store (v := I 0) rfl rfl (si rfl) hB (by simp [ownCells]) rfl rfl (fun w1 hw1 hB1 => ?_)
  rw [set_count] at hB1
  have hS1 := hS.only hw1 (by simp; omega)
  repeat (first | refine t_seq ?_ | refine t_region ?_ | refine s_nil ?_ | refine p_then ?_ | refine t_ret ?_ | refine p_then_ret ?_ | refine p_block_ret ?_ | refine t_block ?_ | refine t_exit ?_ | refine p_then_exit ?_ | refine p_block_exit ?_ | refine p_block ?_ | refine t_skip ?_)
  refine s_val (v_move rfl) rfl ?_
  first | refine s_val (v_nilCheck rfl) rfl ?_ | refine s_val (v_nilCheck_iface rfl) rfl ?_
  refine s_val (v_fieldAddr rfl (fo rfl)) rfl ?_
  refine s_val (v_load1 rfl (sc rfl) (by first | exact hB1.cell _ rfl | assumption)) rfl ?_
  refine s_val (v_len rfl (so rfl) rfl) rfl ?_
  refine s_val (v_move rfl) rfl ?_
  repeat (first | refine t_seq ?_ | refine t_region ?_ | refine s_nil ?_ | refine p_then ?_ | refine t_ret ?_ | refine p_then_ret ?_ | refine p_block_ret ?_ | refine t_block ?_ | refine t_exit ?_ | refine p_then_exit ?_ | refine p_block_exit ?_ | refine p_block ?_ | refine t_skip ?_)
  refine t_loop (fun i : Nat => [(11, .ex (I i)), (10, .ex (I size)), (0, .ex (pt g 0))])
    (fun i w' => i ≤ size ∧ Only [g, s] w w' ∧ Blk w' g 103 (ownCells s size block 0) ∧ Blk w' s 5 ((spl l 0 ((ownInit size).take i)).map B).toArray) (fun i => size - i) 0 ⟨rfl, rfl, rfl, trivial⟩
    ⟨by omega, hw1.mono (by simp), hB1, by simpa [spl_nil] using hS1⟩ ?_
  rintro i w2 ⟨hi, hw2, hB2, hS2⟩
  repeat (first | refine t_seq ?_ | refine t_region ?_ | refine s_nil ?_ | refine p_then ?_ | refine t_ret ?_ | refine p_then_ret ?_ | refine p_block_ret ?_ | refine t_block ?_ | refine t_exit ?_ | refine p_then_exit ?_ | refine p_block_exit ?_ | refine p_block ?_ | refine t_skip ?_)
  refine s_val (v_ltI rfl rfl) rfl ?_
  repeat (first | refine t_seq ?_ | refine t_region ?_ | refine s_nil ?_ | refine p_then ?_ | refine t_ret ?_ | refine p_then_ret ?_ | refine p_block_ret ?_ | refine t_block ?_ | refine t_exit ?_ | refine p_then_exit ?_ | refine p_block_exit ?_ | refine p_block ?_ | refine t_skip ?_)
  refine t_if rfl (fun hb => ?_) (fun hb => ?_)
  · have hi' : i < size := by have := of_decide_eq_true hb; omega
    have hll : 0 + ((ownInit size).take i).length ≤ l.length := by simp [ownInit_length]; omega
    repeat (first | refine t_seq ?_ | refine t_region ?_ | refine s_nil ?_ | refine p_then ?_ | refine t_ret ?_ | refine p_then_ret ?_ | refine p_block_ret ?_ | refine t_block ?_ | refine t_exit ?_ | refine p_then_exit ?_ | refine p_block_exit ?_ | refine p_block ?_ | refine t_skip ?_)
    refine s_val (v_move rfl) rfl ?_
    refine s_val (v_assign rfl) rfl ?_
    repeat (first | refine t_seq ?_ | refine t_region ?_ | refine s_nil ?_ | refine p_then ?_ | refine t_ret ?_ | refine p_then_ret ?_ | refine p_block_ret ?_ | refine t_block ?_ | refine t_exit ?_ | refine p_then_exit ?_ | refine p_block_exit ?_ | refine p_block ?_ | refine t_skip ?_)
    refine s_val (v_move rfl) rfl ?_
    first | refine s_val (v_nilCheck rfl) rfl ?_ | refine s_val (v_nilCheck_iface rfl) rfl ?_
    refine s_val (v_fieldAddr rfl (fo rfl)) rfl ?_
    refine s_val (v_load1 rfl (sc rfl) (by first | exact hB2.cell _ rfl | assumption)) rfl ?_
    refine s_val (v_move rfl) rfl ?_
    refine s_val (v_move rfl) rfl ?_
    refine s_val (v_convIB rfl (ko rfl) (ko rfl)) rfl ?_
    refine s_val (v_indexSlice rfl rfl (so rfl) (by omega)) rfl ?_
    refine s_storeB rfl rfl (si rfl) hS2 (by rw [spl_length hll]; omega) rfl (fun w3 hw3 hS3 => ?_)
    rw [spl_set (by rw [ownInit_length]; omega) (ownInit_get size i hi')] at hS3
    repeat (first | refine t_seq ?_ | refine t_region ?_ | refine s_nil ?_ | refine p_then ?_ | refine t_ret ?_ | refine p_then_ret ?_ | refine p_block_ret ?_ | refine t_block ?_ | refine t_exit ?_ | refine p_then_exit ?_ | refine p_block_exit ?_ | refine p_block ?_ | refine t_skip ?_)
    refine s_val (v_addI rfl opc (by omega)) rfl ?_
    refine s_val (v_move rfl) rfl ?_
    repeat (first | refine t_seq ?_ | refine t_region ?_ | refine s_nil ?_ | refine p_then ?_ | refine t_ret ?_ | refine p_then_ret ?_ | refine p_block_ret ?_ | refine t_block ?_ | refine t_exit ?_ | refine p_then_exit ?_ | refine p_block_exit ?_ | refine p_block ?_ | refine t_skip ?_)
    exact p_round (i + 1) (by omega) ⟨rfl, rfl, rfl, trivial⟩ ⟨by omega, hw2.trans (hw3.mono (by simp)), hB2.only hw3 (by simp; omega), hS3⟩
  · have hi' : i = size := by have := of_decide_eq_false hb; omega
    subst hi'
    repeat (first | refine t_seq ?_ | refine t_region ?_ | refine s_nil ?_ | refine p_then ?_ | refine t_ret ?_ | refine p_then_ret ?_ | refine p_block_ret ?_ | refine t_block ?_ | refine t_exit ?_ | refine p_then_exit ?_ | refine p_block_exit ?_ | refine p_block ?_ | refine t_skip ?_)
    refine end0 rfl ⟨_, rfl, hw2, ⟨hB2, ?_, hne⟩⟩
    rw [List.take_of_length_le (by simp [ownInit_length]), spl_all (by simp [ownInit_length, hl])] at hS2
    exact hS2

/-- The struct impl.Hash. -/
def hv (k s b : Int) : Value := .agg #[.int .i64 k, .int .i64 s, .int .i64 b]
structure OwnNew (w w' : World) (v : Value) (size block : Nat) (g s : Nat) : Prop where
  val : v = pt g 0
  new : w.heap.size ≤ g ∧ w.heap.size ≤ s
  at_ : OwnAt w' g s size block []

/-- (Hash).fresh -/
theorem c54 (k s b : Int) (w : World) (hk : k ≠ 1) : Calls Tryz.prog 54 #[hv k s b] w (Ret [] w fun v w' => ∃ g t, OwnNew w w' v (hkOf k s b).size (hkOf k s b).block g t) := by
  refine enter (Γ := [(0, .ex (hv k s b))]) Tryz.func54 rfl rfl rfl ⟨⟨_, rfl, rfl⟩, trivial⟩ ?_
  repeat (first | refine t_seq ?_ | refine t_region ?_ | refine s_nil ?_ | refine p_then ?_ | refine t_ret ?_ | refine p_then_ret ?_ | refine p_block_ret ?_ | refine t_block ?_ | refine t_exit ?_ | refine p_then_exit ?_ | refine p_block_exit ?_ | refine p_block ?_ | refine t_skip ?_)
  refine s_op (o_box rfl) rfl rfl ?_
  rintro _ w1 hw1 ⟨rfl, hB1⟩
  refine s_val (v_assign rfl) rfl ?_
  repeat (first | refine t_seq ?_ | refine t_region ?_ | refine s_nil ?_ | refine p_then ?_ | refine t_ret ?_ | refine p_then_ret ?_ | refine p_block_ret ?_ | refine t_block ?_ | refine t_exit ?_ | refine p_then_exit ?_ | refine p_block_exit ?_ | refine p_block ?_ | refine t_skip ?_)
  refine s_val (v_fieldAddr rfl (fo rfl)) rfl ?_
  refine s_val (v_load1 rfl (sc rfl) (by first | exact hB1.cell _ rfl | assumption)) rfl ?_
  refine s_val (v_fieldAddr rfl (fo rfl)) rfl ?_
  refine s_val (v_load1 rfl (sc rfl) (by first | exact hB1.cell _ rfl | assumption)) rfl ?_
  refine s_val (v_build rfl (bu103 s b)) rfl ?_
  refine s_op (o_box rfl) rfl rfl ?_
  rintro _ w2 hw2 ⟨rfl, hB2⟩
  refine s_val (v_assign rfl) rfl ?_
  have hB12 := hB1.only hw2 (by simp)
  have hs1 := hB1.lt
  obtain ⟨H, hH⟩ : ∃ H, H = hkOf k s b := ⟨_, rfl⟩
  have hok := hkOf_ok k s b
  rw [← hH] at hok
  rw [← hH]
  refine s_nil (p_then ?_)
  refine t_cut (fun _ : Unit => [(3, .ex (pt w1.heap.size 0))]) (fun _ w' => Only [] w w' ∧ Blk w' w1.heap.size 103 #[I H.size, I H.block, I 0, .slice none 0 0]) ?_ ?_
  · repeat (first | refine t_seq ?_ | refine t_region ?_ | refine s_nil ?_ | refine p_then ?_ | refine t_ret ?_ | refine p_then_ret ?_ | refine p_block_ret ?_ | refine t_block ?_ | refine t_exit ?_ | refine p_then_exit ?_ | refine p_block_exit ?_ | refine p_block ?_ | refine t_skip ?_)
    refine s_val (v_fieldAddr rfl (fo rfl)) rfl ?_
    refine s_val (v_load1 rfl (sc rfl) (by first | exact hB12.cell _ rfl | assumption)) rfl ?_
    refine s_val (v_ltI rfl rfl) rfl ?_
    refine s_val (v_move rfl) rfl ?_
    by_cases c1 : s < 1
    · rw [decide_eq_true c1]
      first | refine s_yes rfl rfl (v_fieldAddr rfl (fo rfl)) rfl ?_ | refine s_no rfl rfl rfl rfl ?_ | refine s_no_undef rfl rfl rfl ?_
      first | refine s_yes rfl rfl (v_load1 rfl (sc rfl) (by first | exact hB12.cell _ rfl | assumption)) rfl ?_ | refine s_no rfl rfl rfl rfl ?_ | refine s_no_undef rfl rfl rfl ?_
      first | refine s_yes rfl rfl (v_gtI rfl rfl) rfl ?_ | refine s_no rfl rfl rfl rfl ?_ | refine s_no_undef rfl rfl rfl ?_
      refine s_val (v_pick rfl rfl rfl) rfl ?_
      refine s_val (v_move rfl) rfl ?_
      first | refine s_yes rfl rfl (v_fieldAddr rfl (fo rfl)) rfl ?_ | refine s_no rfl rfl rfl rfl ?_ | refine s_no_undef rfl rfl rfl ?_
      first | refine s_yes rfl rfl (v_load1 rfl (sc rfl) (by first | exact hB12.cell _ rfl | assumption)) rfl ?_ | refine s_no rfl rfl rfl rfl ?_ | refine s_no_undef rfl rfl rfl ?_
      first | refine s_yes rfl rfl (v_fieldAddr rfl (fo rfl)) rfl ?_ | refine s_no rfl rfl rfl rfl ?_ | refine s_no_undef rfl rfl rfl ?_
      first | refine s_yes rfl rfl (v_load1 rfl (sc rfl) (by first | exact hB12.cell _ rfl | assumption)) rfl ?_ | refine s_no rfl rfl rfl rfl ?_ | refine s_no_undef rfl rfl rfl ?_
      first | refine s_yes rfl rfl (v_ltI rfl rfl) rfl ?_ | refine s_no rfl rfl rfl rfl ?_ | refine s_no_undef rfl rfl rfl ?_
      refine s_val (v_pick rfl rfl rfl) rfl ?_
      refine s_val (v_move rfl) rfl ?_
      first | refine s_yes rfl rfl (v_fieldAddr rfl (fo rfl)) rfl ?_ | refine s_no rfl rfl rfl rfl ?_ | refine s_no_undef rfl rfl rfl ?_
      first | refine s_yes rfl rfl (v_load1 rfl (sc rfl) (by first | exact hB12.cell _ rfl | assumption)) rfl ?_ | refine s_no rfl rfl rfl rfl ?_ | refine s_no_undef rfl rfl rfl ?_
      first | refine s_yes rfl rfl (v_gtI rfl rfl) rfl ?_ | refine s_no rfl rfl rfl rfl ?_ | refine s_no_undef rfl rfl rfl ?_
      refine s_val (v_pick rfl rfl rfl) rfl ?_
      repeat (first | refine t_seq ?_ | refine t_region ?_ | refine s_nil ?_ | refine p_then ?_ | refine t_ret ?_ | refine p_then_ret ?_ | refine p_block_ret ?_ | refine t_block ?_ | refine t_exit ?_ | refine p_then_exit ?_ | refine p_block_exit ?_ | refine p_block ?_ | refine t_skip ?_)
      refine t_true rfl ?_
      have hHe : H = .own 1 16 := by rw [hH]; unfold hkOf; rw [if_neg hk, if_pos (by omega)]
      subst hHe
      repeat (first | refine t_seq ?_ | refine t_region ?_ | refine s_nil ?_ | refine p_then ?_ | refine t_ret ?_ | refine p_then_ret ?_ | refine p_block_ret ?_ | refine t_block ?_ | refine t_exit ?_ | refine p_then_exit ?_ | refine p_block_exit ?_ | refine p_block ?_ | refine t_skip ?_)
      refine s_val (v_move rfl) rfl ?_
      refine s_val (v_move rfl) rfl ?_
      first | refine s_val (v_nilCheck rfl) rfl ?_ | refine s_val (v_nilCheck_iface rfl) rfl ?_
      refine s_val (v_fieldAddr rfl (fo rfl)) rfl ?_
      refine s_store (v := I 1) rfl rfl (si rfl) hB2 (by simp [Value.cells]) rfl rfl (fun w3 hw3 hB3 => ?_)
      first | refine s_val (v_nilCheck rfl) rfl ?_ | refine s_val (v_nilCheck_iface rfl) rfl ?_
      refine s_val (v_fieldAddr rfl (fo rfl)) rfl ?_
      refine s_store (v := I 16) rfl rfl (si rfl) hB3 (by simp [Value.cells]) rfl rfl (fun w4 hw4 hB4 => ?_)
      repeat (first | refine t_seq ?_ | refine t_region ?_ | refine s_nil ?_ | refine p_then ?_ | refine t_ret ?_ | refine p_then_ret ?_ | refine p_block_ret ?_ | refine t_block ?_ | refine t_exit ?_ | refine p_then_exit ?_ | refine p_block_exit ?_ | refine p_block ?_ | refine t_skip ?_)
      exact p_cut () ⟨rfl, trivial⟩ ⟨((hw1.trans hw2).trans_new hw3 (by simp; exact hw1.size)).trans_new hw4 (by simp; exact hw1.size), hB4⟩
    rw [decide_eq_false c1]
    first | refine s_yes rfl rfl (v_fieldAddr rfl (fo rfl)) rfl ?_ | refine s_no rfl rfl rfl rfl ?_ | refine s_no_undef rfl rfl rfl ?_
    first | refine s_yes rfl rfl (v_load1 rfl (sc rfl) (by first | exact hB12.cell _ rfl | assumption)) rfl ?_ | refine s_no rfl rfl rfl rfl ?_ | refine s_no_undef rfl rfl rfl ?_
    first | refine s_yes rfl rfl (v_gtI rfl rfl) rfl ?_ | refine s_no rfl rfl rfl rfl ?_ | refine s_no_undef rfl rfl rfl ?_
    refine s_val (v_pick rfl rfl rfl) rfl ?_
    refine s_val (v_move rfl) rfl ?_
    by_cases c2 : s > 16
    · rw [decide_eq_true c2]
      first | refine s_yes rfl rfl (v_fieldAddr rfl (fo rfl)) rfl ?_ | refine s_no rfl rfl rfl rfl ?_ | refine s_no_undef rfl rfl rfl ?_
      first | refine s_yes rfl rfl (v_load1 rfl (sc rfl) (by first | exact hB12.cell _ rfl | assumption)) rfl ?_ | refine s_no rfl rfl rfl rfl ?_ | refine s_no_undef rfl rfl rfl ?_
      first | refine s_yes rfl rfl (v_fieldAddr rfl (fo rfl)) rfl ?_ | refine s_no rfl rfl rfl rfl ?_ | refine s_no_undef rfl rfl rfl ?_
      first | refine s_yes rfl rfl (v_load1 rfl (sc rfl) (by first | exact hB12.cell _ rfl | assumption)) rfl ?_ | refine s_no rfl rfl rfl rfl ?_ | refine s_no_undef rfl rfl rfl ?_
      first | refine s_yes rfl rfl (v_ltI rfl rfl) rfl ?_ | refine s_no rfl rfl rfl rfl ?_ | refine s_no_undef rfl rfl rfl ?_
      refine s_val (v_pick rfl rfl rfl) rfl ?_
      refine s_val (v_move rfl) rfl ?_
      first | refine s_yes rfl rfl (v_fieldAddr rfl (fo rfl)) rfl ?_ | refine s_no rfl rfl rfl rfl ?_ | refine s_no_undef rfl rfl rfl ?_
      first | refine s_yes rfl rfl (v_load1 rfl (sc rfl) (by first | exact hB12.cell _ rfl | assumption)) rfl ?_ | refine s_no rfl rfl rfl rfl ?_ | refine s_no_undef rfl rfl rfl ?_
      first | refine s_yes rfl rfl (v_gtI rfl rfl) rfl ?_ | refine s_no rfl rfl rfl rfl ?_ | refine s_no_undef rfl rfl rfl ?_
      refine s_val (v_pick rfl rfl rfl) rfl ?_
      repeat (first | refine t_seq ?_ | refine t_region ?_ | refine s_nil ?_ | refine p_then ?_ | refine t_ret ?_ | refine p_then_ret ?_ | refine p_block_ret ?_ | refine t_block ?_ | refine t_exit ?_ | refine p_then_exit ?_ | refine p_block_exit ?_ | refine p_block ?_ | refine t_skip ?_)
      refine t_true rfl ?_
      have hHe : H = .own 1 16 := by rw [hH]; unfold hkOf; rw [if_neg hk, if_pos (by omega)]
      subst hHe
      repeat (first | refine t_seq ?_ | refine t_region ?_ | refine s_nil ?_ | refine p_then ?_ | refine t_ret ?_ | refine p_then_ret ?_ | refine p_block_ret ?_ | refine t_block ?_ | refine t_exit ?_ | refine p_then_exit ?_ | refine p_block_exit ?_ | refine p_block ?_ | refine t_skip ?_)
      refine s_val (v_move rfl) rfl ?_
      refine s_val (v_move rfl) rfl ?_
      first | refine s_val (v_nilCheck rfl) rfl ?_ | refine s_val (v_nilCheck_iface rfl) rfl ?_
      refine s_val (v_fieldAddr rfl (fo rfl)) rfl ?_
      refine s_store (v := I 1) rfl rfl (si rfl) hB2 (by simp [Value.cells]) rfl rfl (fun w3 hw3 hB3 => ?_)
      first | refine s_val (v_nilCheck rfl) rfl ?_ | refine s_val (v_nilCheck_iface rfl) rfl ?_
      refine s_val (v_fieldAddr rfl (fo rfl)) rfl ?_
      refine s_store (v := I 16) rfl rfl (si rfl) hB3 (by simp [Value.cells]) rfl rfl (fun w4 hw4 hB4 => ?_)
      repeat (first | refine t_seq ?_ | refine t_region ?_ | refine s_nil ?_ | refine p_then ?_ | refine t_ret ?_ | refine p_then_ret ?_ | refine p_block_ret ?_ | refine t_block ?_ | refine t_exit ?_ | refine p_then_exit ?_ | refine p_block_exit ?_ | refine p_block ?_ | refine t_skip ?_)
      exact p_cut () ⟨rfl, trivial⟩ ⟨((hw1.trans hw2).trans_new hw3 (by simp; exact hw1.size)).trans_new hw4 (by simp; exact hw1.size), hB4⟩
    rw [decide_eq_false c2]
    first | refine s_yes rfl rfl (v_fieldAddr rfl (fo rfl)) rfl ?_ | refine s_no rfl rfl rfl rfl ?_ | refine s_no_undef rfl rfl rfl ?_
    first | refine s_yes rfl rfl (v_load1 rfl (sc rfl) (by first | exact hB12.cell _ rfl | assumption)) rfl ?_ | refine s_no rfl rfl rfl rfl ?_ | refine s_no_undef rfl rfl rfl ?_
    first | refine s_yes rfl rfl (v_fieldAddr rfl (fo rfl)) rfl ?_ | refine s_no rfl rfl rfl rfl ?_ | refine s_no_undef rfl rfl rfl ?_
    first | refine s_yes rfl rfl (v_load1 rfl (sc rfl) (by first | exact hB12.cell _ rfl | assumption)) rfl ?_ | refine s_no rfl rfl rfl rfl ?_ | refine s_no_undef rfl rfl rfl ?_
    first | refine s_yes rfl rfl (v_ltI rfl rfl) rfl ?_ | refine s_no rfl rfl rfl rfl ?_ | refine s_no_undef rfl rfl rfl ?_
    refine s_val (v_pick rfl rfl rfl) rfl ?_
    refine s_val (v_move rfl) rfl ?_
    by_cases c3 : b < s
    · rw [decide_eq_true c3]
      first | refine s_yes rfl rfl (v_fieldAddr rfl (fo rfl)) rfl ?_ | refine s_no rfl rfl rfl rfl ?_ | refine s_no_undef rfl rfl rfl ?_
      first | refine s_yes rfl rfl (v_load1 rfl (sc rfl) (by first | exact hB12.cell _ rfl | assumption)) rfl ?_ | refine s_no rfl rfl rfl rfl ?_ | refine s_no_undef rfl rfl rfl ?_
      first | refine s_yes rfl rfl (v_gtI rfl rfl) rfl ?_ | refine s_no rfl rfl rfl rfl ?_ | refine s_no_undef rfl rfl rfl ?_
      refine s_val (v_pick rfl rfl rfl) rfl ?_
      repeat (first | refine t_seq ?_ | refine t_region ?_ | refine s_nil ?_ | refine p_then ?_ | refine t_ret ?_ | refine p_then_ret ?_ | refine p_block_ret ?_ | refine t_block ?_ | refine t_exit ?_ | refine p_then_exit ?_ | refine p_block_exit ?_ | refine p_block ?_ | refine t_skip ?_)
      refine t_true rfl ?_
      have hHe : H = .own 1 16 := by rw [hH]; unfold hkOf; rw [if_neg hk, if_pos (by omega)]
      subst hHe
      repeat (first | refine t_seq ?_ | refine t_region ?_ | refine s_nil ?_ | refine p_then ?_ | refine t_ret ?_ | refine p_then_ret ?_ | refine p_block_ret ?_ | refine t_block ?_ | refine t_exit ?_ | refine p_then_exit ?_ | refine p_block_exit ?_ | refine p_block ?_ | refine t_skip ?_)
      refine s_val (v_move rfl) rfl ?_
      refine s_val (v_move rfl) rfl ?_
      first | refine s_val (v_nilCheck rfl) rfl ?_ | refine s_val (v_nilCheck_iface rfl) rfl ?_
      refine s_val (v_fieldAddr rfl (fo rfl)) rfl ?_
      refine s_store (v := I 1) rfl rfl (si rfl) hB2 (by simp [Value.cells]) rfl rfl (fun w3 hw3 hB3 => ?_)
      first | refine s_val (v_nilCheck rfl) rfl ?_ | refine s_val (v_nilCheck_iface rfl) rfl ?_
      refine s_val (v_fieldAddr rfl (fo rfl)) rfl ?_
      refine s_store (v := I 16) rfl rfl (si rfl) hB3 (by simp [Value.cells]) rfl rfl (fun w4 hw4 hB4 => ?_)
      repeat (first | refine t_seq ?_ | refine t_region ?_ | refine s_nil ?_ | refine p_then ?_ | refine t_ret ?_ | refine p_then_ret ?_ | refine p_block_ret ?_ | refine t_block ?_ | refine t_exit ?_ | refine p_then_exit ?_ | refine p_block_exit ?_ | refine p_block ?_ | refine t_skip ?_)
      exact p_cut () ⟨rfl, trivial⟩ ⟨((hw1.trans hw2).trans_new hw3 (by simp; exact hw1.size)).trans_new hw4 (by simp; exact hw1.size), hB4⟩
    rw [decide_eq_false c3]
    first | refine s_yes rfl rfl (v_fieldAddr rfl (fo rfl)) rfl ?_ | refine s_no rfl rfl rfl rfl ?_ | refine s_no_undef rfl rfl rfl ?_
    first | refine s_yes rfl rfl (v_load1 rfl (sc rfl) (by first | exact hB12.cell _ rfl | assumption)) rfl ?_ | refine s_no rfl rfl rfl rfl ?_ | refine s_no_undef rfl rfl rfl ?_
    first | refine s_yes rfl rfl (v_gtI rfl rfl) rfl ?_ | refine s_no rfl rfl rfl rfl ?_ | refine s_no_undef rfl rfl rfl ?_
    refine s_val (v_pick rfl rfl rfl) rfl ?_
    by_cases c4 : b > 32
    · rw [decide_eq_true c4]
      repeat (first | refine t_seq ?_ | refine t_region ?_ | refine s_nil ?_ | refine p_then ?_ | refine t_ret ?_ | refine p_then_ret ?_ | refine p_block_ret ?_ | refine t_block ?_ | refine t_exit ?_ | refine p_then_exit ?_ | refine p_block_exit ?_ | refine p_block ?_ | refine t_skip ?_)
      refine t_true rfl ?_
      have hHe : H = .own 1 16 := by rw [hH]; unfold hkOf; rw [if_neg hk, if_pos (by omega)]
      subst hHe
      repeat (first | refine t_seq ?_ | refine t_region ?_ | refine s_nil ?_ | refine p_then ?_ | refine t_ret ?_ | refine p_then_ret ?_ | refine p_block_ret ?_ | refine t_block ?_ | refine t_exit ?_ | refine p_then_exit ?_ | refine p_block_exit ?_ | refine p_block ?_ | refine t_skip ?_)
      refine s_val (v_move rfl) rfl ?_
      refine s_val (v_move rfl) rfl ?_
      first | refine s_val (v_nilCheck rfl) rfl ?_ | refine s_val (v_nilCheck_iface rfl) rfl ?_
      refine s_val (v_fieldAddr rfl (fo rfl)) rfl ?_
      refine s_store (v := I 1) rfl rfl (si rfl) hB2 (by simp [Value.cells]) rfl rfl (fun w3 hw3 hB3 => ?_)
      first | refine s_val (v_nilCheck rfl) rfl ?_ | refine s_val (v_nilCheck_iface rfl) rfl ?_
      refine s_val (v_fieldAddr rfl (fo rfl)) rfl ?_
      refine s_store (v := I 16) rfl rfl (si rfl) hB3 (by simp [Value.cells]) rfl rfl (fun w4 hw4 hB4 => ?_)
      repeat (first | refine t_seq ?_ | refine t_region ?_ | refine s_nil ?_ | refine p_then ?_ | refine t_ret ?_ | refine p_then_ret ?_ | refine p_block_ret ?_ | refine t_block ?_ | refine t_exit ?_ | refine p_then_exit ?_ | refine p_block_exit ?_ | refine p_block ?_ | refine t_skip ?_)
      exact p_cut () ⟨rfl, trivial⟩ ⟨((hw1.trans hw2).trans_new hw3 (by simp; exact hw1.size)).trans_new hw4 (by simp; exact hw1.size), hB4⟩
    rw [decide_eq_false c4]
    repeat (first | refine t_seq ?_ | refine t_region ?_ | refine s_nil ?_ | refine p_then ?_ | refine t_ret ?_ | refine p_then_ret ?_ | refine p_block_ret ?_ | refine t_block ?_ | refine t_exit ?_ | refine p_then_exit ?_ | refine p_block_exit ?_ | refine p_block ?_ | refine t_skip ?_)
    refine t_false rfl ?_
    have hHe : H = .own s.toNat b.toNat := by rw [hH]; unfold hkOf; rw [if_neg hk, if_neg (by omega)]
    subst hHe
    repeat (first | refine t_seq ?_ | refine t_region ?_ | refine s_nil ?_ | refine p_then ?_ | refine t_ret ?_ | refine p_then_ret ?_ | refine p_block_ret ?_ | refine t_block ?_ | refine t_exit ?_ | refine p_then_exit ?_ | refine p_block_exit ?_ | refine p_block ?_ | refine t_skip ?_)
    refine p_cut () ⟨rfl, trivial⟩ ⟨hw1.trans hw2, ?_⟩
    have e1 : I s.toNat = .int .i64 s := by rw [I, Int.toNat_of_nonneg (by omega)]
    have e2 : I b.toNat = .int .i64 b := by rw [I, Int.toNat_of_nonneg (by omega)]
    simp only [HK.size, HK.block, e1, e2]
    exact hB2
  rintro _ w3 ⟨hw3, hB3⟩
  have h1 := HK.size_pos hok
  have h2 := HK.size_le hok
  repeat (first | refine t_seq ?_ | refine t_region ?_ | refine s_nil ?_ | refine p_then ?_ | refine t_ret ?_ | refine p_then_ret ?_ | refine p_block_ret ?_ | refine t_block ?_ | refine t_exit ?_ | refine p_then_exit ?_ | refine p_block_exit ?_ | refine p_block ?_ | refine t_skip ?_)
  refine s_val (v_move rfl) rfl ?_
  refine s_val (v_move rfl) rfl ?_
  first | refine s_val (v_nilCheck rfl) rfl ?_ | refine s_val (v_nilCheck_iface rfl) rfl ?_
  refine s_val (v_fieldAddr rfl (fo rfl)) rfl ?_
  refine s_val (v_load1 rfl (sc rfl) (by first | exact hB3.cell _ rfl | assumption)) rfl ?_
  refine s_op (o_makeSlice rt24 rfl rfl (Nat.le_refl _) (by omega) (by omega)) rfl rfl ?_
  rintro _ w4 hw4 ⟨rfl, hB4⟩
  first | refine s_val (v_nilCheck rfl) rfl ?_ | refine s_val (v_nilCheck_iface rfl) rfl ?_
  refine s_val (v_fieldAddr rfl (fo rfl)) rfl ?_
  refine s_store rfl rfl (si rfl) (hB3.only hw4 (by simp)) (by simp) rfl rfl (fun w5 hw5 hB5 => ?_)
  have hs3 := hB3.lt
  have hn : w1.heap.size ≠ w3.heap.size := by omega
  have hB4' : Blk w5 w3.heap.size 5 ((zeros H.size).map B).toArray := by
    have := hB4.only hw5 (by simp; omega)
    simpa [zeros] using this
  have hB5' : Blk w5 w1.heap.size 103 (ownCells w3.heap.size H.size H.block 0) := hB5
  have hg1 := hw1.size
  have hg3 := hw3.size
  repeat (first | refine t_seq ?_ | refine t_region ?_ | refine s_nil ?_ | refine p_then ?_ | refine t_ret ?_ | refine p_then_ret ?_ | refine p_block_ret ?_ | refine t_block ?_ | refine t_exit ?_ | refine p_then_exit ?_ | refine p_block_exit ?_ | refine p_block ?_ | refine t_skip ?_)
  refine s_val (v_move rfl) rfl ?_
  refine s_op (o_call rfl (en rfl) (c79 w1.heap.size w3.heap.size H.size H.block 0 (zeros H.size) w5 hB5' hB4' (by simp [zeros]) hn (by omega))) rfl rfl ?_
  rintro v6 w6 hw6 h6
  repeat (first | refine t_seq ?_ | refine t_region ?_ | refine s_nil ?_ | refine p_then ?_ | refine t_ret ?_ | refine p_then_ret ?_ | refine p_block_ret ?_ | refine t_block ?_ | refine t_exit ?_ | refine p_then_exit ?_ | refine p_block_exit ?_ | refine p_block ?_ | refine t_skip ?_)
  refine s_val (v_move rfl) rfl ?_
  refine s_val (v_assign rfl) rfl ?_
  repeat (first | refine t_seq ?_ | refine t_region ?_ | refine s_nil ?_ | refine p_then ?_ | refine t_ret ?_ | refine p_then_ret ?_ | refine p_block_ret ?_ | refine t_block ?_ | refine t_exit ?_ | refine p_then_exit ?_ | refine p_block_exit ?_ | refine p_block ?_ | refine t_skip ?_)
  exact ret1 rfl rfl ⟨_, rfl, ((hw3.trans hw4).trans_new hw5 (by simp; omega)).trans_new hw6 (by simp; omega), w1.heap.size, w3.heap.size, rfl, ⟨hg1, hg3⟩, h6⟩
end Go.Proofs.YtnaefgnjdmmmcaaGreatDoor
/- THE THIN PACKAGE's OWN HASH in the program: Write, Sum. -/
namespace Go.Proofs.YtnaefgnjdmmmcaaGreatDoor
open Go.RowKit
attribute [local irreducible] ValAt OpAt RunX Tr Post FlowK

theorem mem_own {v : Value} : ∀ k, v.ownBlock = some k → k ∈ v.ownBlock.toList := fun k h => by rw [h]; simp
theorem Blk.byte0 {w : World} {g : Nat} {t : TypeId} {l : Bytes} (h : Blk w g t (l.map B).toArray) {k : Nat} (hk : k < l.length) : w.cell? ⟨g, 0 + k, none⟩ = some (B (l.getD k 0)) := by
  rw [Nat.zero_add]; exact h.byte hk
theorem Rd.cell {w : World} {g i : Nat} {l : Bytes} (h : Rd w (some ⟨g, i, none⟩) l) {k : Nat} (hk : k < l.length) : w.cell? ⟨g, i + k, none⟩ = some (B (l.getD k 0)) := by
  obtain ⟨g', i', e, _, hc⟩ := h (by rintro rfl; simp at hk)
  cases e
  exact hc k _ (by simp [List.getD_eq_getElem?_getD, List.getElem?_eq_getElem hk])
theorem take_snoc (p : Bytes) (i : Nat) (h : i < p.length) : p.take (i + 1) = p.take i ++ [p.getD i 0] := by
  rw [List.take_add_one, List.getD_eq_getElem?_getD, List.getElem?_eq_getElem h]; rfl

set_option maxHeartbeats 1000000 in
/-- (*own).Write -/
theorem c67 (g s size block : Nat) (data : Bytes) (A : Option Addr) (c : Nat) (p : Bytes) (w : World) (hO : OwnAt w g s size block data) (hp : Rd w A p) (ho : p ≠ [] → Off A [g, s]) (hsz : 0 < size) (hn : data.length + p.length < 1000000000) :
    Calls Tryz.prog 67 #[pt g 0, .slice A p.length c] w (Ret [g, s] w fun v w' => v = .tuple #[I p.length, .nilIface] ∧ OwnAt w' g s size block (data ++ p)) := by
  refine enter (Γ := [(0, .ex (pt g 0)), (1, .ex (.slice A p.length c))]) Tryz.func67 rfl rfl rfl ⟨⟨_, rfl, rfl⟩, ⟨_, rfl, rfl⟩, trivial⟩ ?_
  repeat (first | refine t_seq ?_ | refine t_region ?_ | refine s_nil ?_ | refine p_then ?_ | refine t_ret ?_ | refine p_then_ret ?_ | refine p_block_ret ?_ | refine t_block ?_ | refine t_exit ?_ | refine p_then_exit ?_ | refine p_block_exit ?_ | refine p_block ?_ | refine t_skip ?_)
  refine s_val (v_assign rfl) rfl ?_
  refine s_val (v_assign rfl) rfl ?_
  refine s_nil (p_then ?_)
  refine t_cut (fun _ : Unit => [(0, .ex (pt g 0)), (1, .ex (.slice A p.length c))]) (fun _ w' => Only [g, s] w w' ∧ OwnAt w' g s size block (data ++ p)) ?_ ?_
  · repeat (first | refine t_seq ?_ | refine t_region ?_ | refine s_nil ?_ | refine p_then ?_ | refine t_ret ?_ | refine p_then_ret ?_ | refine p_block_ret ?_ | refine t_block ?_ | refine t_exit ?_ | refine p_then_exit ?_ | refine p_block_exit ?_ | refine p_block ?_ | refine t_skip ?_)
    refine s_val (v_move rfl) rfl ?_
    refine s_val (v_len rfl (so rfl) rfl) rfl ?_
    refine s_val (v_move rfl) rfl ?_
    repeat (first | refine t_seq ?_ | refine t_region ?_ | refine s_nil ?_ | refine p_then ?_ | refine t_ret ?_ | refine p_then_ret ?_ | refine p_block_ret ?_ | refine t_block ?_ | refine t_exit ?_ | refine p_then_exit ?_ | refine p_block_exit ?_ | refine p_block ?_ | refine t_skip ?_)
    refine t_loop (fun i : Nat => [(11, .ex (I i)), (10, .ex (I p.length)), (9, .ex (.slice A p.length c)), (0, .ex (pt g 0)), (1, .ex (.slice A p.length c))]) (fun i w' => i ≤ p.length ∧ Only [g, s] w w' ∧ OwnAt w' g s size block (data ++ p.take i)) (fun i => p.length - i) 0 ⟨rfl, rfl, rfl, rfl, rfl, trivial⟩
      ⟨by omega, Only.refl _ _, by simpa using hO⟩ ?_
    rintro i w2 ⟨hi, hw2, hO2⟩
    repeat (first | refine t_seq ?_ | refine t_region ?_ | refine s_nil ?_ | refine p_then ?_ | refine t_ret ?_ | refine p_then_ret ?_ | refine p_block_ret ?_ | refine t_block ?_ | refine t_exit ?_ | refine p_then_exit ?_ | refine p_block_exit ?_ | refine p_block ?_ | refine t_skip ?_)
    refine s_val (v_ltI rfl rfl) rfl ?_
    repeat (first | refine t_seq ?_ | refine t_region ?_ | refine s_nil ?_ | refine p_then ?_ | refine t_ret ?_ | refine p_then_ret ?_ | refine p_block_ret ?_ | refine t_block ?_ | refine t_exit ?_ | refine p_then_exit ?_ | refine p_block_exit ?_ | refine p_block ?_ | refine t_skip ?_)
    refine t_if rfl (fun hb => ?_) (fun hb => ?_)
    · have hi' : i < p.length := by have := of_decide_eq_true hb; omega
      clear hb
      have hp2 := hp.only hw2 ho
      obtain ⟨gA, iA, rfl, hgA, _⟩ := hp2 (by rintro rfl; simp at hi')
      have hne := hO2.ne
      obtain ⟨D, hD⟩ : ∃ D, D = data ++ p.take i := ⟨_, rfl⟩
      have hDl : D.length < 1000000000 := by rw [hD]; simp; omega
      rw [← hD] at hO2
      have hSl := ownState_length size D
      have hm1 : D.length % size < size := Nat.mod_lt _ hsz
      have hm2 : (D.length + 1) % size < size := Nat.mod_lt _ hsz
      repeat (first | refine t_seq ?_ | refine t_region ?_ | refine s_nil ?_ | refine p_then ?_ | refine t_ret ?_ | refine p_then_ret ?_ | refine p_block_ret ?_ | refine t_block ?_ | refine t_exit ?_ | refine p_then_exit ?_ | refine p_block_exit ?_ | refine p_block ?_ | refine t_skip ?_)
      refine s_val (v_indexSlice rfl rfl (so rfl) (by omega)) rfl ?_
      refine s_val (v_load1 rfl (sc rfl) (by first | exact hp2.cell hi' | assumption)) rfl ?_
      refine s_val (v_assign rfl) rfl ?_
      repeat (first | refine t_seq ?_ | refine t_region ?_ | refine s_nil ?_ | refine p_then ?_ | refine t_ret ?_ | refine p_then_ret ?_ | refine p_block_ret ?_ | refine t_block ?_ | refine t_exit ?_ | refine p_then_exit ?_ | refine p_block_exit ?_ | refine p_block ?_ | refine t_skip ?_)
      refine t_drawO 10 (by kernel_rfl) rfl ?_
      refine fk_val (Only.refl _) (fun wF hR => v_move rfl) ?_
      first | refine fk_val (Only.refl _) (fun wF hR => v_nilCheck rfl) ?_ | refine fk_val (Only.refl _) (fun wF hR => v_nilCheck_iface rfl) ?_
      refine fk_val (Only.refl _) (fun wF hR => v_fieldAddr rfl (fo rfl)) ?_
      refine fk_val (Only.refl _) (fun wF hR => v_load1 rfl (sc rfl) (by first | exact (hO2.blk.only hR (by simp)).cell _ rfl | assumption)) ?_
      refine fk_val (Only.refl _) (fun wF hR => v_move rfl) ?_
      first | refine fk_val (Only.refl _) (fun wF hR => v_nilCheck rfl) ?_ | refine fk_val (Only.refl _) (fun wF hR => v_nilCheck_iface rfl) ?_
      refine fk_val (Only.refl _) (fun wF hR => v_fieldAddr rfl (fo rfl)) ?_
      refine fk_val (Only.refl _) (fun wF hR => v_load1 rfl (sc rfl) (by first | exact (hO2.blk.only hR (by simp)).cell _ rfl | assumption)) ?_
      refine fk_val (Only.refl _) (fun wF hR => v_remI rfl rfl (by omega)) ?_
      refine fk_val (Only.refl _) (fun wF hR => v_assign rfl) ?_
      refine fk_nil (fun w3 hw3 => ?_)
      have hO3 := hO2.only hw3 (by simp) (by simp)
      repeat (first | refine t_seq ?_ | refine t_region ?_ | refine s_nil ?_ | refine p_then ?_ | refine t_ret ?_ | refine p_then_ret ?_ | refine p_block_ret ?_ | refine t_block ?_ | refine t_exit ?_ | refine p_then_exit ?_ | refine p_block_exit ?_ | refine p_block ?_ | refine t_skip ?_)
      refine t_drawO 22 (by kernel_rfl) rfl ?_
      refine fk_val (Only.refl _) (fun wF hR => v_move rfl) ?_
      first | refine fk_val (Only.refl _) (fun wF hR => v_nilCheck rfl) ?_ | refine fk_val (Only.refl _) (fun wF hR => v_nilCheck_iface rfl) ?_
      refine fk_val (Only.refl _) (fun wF hR => v_fieldAddr rfl (fo rfl)) ?_
      refine fk_val (Only.refl _) (fun wF hR => v_load1 rfl (sc rfl) (by first | exact (hO3.blk.only hR (by simp)).cell _ rfl | exact (hO3.st.only hR (by simp)).byte0 (by omega) | assumption)) ?_
      refine fk_val (Only.refl _) (fun wF hR => v_move rfl) ?_
      refine fk_val (Only.refl _) (fun wF hR => v_move rfl) ?_
      first | refine fk_val (Only.refl _) (fun wF hR => v_nilCheck rfl) ?_ | refine fk_val (Only.refl _) (fun wF hR => v_nilCheck_iface rfl) ?_
      refine fk_val (Only.refl _) (fun wF hR => v_fieldAddr rfl (fo rfl)) ?_
      refine fk_val (Only.refl _) (fun wF hR => v_load1 rfl (sc rfl) (by first | exact (hO3.blk.only hR (by simp)).cell _ rfl | exact (hO3.st.only hR (by simp)).byte0 (by omega) | assumption)) ?_
      refine fk_val (Only.refl _) (fun wF hR => v_move rfl) ?_
      refine fk_val (Only.refl _) (fun wF hR => v_indexSlice rfl rfl (so rfl) (by omega)) ?_
      refine fk_val (Only.refl _) (fun wF hR => v_load1 rfl (sc rfl) (by first | exact (hO3.blk.only hR (by simp)).cell _ rfl | exact (hO3.st.only hR (by simp)).byte0 (by omega) | assumption)) ?_
      refine fk_val (Only.refl _) (fun wF hR => v_mulB (opb rfl) rfl) ?_
      refine fk_val (Only.refl _) (fun wF hR => v_move rfl) ?_
      refine fk_val (Only.refl _) (fun wF hR => v_addB rfl rfl) ?_
      refine fk_val (Only.refl _) (fun wF hR => v_move rfl) ?_
      first | refine fk_val (Only.refl _) (fun wF hR => v_nilCheck rfl) ?_ | refine fk_val (Only.refl _) (fun wF hR => v_nilCheck_iface rfl) ?_
      refine fk_val (Only.refl _) (fun wF hR => v_fieldAddr rfl (fo rfl)) ?_
      refine fk_val (Only.refl _) (fun wF hR => v_load1 rfl (sc rfl) (by first | exact (hO3.blk.only hR (by simp)).cell _ rfl | exact (hO3.st.only hR (by simp)).byte0 (by omega) | assumption)) ?_
      refine fk_val (Only.refl _) (fun wF hR => v_convIB rfl (ko rfl) (ko rfl)) ?_
      refine fk_val (Only.refl _) (fun wF hR => v_addB rfl rfl) ?_
      refine fk_val (Only.refl _) (fun wF hR => v_indexSlice rfl rfl (so rfl) (by omega)) ?_
      refine fk_nil (fun w4 hw4 => ?_)
      have hO4 := hO3.only hw4 (by simp) (by simp)
      refine s_storeB rfl rfl (si rfl) hO4.st (by omega) rfl (fun w5 hw5 hS5 => ?_)
      rw [Nat.zero_add] at hS5
      have hB5 := hO4.blk.only hw5 (by simp; omega)
      obtain ⟨S1, hS1⟩ : ∃ S1, S1 = (ownState size D).set (D.length % size) (UInt8.ofNat 31 * (ownState size D).getD (D.length % size) 0 + p.getD i 0 + UInt8.ofNat D.length) := ⟨_, rfl⟩
      rw [← hS1] at hS5
      have hS1l : S1.length = size := by rw [hS1, List.length_set, hSl]
      repeat (first | refine t_seq ?_ | refine t_region ?_ | refine s_nil ?_ | refine p_then ?_ | refine t_ret ?_ | refine p_then_ret ?_ | refine p_block_ret ?_ | refine t_block ?_ | refine t_exit ?_ | refine p_then_exit ?_ | refine p_block_exit ?_ | refine p_block ?_ | refine t_skip ?_)
      refine t_drawO 25 (by kernel_rfl) rfl ?_
      refine fk_val (Only.refl _) (fun wF hR => v_move rfl) ?_
      first | refine fk_val (Only.refl _) (fun wF hR => v_nilCheck rfl) ?_ | refine fk_val (Only.refl _) (fun wF hR => v_nilCheck_iface rfl) ?_
      refine fk_val (Only.refl _) (fun wF hR => v_fieldAddr rfl (fo rfl)) ?_
      refine fk_val (Only.refl _) (fun wF hR => v_load1 rfl (sc rfl) (by first | exact (hB5.only hR (by simp)).cell _ rfl | exact (hS5.only hR (by simp)).byte0 (by omega) | assumption)) ?_
      refine fk_val (Only.refl _) (fun wF hR => v_move rfl) ?_
      first | refine fk_val (Only.refl _) (fun wF hR => v_nilCheck rfl) ?_ | refine fk_val (Only.refl _) (fun wF hR => v_nilCheck_iface rfl) ?_
      refine fk_val (Only.refl _) (fun wF hR => v_fieldAddr rfl (fo rfl)) ?_
      refine fk_val (Only.refl _) (fun wF hR => v_load1 rfl (sc rfl) (by first | exact (hB5.only hR (by simp)).cell _ rfl | exact (hS5.only hR (by simp)).byte0 (by omega) | assumption)) ?_
      refine fk_val (Only.refl _) (fun wF hR => v_addI rfl opc (by omega)) ?_
      refine fk_val (Only.refl _) (fun wF hR => v_move rfl) ?_
      first | refine fk_val (Only.refl _) (fun wF hR => v_nilCheck rfl) ?_ | refine fk_val (Only.refl _) (fun wF hR => v_nilCheck_iface rfl) ?_
      refine fk_val (Only.refl _) (fun wF hR => v_fieldAddr rfl (fo rfl)) ?_
      refine fk_val (Only.refl _) (fun wF hR => v_load1 rfl (sc rfl) (by first | exact (hB5.only hR (by simp)).cell _ rfl | exact (hS5.only hR (by simp)).byte0 (by omega) | assumption)) ?_
      refine fk_val (Only.refl _) (fun wF hR => v_remI rfl rfl (by omega)) ?_
      refine fk_val (Only.refl _) (fun wF hR => v_indexSlice rfl rfl (so rfl) (by omega)) ?_
      refine fk_val (Only.refl _) (fun wF hR => v_load1 rfl (sc rfl) (by first | exact (hB5.only hR (by simp)).cell _ rfl | exact (hS5.only hR (by simp)).byte0 (by omega) | assumption)) ?_
      refine fk_val (Only.refl _) (fun wF hR => v_move rfl) ?_
      first | refine fk_val (Only.refl _) (fun wF hR => v_nilCheck rfl) ?_ | refine fk_val (Only.refl _) (fun wF hR => v_nilCheck_iface rfl) ?_
      refine fk_val (Only.refl _) (fun wF hR => v_fieldAddr rfl (fo rfl)) ?_
      refine fk_val (Only.refl _) (fun wF hR => v_load1 rfl (sc rfl) (by first | exact (hB5.only hR (by simp)).cell _ rfl | exact (hS5.only hR (by simp)).byte0 (by omega) | assumption)) ?_
      refine fk_val (Only.refl _) (fun wF hR => v_move rfl) ?_
      refine fk_val (Only.refl _) (fun wF hR => v_indexSlice rfl rfl (so rfl) (by omega)) ?_
      refine fk_val (Only.refl _) (fun wF hR => v_load1 rfl (sc rfl) (by first | exact (hB5.only hR (by simp)).cell _ rfl | exact (hS5.only hR (by simp)).byte0 (by omega) | assumption)) ?_
      refine fk_val (Only.refl _) (fun wF hR => v_xorB rfl rfl) ?_
      refine fk_val (Only.refl _) (fun wF hR => v_indexSlice rfl rfl (so rfl) (by omega)) ?_
      refine fk_nil (fun w6 hw6 => ?_)
      have hS6 := hS5.only hw6 (by simp)
      have hB6 := hB5.only hw6 (by simp)
      refine s_storeB rfl rfl (si rfl) hS6 (by omega) rfl (fun w7 hw7 hS7 => ?_)
      rw [Nat.zero_add] at hS7
      have hB7 := hB6.only hw7 (by simp; omega)
      repeat (first | refine t_seq ?_ | refine t_region ?_ | refine s_nil ?_ | refine p_then ?_ | refine t_ret ?_ | refine p_then_ret ?_ | refine p_block_ret ?_ | refine t_block ?_ | refine t_exit ?_ | refine p_then_exit ?_ | refine p_block_exit ?_ | refine p_block ?_ | refine t_skip ?_)
      refine s_val (v_move rfl) rfl ?_
      first | refine s_val (v_nilCheck rfl) rfl ?_ | refine s_val (v_nilCheck_iface rfl) rfl ?_
      refine s_val (v_fieldAddr rfl (fo rfl)) rfl ?_
      refine s_val (v_load1 rfl (sc rfl) (by first | exact hB7.cell _ rfl | assumption)) rfl ?_
      refine s_val (v_addI rfl opc (by omega)) rfl ?_
      first | refine s_val (v_nilCheck rfl) rfl ?_ | refine s_val (v_nilCheck_iface rfl) rfl ?_
      refine s_val (v_fieldAddr rfl (fo rfl)) rfl ?_
      refine s_store rfl rfl (si rfl) hB7 (by simp [ownCells]) rfl rfl (fun w8 hw8 hB8 => ?_)
      rw [set_count] at hB8
      have hS8 := hS7.only hw8 (by simp; omega)
      have hwA : Only [g, s] w w8 := (((((hw2.trans (hw3.mono (by simp))).trans (hw4.mono (by simp))).trans (hw5.mono (by simp))).trans (hw6.mono (by simp))).trans (hw7.mono (by simp))).trans (hw8.mono (by simp))
      have hDD : data ++ p.take (i + 1) = D ++ [p.getD i 0] := by rw [take_snoc p i hi', hD, List.append_assoc]
      repeat (first | refine t_seq ?_ | refine t_region ?_ | refine s_nil ?_ | refine p_then ?_ | refine t_ret ?_ | refine p_then_ret ?_ | refine p_block_ret ?_ | refine t_block ?_ | refine t_exit ?_ | refine p_then_exit ?_ | refine p_block_exit ?_ | refine p_block ?_ | refine t_skip ?_)
      refine s_val (v_addI rfl opc (by omega)) rfl ?_
      refine s_val (v_move rfl) rfl ?_
      repeat (first | refine t_seq ?_ | refine t_region ?_ | refine s_nil ?_ | refine p_then ?_ | refine t_ret ?_ | refine p_then_ret ?_ | refine p_block_ret ?_ | refine t_block ?_ | refine t_exit ?_ | refine p_then_exit ?_ | refine p_block_exit ?_ | refine p_block ?_ | refine t_skip ?_)
      refine p_round (i + 1) (by omega) ⟨rfl, rfl, rfl, rfl, rfl, trivial⟩ ⟨by omega, hwA, ?_⟩
      rw [hDD]
      refine ⟨by simpa using hB8, ?_, hne⟩
      rw [ownState_snoc]
      rw [hS1] at hS8
      exact hS8
    · have hi' : i = p.length := by have := of_decide_eq_false hb; omega
      subst hi'
      repeat (first | refine t_seq ?_ | refine t_region ?_ | refine s_nil ?_ | refine p_then ?_ | refine t_ret ?_ | refine p_then_ret ?_ | refine p_block_ret ?_ | refine t_block ?_ | refine t_exit ?_ | refine p_then_exit ?_ | refine p_block_exit ?_ | refine p_block ?_ | refine t_skip ?_)
      exact p_cut () ⟨rfl, rfl, trivial⟩ ⟨hw2, by simpa using hO2⟩
  · rintro _ w2 ⟨hw2, hO2⟩
    repeat (first | refine t_seq ?_ | refine t_region ?_ | refine s_nil ?_ | refine p_then ?_ | refine t_ret ?_ | refine p_then_ret ?_ | refine p_block_ret ?_ | refine t_block ?_ | refine t_exit ?_ | refine p_then_exit ?_ | refine p_block_exit ?_ | refine p_block ?_ | refine t_skip ?_)
    refine s_val (v_move rfl) rfl ?_
    refine s_val (v_len rfl (so rfl) rfl) rfl ?_
    refine s_val (v_assign rfl) rfl ?_
    refine s_val (v_assign rfl) rfl ?_
    repeat (first | refine t_seq ?_ | refine t_region ?_ | refine s_nil ?_ | refine p_then ?_ | refine t_ret ?_ | refine p_then_ret ?_ | refine p_block_ret ?_ | refine t_block ?_ | refine t_exit ?_ | refine p_then_exit ?_ | refine p_block_exit ?_ | refine p_block ?_ | refine t_skip ?_)
    exact ret2 rfl rfl rfl ⟨_, rfl, hw2, rfl, hO2⟩
structure SumSt where
  i : Nat
  u : Value
/-- (*own).Sum -/
theorem c72 (g s size block : Nat) (data : Bytes) (v : Value) (l : Bytes) (w : World) (hO : OwnAt w g s size block data) (hv : Own w v l) (hnv : Nots v [g, s]) (hsz : size < 1000) (hl : l.length < 1000000000) :
    Calls Tryz.prog 72 #[pt g 0, v] w (Ret v.ownBlock.toList w (App w v (l ++ ownHash size data))) := by
  have hSl := ownState_length size data
  have hHl := ownHash_length size data
  have hlt1 := hO.blk.lt
  have hlt2 := hO.st.lt
  refine enter (Γ := [(0, .ex (pt g 0)), (1, .ex v)]) Tryz.func72 rfl rfl rfl ⟨⟨_, rfl, rfl⟩, ⟨_, rfl, rfl⟩, trivial⟩ ?_
  repeat (first | refine t_seq ?_ | refine t_region ?_ | refine s_nil ?_ | refine p_then ?_ | refine t_ret ?_ | refine p_then_ret ?_ | refine p_block_ret ?_ | refine t_block ?_ | refine t_exit ?_ | refine p_then_exit ?_ | refine p_block_exit ?_ | refine p_block ?_ | refine t_skip ?_)
  refine s_val (v_assign rfl) rfl ?_
  refine s_nil (p_then ?_)
  refine t_cut (fun u : Value => [(1, .ex u)]) (fun u w' => Only v.ownBlock.toList w w' ∧ App w v (l ++ ownHash size data) u w') ?_ ?_
  · repeat (first | refine t_seq ?_ | refine t_region ?_ | refine s_nil ?_ | refine p_then ?_ | refine t_ret ?_ | refine p_then_ret ?_ | refine p_block_ret ?_ | refine t_block ?_ | refine t_exit ?_ | refine p_then_exit ?_ | refine p_block_exit ?_ | refine p_block ?_ | refine t_skip ?_)
    refine s_val (v_move rfl) rfl ?_
    first | refine s_val (v_nilCheck rfl) rfl ?_ | refine s_val (v_nilCheck_iface rfl) rfl ?_
    refine s_val (v_fieldAddr rfl (fo rfl)) rfl ?_
    refine s_val (v_load1 rfl (sc rfl) (by first | exact hO.blk.cell _ rfl | assumption)) rfl ?_
    refine s_val (v_len rfl (so rfl) rfl) rfl ?_
    refine s_val (v_move rfl) rfl ?_
    repeat (first | refine t_seq ?_ | refine t_region ?_ | refine s_nil ?_ | refine p_then ?_ | refine t_ret ?_ | refine p_then_ret ?_ | refine p_block_ret ?_ | refine t_block ?_ | refine t_exit ?_ | refine p_then_exit ?_ | refine p_block_exit ?_ | refine p_block ?_ | refine t_skip ?_)
    refine t_loop (fun s' : SumSt => [(12, .ex (I s'.i)), (11, .ex (I size)), (10, .ex (.slice (some ⟨s, 0, none⟩) size size)), (0, .ex (pt g 0)), (1, .ex s'.u)])
      (fun s' w' => s'.i ≤ size ∧ Only v.ownBlock.toList w w' ∧ App w v (l ++ (ownHash size data).take s'.i) s'.u w') (fun s' => size - s'.i) ⟨0, v⟩ ⟨rfl, rfl, rfl, rfl, rfl, trivial⟩
      ⟨by simp, Only.refl _ _, by simpa using hv, fun k hk => .inl hk⟩ ?_
    rintro ⟨i, u⟩ w2 ⟨hi, hw2, hu, hk⟩
    simp only at hi hu hk
    refine t_weak [(12, .ex (I i)), (11, .ex (I size)), (10, .ex (.slice (some ⟨s, 0, none⟩) size size)), (0, .ex (pt g 0)), (1, .ex u)] ⟨rfl, rfl, rfl, rfl, rfl, trivial⟩ ?_
    have hO2 := hO.only hw2 (fun h => by simp at h; exact hnv g h (by simp)) (fun h => by simp at h; exact hnv s h (by simp))
    repeat (first | refine t_seq ?_ | refine t_region ?_ | refine s_nil ?_ | refine p_then ?_ | refine t_ret ?_ | refine p_then_ret ?_ | refine p_block_ret ?_ | refine t_block ?_ | refine t_exit ?_ | refine p_then_exit ?_ | refine p_block_exit ?_ | refine p_block ?_ | refine t_skip ?_)
    refine s_val (v_ltI rfl rfl) rfl ?_
    repeat (first | refine t_seq ?_ | refine t_region ?_ | refine s_nil ?_ | refine p_then ?_ | refine t_ret ?_ | refine p_then_ret ?_ | refine p_block_ret ?_ | refine t_block ?_ | refine t_exit ?_ | refine p_then_exit ?_ | refine p_block_exit ?_ | refine p_block ?_ | refine t_skip ?_)
    refine t_if rfl (fun hb => ?_) (fun hb => ?_)
    · have hi' : i < size := by have := of_decide_eq_true hb; omega
      repeat (first | refine t_seq ?_ | refine t_region ?_ | refine s_nil ?_ | refine p_then ?_ | refine t_ret ?_ | refine p_then_ret ?_ | refine p_block_ret ?_ | refine t_block ?_ | refine t_exit ?_ | refine p_then_exit ?_ | refine p_block_exit ?_ | refine p_block ?_ | refine t_skip ?_)
      refine s_val (v_indexSlice rfl rfl (so rfl) (by omega)) rfl ?_
      refine s_val (v_load1 rfl (sc rfl) (by first | exact hO2.st.byte0 (by omega) | assumption)) rfl ?_
      refine s_val (v_assign rfl) rfl ?_
      repeat (first | refine t_seq ?_ | refine t_region ?_ | refine s_nil ?_ | refine p_then ?_ | refine t_ret ?_ | refine p_then_ret ?_ | refine p_block_ret ?_ | refine t_block ?_ | refine t_exit ?_ | refine p_then_exit ?_ | refine p_block_exit ?_ | refine p_block ?_ | refine t_skip ?_)
      refine s_val (v_move rfl) rfl ?_
      refine s_val (v_move rfl) rfl ?_
      refine s_val (v_move rfl) rfl ?_
      first | refine s_val (v_nilCheck rfl) rfl ?_ | refine s_val (v_nilCheck_iface rfl) rfl ?_
      refine s_val (v_fieldAddr rfl (fo rfl)) rfl ?_
      refine s_val (v_load1 rfl (sc rfl) (by first | exact hO2.blk.cell _ rfl | assumption)) rfl ?_
      refine s_val (v_convIB rfl (ko rfl) (ko rfl)) rfl ?_
      refine s_val (v_addB rfl rfl) rfl ?_
      refine s_op (o_buildSlice rt24 rfl rfl rfl (by show 0 < 1; decide) (by show 1 ≤ 16777216; decide) (by simp [Value.cells])) rfl rfl ?_
      rintro _ w3 hw3 ⟨rfl, hB3⟩
      refine s_op (o_appB (m := [(ownState size data).getD i 0 + UInt8.ofNat data.length]) rt24 rfl rfl rfl Tryz.underlying24 (hu.only hw3 (by simp [Nots])) hB3.rd0 (by simp; omega) mem_own) rfl rfl ?_
      rintro u4 w4 hw4 ⟨hu4, hk4⟩
      refine s_val (v_assign rfl) rfl ?_
      repeat (first | refine t_seq ?_ | refine t_region ?_ | refine s_nil ?_ | refine p_then ?_ | refine t_ret ?_ | refine p_then_ret ?_ | refine p_block_ret ?_ | refine t_block ?_ | refine t_exit ?_ | refine p_then_exit ?_ | refine p_block_exit ?_ | refine p_block ?_ | refine t_skip ?_)
      refine s_val (v_addI rfl opc (by omega)) rfl ?_
      refine s_val (v_move rfl) rfl ?_
      repeat (first | refine t_seq ?_ | refine t_region ?_ | refine s_nil ?_ | refine p_then ?_ | refine t_ret ?_ | refine p_then_ret ?_ | refine p_block_ret ?_ | refine t_block ?_ | refine t_exit ?_ | refine p_then_exit ?_ | refine p_block_exit ?_ | refine p_block ?_ | refine t_skip ?_)
      refine p_round ⟨i + 1, u4⟩ (by show size - (i + 1) < size - i; omega) ⟨rfl, rfl, rfl, rfl, rfl, trivial⟩ ⟨by show i + 1 ≤ size; omega, ?_, ?_, ?_⟩
      · refine (hw2.trans (hw3.mono (by simp))).trans_new hw4 (fun k hk' => ?_)
        simp at hk'
        rcases hk k hk' with h | h
        · left; simp [h]
        · exact .inr h
      · have e : (ownHash size data).take (i + 1) = (ownHash size data).take i ++ [(ownState size data).getD i 0 + UInt8.ofNat data.length] := by
          rw [take_snoc _ _ (by omega)]
          congr 2
          simp [ownHash, List.getD_eq_getElem?_getD, List.getElem?_eq_getElem (show i < (ownState size data).length by omega)]
        show Own w4 u4 (l ++ (ownHash size data).take (i + 1))
        rw [e, ← List.append_assoc]; exact hu4
      · intro k hk'
        rcases hk4 k hk' with h | h
        · exact hk k h
        · exact .inr (Nat.le_trans hw2.size (Nat.le_trans hw3.size h))
    · have hi' : i = size := by have := of_decide_eq_false hb; omega
      subst hi'
      rw [List.take_of_length_le (by omega)] at hu
      repeat (first | refine t_seq ?_ | refine t_region ?_ | refine s_nil ?_ | refine p_then ?_ | refine t_ret ?_ | refine p_then_ret ?_ | refine p_block_ret ?_ | refine t_block ?_ | refine t_exit ?_ | refine p_then_exit ?_ | refine p_block_exit ?_ | refine p_block ?_ | refine t_skip ?_)
      exact p_cut u ⟨rfl, trivial⟩ ⟨hw2, hu, hk⟩
  · rintro u w2 ⟨hw2, hu⟩
    repeat (first | refine t_seq ?_ | refine t_region ?_ | refine s_nil ?_ | refine p_then ?_ | refine t_ret ?_ | refine p_then_ret ?_ | refine p_block_ret ?_ | refine t_block ?_ | refine t_exit ?_ | refine p_then_exit ?_ | refine p_block_exit ?_ | refine p_block ?_ | refine t_skip ?_)
    refine s_val (v_move rfl) rfl ?_
    refine s_val (v_assign rfl) rfl ?_
    repeat (first | refine t_seq ?_ | refine t_region ?_ | refine s_nil ?_ | refine p_then ?_ | refine t_ret ?_ | refine p_then_ret ?_ | refine p_block_ret ?_ | refine t_block ?_ | refine t_exit ?_ | refine p_then_exit ?_ | refine p_block_exit ?_ | refine p_block ?_ | refine t_skip ?_)
    exact ret1 rfl rfl ⟨_, rfl, hw2, hu⟩
end Go.Proofs.YtnaefgnjdmmmcaaGreatDoor
