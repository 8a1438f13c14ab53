/-
  What is proved here, of the given program in the given model, of every input, with no condition but those that each theorem states ahead of its conclusion: hmac.New in the program, at one of its instances. hmac.New in the program, at one of its instances. hmac.New in the program, at one of its instances.
-/
import Derived.Test.YtnaefgnjdmmmcaaGreatDoorM04
/- hmac.New in the program, at one of its instances. -/
namespace Go.Proofs.YtnaefgnjdmmmcaaGreatDoor
open Go.RowKit
attribute [local irreducible] ValAt OpAt RunX Tr Post FlowK

set_option maxHeartbeats 1000000 in
/-- hmac.New -/
theorem c90  (hH : HK.sha.ok) (h : Value) (A : Option Addr) (c : Nat) (key : Bytes) (w : World) (hm : Mk HK.sha h) (hp : Rd w A key) (hc : key.length ≤ c) (hn : key.length ≤ 60000) (hK : KT w) (hw0 : 0 < w.heap.size) :
    Calls Tryz.prog 90 #[h, .slice A key.length c] w (Ret [] w fun v w' => ∃ q : HP, v = pt q.m 0 ∧ HmacAt HK.sha w' q key [] false key.length ∧ ∀ k ∈ q.fp, w.heap.size ≤ k) := by
  have hbl := HK.block_le hH
  have hsl := HK.size_le hH
  refine enter (Γ := [(0, .ex h), (1, .ex (.slice A key.length c))]) Tryz.func90 rfl rfl rfl ⟨⟨_, rfl, rfl⟩, ⟨_, rfl, rfl⟩, trivial⟩ ?_
  repeat (first | refine t_seq ?_ | refine t_region ?_ | refine s_nil ?_ | refine p_then ?_ | refine t_ret ?_ | refine p_then_ret ?_ | refine p_block_ret ?_ | refine t_block ?_ | refine t_exit ?_ | refine p_then_exit ?_ | refine p_block_exit ?_ | refine p_block ?_ | refine t_skip ?_)
  refine s_val (v_assign rfl) rfl ?_
  repeat (first | refine t_seq ?_ | refine t_region ?_ | refine s_nil ?_ | refine p_then ?_ | refine t_ret ?_ | refine p_then_ret ?_ | refine p_block_ret ?_ | refine t_block ?_ | refine t_exit ?_ | refine p_then_exit ?_ | refine p_block_exit ?_ | refine p_block ?_ | refine t_skip ?_)
  refine s_val (v_move rfl) rfl ?_
  refine s_val (v_len rfl (so rfl) rfl) rfl ?_
  refine s_val (v_build rfl (bu120 _)) rfl ?_
  refine s_op (o_box rfl) rfl rfl ?_
  rintro _ w1 hw1 ⟨rfl, hB1⟩
  refine s_op (o_alloc zc110) rfl rfl ?_
  rintro _ w2 hw2 ⟨rfl, hB2⟩
  refine s_store rfl rfl (si rfl) hB2 (by simp) rfl rfl (fun w3 hw3 hB3 => ?_)
  have hs1 := hB1.lt
  have hs2 := hB2.lt
  have hs3 := hw3.size
  have hM3 := (hB1.only hw2 (by simp)).only hw3 (by simp; omega)
  have hP3 : Blk w3 w1.heap.size 110 #[pt w.heap.size 0] := hB3
  have hz3 : Only [] w w3 := (hw1.trans hw2).trans_new hw3 (by simp; omega)
  have hg1 := hw1.size
  repeat (first | refine t_seq ?_ | refine t_region ?_ | refine s_nil ?_ | refine p_then ?_ | refine t_ret ?_ | refine p_then_ret ?_ | refine p_block_ret ?_ | refine t_block ?_ | refine t_exit ?_ | refine p_then_exit ?_ | refine p_block_exit ?_ | refine p_block ?_ | refine t_skip ?_)
  refine t_drawO 6 (by kernel_rfl) rfl ?_
  refine fk_val (Only.refl _) (fun wF hR => v_load1 rfl (sc rfl) (by first | exact (hP3.only hR (by simp)).cell _ rfl | assumption)) ?_
  refine fk_val (Only.refl _) (fun wF hR => v_move rfl) ?_
  refine fk_op st_ptr (fun wF hR => o_mk (H := HK.sha) (b := w3.heap.size) hm rfl hR.size) ?_
  refine fk_op st_if (fun wF hR => o_iface_ab Only.refl' rfl (co rfl)) ?_
  first | refine fk_val (Only.refl _) (fun wF hR => v_nilCheck rfl) ?_ | refine fk_val (Only.refl _) (fun wF hR => v_nilCheck_iface rfl) ?_
  refine fk_val (Only.refl _) (fun wF hR => v_fieldAddr rfl (fo rfl)) ?_
  refine fk_nil (fun w4 hw4 => ?_)
  refine x_open 17 rfl (fun v hv => ?_)
  obtain ⟨_, rfl, gO, rfl, fO, hO, hfO⟩ := hv
  have hltO5 : ∀ k ∈ fO, k < w4.heap.size := hO.lt
  have hM4 := hM3.only hw4 (by simp)
  have hP4 := hP3.only hw4 (by simp)
  have hs4 := hw4.size
  refine x_weak [(17, .ex (HK.val HK.sha gO)), (19, .ex (pt w.heap.size (0 + 2))), (0, .ex h), (1, .ex (.slice A key.length c)), (5, .ex (pt w1.heap.size 0))] ⟨rfl, rfl, rfl, rfl, rfl, trivial⟩ ?_
  refine s_store rfl rfl (si rfl) hM4 (by simp [Value.cells]) rfl rfl (fun w5 hw5 hM5 => ?_)
  have hP5 := hP4.only hw5 (by simp; omega)
  have hO5 := hO.only hw5 (fun i hi => by have := hfO i hi; simp; omega)
  have hs5 := hw5.size
  have hz5 : Only [] w w5 := (hz3.trans hw4).trans_new hw5 (by simp)
  repeat (first | refine t_seq ?_ | refine t_region ?_ | refine s_nil ?_ | refine p_then ?_ | refine t_ret ?_ | refine p_then_ret ?_ | refine p_block_ret ?_ | refine t_block ?_ | refine t_exit ?_ | refine p_then_exit ?_ | refine p_block_exit ?_ | refine p_block ?_ | refine t_skip ?_)
  refine t_drawO 6 (by kernel_rfl) rfl ?_
  refine fk_val (Only.refl _) (fun wF hR => v_load1 rfl (sc rfl) (by first | exact (hP5.only hR (by simp)).cell _ rfl | assumption)) ?_
  refine fk_val (Only.refl _) (fun wF hR => v_move rfl) ?_
  refine fk_op st_ptr (fun wF hR => o_mk (H := HK.sha) (b := w5.heap.size) hm rfl hR.size) ?_
  refine fk_op st_if (fun wF hR => o_iface_ab Only.refl' rfl (co rfl)) ?_
  first | refine fk_val (Only.refl _) (fun wF hR => v_nilCheck rfl) ?_ | refine fk_val (Only.refl _) (fun wF hR => v_nilCheck_iface rfl) ?_
  refine fk_val (Only.refl _) (fun wF hR => v_fieldAddr rfl (fo rfl)) ?_
  refine fk_nil (fun w6 hw6 => ?_)
  refine x_open 23 rfl (fun v hv => ?_)
  obtain ⟨_, rfl, gI, rfl, fI, hI, hfI⟩ := hv
  have hM6 := hM5.only hw6 (by simp)
  have hP6 := hP5.only hw6 (by simp)
  have hO6 := hO5.only hw6 (by simp)
  have hs6 := hw6.size
  refine x_weak [(23, .ex (HK.val HK.sha gI)), (25, .ex (pt w.heap.size (0 + 3))), (0, .ex h), (1, .ex (.slice A key.length c)), (5, .ex (pt w1.heap.size 0))] ⟨rfl, rfl, rfl, rfl, rfl, trivial⟩ ?_
  refine s_store rfl rfl (si rfl) hM6 (by simp [Value.cells]) rfl rfl (fun w7 hw7 hM7 => ?_)
  have hP7 := hP6.only hw7 (by simp; omega)
  have hO7 := hO6.only hw7 (fun i hi => by have := hfO i hi; simp; omega)
  have hI7 := hI.only hw7 (fun i hi => by have := hfI i hi; simp; omega)
  have hs7 := hw7.size
  have hz7 : Only [] w w7 := (hz5.trans hw6).trans_new hw7 (by simp)
  have hM7' : Blk w7 w.heap.size 120 #[.slice none 0 0, .slice none 0 0, HK.sha.val gO, HK.sha.val gI, .bool false, .bool false, I key.length] := hM7
  repeat (first | refine t_seq ?_ | refine t_region ?_ | refine s_nil ?_ | refine p_then ?_ | refine t_ret ?_ | refine p_then_ret ?_ | refine p_block_ret ?_ | refine t_block ?_ | refine t_exit ?_ | refine p_then_exit ?_ | refine p_block_exit ?_ | refine p_block ?_ | refine t_skip ?_)
  refine s_op (o_alloc zc4) rfl rfl ?_
  rintro _ w8 hw8 ⟨rfl, hB8⟩
  refine s_store (v := .bool true) rfl rfl (si rfl) hB8 (by simp) rfl rfl (fun w9 hw9 hB9 => ?_)
  have hs8 := hB8.lt
  have hs9 := hw9.size
  have hM9 := (hM7'.only hw8 (by simp)).only hw9 (by simp; omega)
  have hP9 := (hP7.only hw8 (by simp)).only hw9 (by simp; omega)
  have hltO := hO7.lt
  have hltI := hI7.lt
  have hO9 := (hO7.only hw8 (by simp)).only hw9 (fun i hi => by have := hltO i hi; simp; omega)
  have hI9 := (hI7.only hw8 (by simp)).only hw9 (fun i hi => by have := hltI i hi; simp; omega)
  have hB9' : Blk w9 w7.heap.size 4 #[.bool true] := hB9
  have hne : gO ≠ gI := by
    have e1 := hfI gI hI.mem
    have e2 := hltO5 gO hO.mem
    omega
  repeat (first | refine t_seq ?_ | refine t_region ?_ | refine s_nil ?_ | refine p_then ?_ | refine t_ret ?_ | refine p_then_ret ?_ | refine p_block_ret ?_ | refine t_block ?_ | refine t_exit ?_ | refine p_then_exit ?_ | refine p_block_exit ?_ | refine p_block ?_ | refine t_skip ?_)
  refine s_val (v_makeFunc rfl rfl) rfl ?_
  refine s_op (o_callv (f := 104) (first := #[]) (cap := #[pt w1.heap.size 0, pt w7.heap.size 0]) (xs := []) rfl rfl (en rfl) (c104 w1.heap.size w7.heap.size w.heap.size HK.sha.ty (pt gO 0) (pt gI 0) w9 (hP9.cell _ rfl) (hM9.cell _ rfl) (hM9.cell _ rfl) (HashAt.two (H := HK.sha) hO9 hI9 hne))) rfl rfl ?_
  rintro _ w10 hw10 _
  have hM10 := hM9.only hw10 (by simp)
  have hP10 := hP9.only hw10 (by simp)
  have hO10 := hO9.only hw10 (by simp)
  have hI10 := hI9.only hw10 (by simp)
  have hB10 := hB9'.only hw10 (by simp)
  have hs10 := hw10.size
  repeat (first | refine t_seq ?_ | refine t_region ?_ | refine s_nil ?_ | refine p_then ?_ | refine t_ret ?_ | refine p_then_ret ?_ | refine p_block_ret ?_ | refine t_block ?_ | refine t_exit ?_ | refine p_then_exit ?_ | refine p_block_exit ?_ | refine p_block ?_ | refine t_skip ?_)
  refine s_val (v_load1 rfl (sc rfl) (by first | exact hB10.cell _ rfl | assumption)) rfl ?_
  refine s_val (v_bool_not rfl) rfl ?_
  repeat (first | refine t_seq ?_ | refine t_region ?_ | refine s_nil ?_ | refine p_then ?_ | refine t_ret ?_ | refine p_then_ret ?_ | refine p_block_ret ?_ | refine t_block ?_ | refine t_exit ?_ | refine p_then_exit ?_ | refine p_block_exit ?_ | refine p_block ?_ | refine t_skip ?_)
  refine t_false rfl ?_
  repeat (first | refine t_seq ?_ | refine t_region ?_ | refine s_nil ?_ | refine p_then ?_ | refine t_ret ?_ | refine p_then_ret ?_ | refine p_block_ret ?_ | refine t_block ?_ | refine t_exit ?_ | refine p_then_exit ?_ | refine p_block_exit ?_ | refine p_block ?_ | refine t_skip ?_)
  refine s_val (v_load1 rfl (sc rfl) (by first | exact hP10.cell _ rfl | exact hM10.cell _ rfl | assumption)) rfl ?_
  first | refine s_val (v_nilCheck rfl) rfl ?_ | refine s_val (v_nilCheck_iface rfl) rfl ?_
  refine s_val (v_fieldAddr rfl (fo rfl)) rfl ?_
  refine s_val (v_load1 rfl (sc rfl) (by first | exact hP10.cell _ rfl | exact hM10.cell _ rfl | assumption)) rfl ?_
  refine s_op (o_invoke rfl rfl (HK.meb HK.sha _ _) (HK.enb HK.sha) (hBlock hI10)) rfl rfl ?_
  rintro _ w11 hw11 rfl
  refine s_val (v_assign rfl) rfl ?_
  have hM11 := hM10.only hw11 (by simp)
  have hP11 := hP10.only hw11 (by simp)
  have hO11 := hO10.only hw11 (by simp)
  have hI11 := hI10.only hw11 (by simp)
  have hs11 := hw11.size
  have hz11 : Only [] w w11 := (((hz7.trans hw8).trans_new hw9 (by simp; omega)).trans hw10).trans hw11
  repeat (first | refine t_seq ?_ | refine t_region ?_ | refine s_nil ?_ | refine p_then ?_ | refine t_ret ?_ | refine p_then_ret ?_ | refine p_block_ret ?_ | refine t_block ?_ | refine t_exit ?_ | refine p_then_exit ?_ | refine p_block_exit ?_ | refine p_block ?_ | refine t_skip ?_)
  refine t_drawO 5 (by kernel_rfl) rfl ?_
  refine fk_val (Only.refl _) (fun wF hR => v_load1 rfl (sc rfl) (by first | exact (hP11.only hR (by simp)).cell _ rfl | assumption)) ?_
  refine fk_val (Only.refl _) (fun wF hR => v_move rfl) ?_
  refine fk_op st_mk (fun wF hR => o_make_ab (b := w11.heap.size) rt24 hR.size rfl rfl (by omega) (by omega)) ?_
  first | refine fk_val (Only.refl _) (fun wF hR => v_nilCheck rfl) ?_ | refine fk_val (Only.refl _) (fun wF hR => v_nilCheck_iface rfl) ?_
  refine fk_val (Only.refl _) (fun wF hR => v_fieldAddr rfl (fo rfl)) ?_
  refine fk_nil (fun w12 hw12 => ?_)
  refine x_open 38 rfl (fun v hv => ?_)
  obtain ⟨i, hi, rfl, hi12⟩ := hv
  have hi12' : Blk w12 i 5 ((zeros HK.sha.block).map B).toArray := by simpa [zeros] using hi12
  have hM12 := hM11.only hw12 (by simp)
  have hP12 := hP11.only hw12 (by simp)
  have hs12 := hw12.size
  have hilt := hi12.lt
  refine x_weak [(38, .ex (.slice (some ⟨i, 0, none⟩) (HK.block HK.sha) (HK.block HK.sha))), (40, .ex (pt w.heap.size (0 + 1))), (0, .ex h), (1, .ex (.slice A key.length c)), (5, .ex (pt w1.heap.size 0)), (7, .ex (I (HK.block HK.sha)))] ⟨rfl, rfl, rfl, rfl, rfl, rfl, trivial⟩ ?_
  refine s_store rfl rfl (si rfl) hM12 (by simp) rfl rfl (fun w13 hw13 hM13 => ?_)
  have hP13 := hP12.only hw13 (by simp; omega)
  have hs13 := hw13.size
  have hi13 := hi12'.only hw13 (by simp; omega)
  have hz13 : Only [] w w13 := (hz11.trans hw12).trans_new hw13 (by simp)
  repeat (first | refine t_seq ?_ | refine t_region ?_ | refine s_nil ?_ | refine p_then ?_ | refine t_ret ?_ | refine p_then_ret ?_ | refine p_block_ret ?_ | refine t_block ?_ | refine t_exit ?_ | refine p_then_exit ?_ | refine p_block_exit ?_ | refine p_block ?_ | refine t_skip ?_)
  refine t_drawO 5 (by kernel_rfl) rfl ?_
  refine fk_val (Only.refl _) (fun wF hR => v_load1 rfl (sc rfl) (by first | exact (hP13.only hR (by simp)).cell _ rfl | assumption)) ?_
  refine fk_val (Only.refl _) (fun wF hR => v_move rfl) ?_
  refine fk_op st_mk (fun wF hR => o_make_ab (b := w13.heap.size) rt24 hR.size rfl rfl (by omega) (by omega)) ?_
  first | refine fk_val (Only.refl _) (fun wF hR => v_nilCheck rfl) ?_ | refine fk_val (Only.refl _) (fun wF hR => v_nilCheck_iface rfl) ?_
  refine fk_val (Only.refl _) (fun wF hR => v_fieldAddr rfl (fo rfl)) ?_
  refine fk_nil (fun w14 hw14 => ?_)
  refine x_open 43 rfl (fun v hv => ?_)
  obtain ⟨o, ho14, rfl, ho14b⟩ := hv
  have ho14' : Blk w14 o 5 ((zeros HK.sha.block).map B).toArray := by simpa [zeros] using ho14b
  have hM14 := hM13.only hw14 (by simp)
  have hP14 := hP13.only hw14 (by simp)
  have hi14 := hi13.only hw14 (by simp)
  have holt := ho14b.lt
  have hs14 := hw14.size
  refine x_weak [(43, .ex (.slice (some ⟨o, 0, none⟩) (HK.block HK.sha) (HK.block HK.sha))), (45, .ex (pt w.heap.size (0 + 0))), (0, .ex h), (1, .ex (.slice A key.length c)), (5, .ex (pt w1.heap.size 0)), (7, .ex (I (HK.block HK.sha)))] ⟨rfl, rfl, rfl, rfl, rfl, rfl, trivial⟩ ?_
  refine s_store rfl rfl (si rfl) hM14 (by simp) rfl rfl (fun w15 hw15 hM15 => ?_)
  have hP15 := hP14.only hw15 (by simp; omega)
  have hi15 := hi14.only hw15 (by simp; omega)
  have ho15 := ho14'.only hw15 (by simp; omega)
  have hs15 := hw15.size
  have hz15 : Only [] w w15 := (hz13.trans hw14).trans_new hw15 (by simp)
  have hlt11O := hO11.lt
  have hlt11I := hI11.lt
  have hO15 := (((hO11.only hw12 (by simp)).only hw13 (fun i hi => by have := hfO i hi; simp; omega)).only hw14 (by simp)).only hw15 (fun i hi => by have := hfO i hi; simp; omega)
  have hI15 := (((hI11.only hw12 (by simp)).only hw13 (fun i hi => by have := hfI i hi; simp; omega)).only hw14 (by simp)).only hw15 (fun i hi => by have := hfI i hi; simp; omega)
  obtain ⟨q, hq⟩ : ∃ q : HP, q = ⟨w.heap.size, o, i, gO, gI, fO, fI⟩ := ⟨_, rfl⟩
  have hbase : ∀ k ∈ q.fp, w.heap.size ≤ k ∧ k ≠ w1.heap.size := by
    subst hq
    intro k hk
    simp only [HP.fp, List.mem_cons, List.mem_append] at hk
    rcases hk with rfl | rfl | rfl | hk | hk
    · omega
    · omega
    · omega
    · have := hfO k hk; omega
    · have := hfI k hk; omega
  have hX15 : HmPre HK.sha w15 q key.length (zeros HK.sha.block) (zeros HK.sha.block) [] := by
    subst hq
    refine ⟨hM15, ho15, hi15, ⟨_, hO15⟩, hI15, ?_⟩
    simp only [HP.fp, List.nodup_cons, List.mem_cons, List.mem_append, List.nodup_append, not_or]
    have aO : ∀ k ∈ fO, w3.heap.size ≤ k ∧ k < w5.heap.size := fun k hk => ⟨hfO k hk, Nat.lt_of_lt_of_le (hltO5 k hk) hs5⟩
    have aI : ∀ k ∈ fI, w5.heap.size ≤ k ∧ k < w11.heap.size := fun k hk => ⟨hfI k hk, hlt11I k hk⟩
    refine ⟨⟨by omega, by omega, fun hk => by have := aO _ hk; omega, fun hk => by have := aI _ hk; omega⟩, ⟨by omega, fun hk => by have := aO _ hk; omega, fun hk => by have := aI _ hk; omega⟩, ⟨fun hk => by have := aO _ hk; omega, fun hk => by have := aI _ hk; omega⟩, hO.nodup, hI.nodup, fun a ha b hb => by have := aO _ ha; have := aI _ hb; omega⟩
  have hq0 : q.m = w.heap.size := by rw [hq]
  have hqo : q.o = o := by rw [hq]
  have hqi : q.i = i := by rw [hq]
  rw [← hq0]
  have hPne : w1.heap.size ∉ q.fp := fun hk => (hbase _ hk).2 rfl
  have hPq : Blk w15 w1.heap.size 110 #[pt q.m 0] := by rw [hq0]; exact hP15
  have hm0 : q.m ∈ q.fp := by simp [HP.fp]
  have ho0 : q.o ∈ q.fp := by simp [HP.fp]
  have hi0 : q.i ∈ q.fp := by simp [HP.fp]
  have hO0 : ∀ k ∈ q.fO, k ∈ q.fp := fun k hk => by simp [HP.fp, hk]
  have hI0 : ∀ k ∈ q.fI, k ∈ q.fp := fun k hk => by simp [HP.fp, hk]
  have h00 : ∀ k ∈ q.fp, k ≠ 0 := fun k hk => by have := (hbase k hk).1; omega
  have h0O : 0 ∉ q.fO := fun hk => h00 0 (hO0 0 hk) rfl
  have h0I : 0 ∉ q.fI := fun hk => h00 0 (hI0 0 hk) rfl
  have hOq : HashAt HK.sha w15 q.gO q.fO [] := by rw [hq]; exact hO15
  have hoffk : key ≠ [] → Off A q.fp := fun hne => by
    obtain ⟨gA, iA, rfl, hgA, _⟩ := hp hne
    exact Off.pt (fun hk => by have := (hbase _ hk).1; omega)
  have hnewO : ∀ k ∈ q.fO, k ∈ ([] : List Nat) ∨ w.heap.size ≤ k := fun k hk => .inr (hbase k (hO0 k hk)).1
  have hsk := shortKey_length hH key
  refine s_nil (p_then ?_)
  refine t_cut (fun s : KS => [(1, .ex (.slice s.A s.k.length s.c)), (5, .ex (pt w1.heap.size 0)), (7, .ex (I (HK.block HK.sha)))])
    (fun s w' => Only [] w w' ∧ HmPre HK.sha w' q key.length (zeros (HK.block HK.sha)) (zeros (HK.block HK.sha)) [] ∧ Blk w' w1.heap.size 110 #[pt q.m 0] ∧ s.k = shortKey HK.sha key ∧ Rd w' s.A s.k ∧ (s.k ≠ [] → Off s.A q.fp) ∧ s.k.length ≤ s.c) ?_ ?_
  · repeat (first | refine t_seq ?_ | refine t_region ?_ | refine s_nil ?_ | refine p_then ?_ | refine t_ret ?_ | refine p_then_ret ?_ | refine p_block_ret ?_ | refine t_block ?_ | refine t_exit ?_ | refine p_then_exit ?_ | refine p_block_exit ?_ | refine p_block ?_ | refine t_skip ?_)
    refine s_val (v_move rfl) rfl ?_
    refine s_val (v_len rfl (so rfl) rfl) rfl ?_
    refine s_val (v_move rfl) rfl ?_
    refine s_val (v_gtI rfl rfl) rfl ?_
    repeat (first | refine t_seq ?_ | refine t_region ?_ | refine s_nil ?_ | refine p_then ?_ | refine t_ret ?_ | refine p_then_ret ?_ | refine p_block_ret ?_ | refine t_block ?_ | refine t_exit ?_ | refine p_then_exit ?_ | refine p_block_exit ?_ | refine p_block ?_ | refine t_skip ?_)
    refine t_if rfl (fun hb => ?_) (fun hb => ?_)
    · have hbk : HK.block HK.sha < key.length := by have := of_decide_eq_true hb; omega
      clear hb
      repeat (first | refine t_seq ?_ | refine t_region ?_ | refine s_nil ?_ | refine p_then ?_ | refine t_ret ?_ | refine p_then_ret ?_ | refine p_block_ret ?_ | refine t_block ?_ | refine t_exit ?_ | refine p_then_exit ?_ | refine p_block_exit ?_ | refine p_block ?_ | refine t_skip ?_)
      refine s_val (v_load1 rfl (sc rfl) (by first | exact hPq.cell _ rfl | exact hX15.blk.cell _ rfl | assumption)) rfl ?_
      first | refine s_val (v_nilCheck rfl) rfl ?_ | refine s_val (v_nilCheck_iface rfl) rfl ?_
      refine s_val (v_fieldAddr rfl (fo rfl)) rfl ?_
      refine s_val (v_load1 rfl (sc rfl) (by first | exact hPq.cell _ rfl | exact hX15.blk.cell _ rfl | assumption)) rfl ?_
      refine s_val (v_move rfl) rfl ?_
      refine s_op (o_invoke rfl rfl (HK.mew HK.sha _ _) (HK.enw HK.sha) (hWrite hH hOq (hp.pure hz15) (fun hne => fun a ha hm => hoffk hne a ha (hO0 _ hm)) hc (by simp; omega) (hK.only hz15 (by simp)) h0O)) rfl rfl ?_
      rintro _ w16 hw16 ⟨rfl, hO16⟩
      have hX16 := hX15.setOuter hw16 hO16
      have hP16 := hPq.only hw16 (fun hk => hPne (hO0 _ hk))
      have hz16 : Only [] w w16 := hz15.trans_new hw16 hnewO
      have hs16 := hw16.size
      repeat (first | refine t_seq ?_ | refine t_region ?_ | refine s_nil ?_ | refine p_then ?_ | refine t_ret ?_ | refine p_then_ret ?_ | refine p_block_ret ?_ | refine t_block ?_ | refine t_exit ?_ | refine p_then_exit ?_ | refine p_block_exit ?_ | refine p_block ?_ | refine t_skip ?_)
      refine s_val (v_load1 rfl (sc rfl) (by first | exact hP16.cell _ rfl | exact hX16.blk.cell _ rfl | assumption)) rfl ?_
      first | refine s_val (v_nilCheck rfl) rfl ?_ | refine s_val (v_nilCheck_iface rfl) rfl ?_
      refine s_val (v_fieldAddr rfl (fo rfl)) rfl ?_
      refine s_val (v_load1 rfl (sc rfl) (by first | exact hP16.cell _ rfl | exact hX16.blk.cell _ rfl | assumption)) rfl ?_
      refine s_op (o_invoke rfl rfl (HK.mes HK.sha _ _) (HK.ens HK.sha) (hSum hH hO16 (Own.nil w16) (Nots.nil _) (by simp; omega) (by simp) (hK.only hz16 (by simp)))) rfl rfl ?_
      rintro v17 w17 hw17 ⟨hv17, hk17⟩
      refine s_val (v_assign rfl) rfl ?_
      have hw17' : Only [] w16 w17 := hw17
      obtain ⟨A', c', rfl, hc', hrd', hoff'⟩ := hv17.slice
      have hn17 : Nots (.slice A' ([] ++ HK.hash HK.sha ([] ++ key)).length c') q.fp := fun k hk hm => by
        rcases hk17 k hk with e | e
        · cases e
        · have := hX16.lt k hm; omega
      repeat (first | refine t_seq ?_ | refine t_region ?_ | refine s_nil ?_ | refine p_then ?_ | refine t_ret ?_ | refine p_then_ret ?_ | refine p_block_ret ?_ | refine t_block ?_ | refine t_exit ?_ | refine p_then_exit ?_ | refine p_block_exit ?_ | refine p_block ?_ | refine t_skip ?_)
      exact p_cut ⟨A', c', [] ++ HK.hash HK.sha ([] ++ key)⟩ ⟨rfl, rfl, rfl, trivial⟩ ⟨hz16.trans hw17', hX16.only hw17' (by simp), hP16.only hw17' (by simp), by simp [shortKey, hbk], hrd', fun _ => hoff' _ hn17, hc'⟩
    · have hbk : ¬ HK.block HK.sha < key.length := by have := of_decide_eq_false hb; omega
      clear hb
      repeat (first | refine t_seq ?_ | refine t_region ?_ | refine s_nil ?_ | refine p_then ?_ | refine t_ret ?_ | refine p_then_ret ?_ | refine p_block_ret ?_ | refine t_block ?_ | refine t_exit ?_ | refine p_then_exit ?_ | refine p_block_exit ?_ | refine p_block ?_ | refine t_skip ?_)
      exact p_cut ⟨A, c, key⟩ ⟨rfl, rfl, rfl, trivial⟩ ⟨hz15, hX15, hPq, by simp [shortKey, hbk], hp.pure hz15, hoffk, hc⟩
  clear hX15 hPq hOq hq hp hc
  rintro ⟨A1, c1, k1⟩ w18 ⟨hz18, hX18, hP18, hk1, hrd, hoff, hc1⟩
  simp only at hk1 hrd hoff hc1
  subst hk1
  refine t_weak [(1, .ex (.slice A1 (shortKey HK.sha key).length c1)), (5, .ex (pt w1.heap.size 0)), (7, .ex (I (HK.block HK.sha)))] ⟨rfl, rfl, rfl, trivial⟩ ?_
  have hnewi : ∀ k ∈ [q.i], k ∈ ([] : List Nat) ∨ w.heap.size ≤ k := fun k hk => .inr (by simp at hk; rw [hk]; exact (hbase _ hi0).1)
  have hnewo : ∀ k ∈ [q.o], k ∈ ([] : List Nat) ∨ w.heap.size ≤ k := fun k hk => .inr (by simp at hk; rw [hk]; exact (hbase _ ho0).1)
  have hPi : w1.heap.size ∉ [q.i] := by simp; exact fun e => hPne (e ▸ hi0)
  have hPo : w1.heap.size ∉ [q.o] := by simp; exact fun e => hPne (e ▸ ho0)
  obtain ⟨K, hKe⟩ : ∃ K, K = shortKey HK.sha key ++ zeros (HK.block HK.sha - (shortKey HK.sha key).length) := ⟨_, rfl⟩
  have hKl : K.length = HK.block HK.sha := by rw [hKe]; simp [zeros]; omega
  repeat (first | refine t_seq ?_ | refine t_region ?_ | refine s_nil ?_ | refine p_then ?_ | refine t_ret ?_ | refine p_then_ret ?_ | refine p_block_ret ?_ | refine t_block ?_ | refine t_exit ?_ | refine p_then_exit ?_ | refine p_block_exit ?_ | refine p_block ?_ | refine t_skip ?_)
  refine s_val (v_load1 rfl (sc rfl) (by first | exact hP18.cell _ rfl | exact hX18.blk.cell _ rfl | assumption)) rfl ?_
  first | refine s_val (v_nilCheck rfl) rfl ?_ | refine s_val (v_nilCheck_iface rfl) rfl ?_
  refine s_val (v_fieldAddr rfl (fo rfl)) rfl ?_
  refine s_val (v_load1 rfl (sc rfl) (by first | exact hP18.cell _ rfl | exact hX18.blk.cell _ rfl | assumption)) rfl ?_
  refine s_val (v_move rfl) rfl ?_
  refine s_op (o_copy (i := 0) rt24 rfl rfl rfl hX18.ipad hrd (fun _ => rfl) (by simp [zeros]; omega)) rfl rfl ?_
  rintro _ w19 hw19 ⟨_, hi19⟩
  rw [splC_bytes, spl_zeros _ _ hsk, ← hKe] at hi19
  have hX19 := hX18.setI hw19 hi19
  have hP19 := hP18.only hw19 hPi
  have hrd19 := hrd.only hw19 (fun hne a ha hm => by simp at hm; exact hoff hne a ha (by rw [hm]; exact hi0))
  have hz19 := hz18.trans_new hw19 hnewi
  repeat (first | refine t_seq ?_ | refine t_region ?_ | refine s_nil ?_ | refine p_then ?_ | refine t_ret ?_ | refine p_then_ret ?_ | refine p_block_ret ?_ | refine t_block ?_ | refine t_exit ?_ | refine p_then_exit ?_ | refine p_block_exit ?_ | refine p_block ?_ | refine t_skip ?_)
  refine s_val (v_load1 rfl (sc rfl) (by first | exact hP19.cell _ rfl | exact hX19.blk.cell _ rfl | assumption)) rfl ?_
  first | refine s_val (v_nilCheck rfl) rfl ?_ | refine s_val (v_nilCheck_iface rfl) rfl ?_
  refine s_val (v_fieldAddr rfl (fo rfl)) rfl ?_
  refine s_val (v_load1 rfl (sc rfl) (by first | exact hP19.cell _ rfl | exact hX19.blk.cell _ rfl | assumption)) rfl ?_
  refine s_val (v_move rfl) rfl ?_
  refine s_op (o_copy (i := 0) rt24 rfl rfl rfl hX19.opad hrd19 (fun _ => rfl) (by simp [zeros]; omega)) rfl rfl ?_
  rintro _ w20 hw20 ⟨_, ho20⟩
  rw [splC_bytes, spl_zeros _ _ hsk, ← hKe] at ho20
  have hX20 := hX19.setO hw20 ho20
  have hP20 := hP19.only hw20 hPo
  have hz20 := hz19.trans_new hw20 hnewo
  clear hX18 hX19 hP18 hP19
  refine s_nil (p_then ?_)
  refine t_cut (fun _ : Unit => [(5, .ex (pt w1.heap.size 0)), (7, .ex (I (HK.block HK.sha)))]) (fun _ w' => Only [] w w' ∧ HmPre HK.sha w' q key.length K (K.map (· ^^^ 0x36)) [] ∧ Blk w' w1.heap.size 110 #[pt q.m 0]) ?_ ?_
  · repeat (first | refine t_seq ?_ | refine t_region ?_ | refine s_nil ?_ | refine p_then ?_ | refine t_ret ?_ | refine p_then_ret ?_ | refine p_block_ret ?_ | refine t_block ?_ | refine t_exit ?_ | refine p_then_exit ?_ | refine p_block_exit ?_ | refine p_block ?_ | refine t_skip ?_)
    refine s_val (v_load1 rfl (sc rfl) (by first | exact hP20.cell _ rfl | exact hX20.blk.cell _ rfl | assumption)) rfl ?_
    first | refine s_val (v_nilCheck rfl) rfl ?_ | refine s_val (v_nilCheck_iface rfl) rfl ?_
    refine s_val (v_fieldAddr rfl (fo rfl)) rfl ?_
    refine s_val (v_load1 rfl (sc rfl) (by first | exact hP20.cell _ rfl | exact hX20.blk.cell _ rfl | assumption)) rfl ?_
    refine s_val (v_len rfl (so rfl) rfl) rfl ?_
    refine s_val (v_move rfl) rfl ?_
    repeat (first | refine t_seq ?_ | refine t_region ?_ | refine s_nil ?_ | refine p_then ?_ | refine t_ret ?_ | refine p_then_ret ?_ | refine p_block_ret ?_ | refine t_block ?_ | refine t_exit ?_ | refine p_then_exit ?_ | refine p_block_exit ?_ | refine p_block ?_ | refine t_skip ?_)
    refine t_loop (fun k : Nat => [(78, .ex (I k)), (77, .ex (I (HK.block HK.sha))), (5, .ex (pt w1.heap.size 0)), (7, .ex (I (HK.block HK.sha)))])
      (fun k w' => k ≤ HK.block HK.sha ∧ Only [] w w' ∧ HmPre HK.sha w' q key.length K (spl K 0 ((K.map (· ^^^ 0x36)).take k)) [] ∧ Blk w' w1.heap.size 110 #[pt q.m 0]) (fun k => HK.block HK.sha - k) 0 ⟨rfl, rfl, rfl, rfl, trivial⟩
      ⟨by omega, hz20, by simpa [spl_nil] using hX20, hP20⟩ ?_
    clear hX20 hP20
    rintro k w21 ⟨hk, hz21, hX21, hP21⟩
    repeat (first | refine t_seq ?_ | refine t_region ?_ | refine s_nil ?_ | refine p_then ?_ | refine t_ret ?_ | refine p_then_ret ?_ | refine p_block_ret ?_ | refine t_block ?_ | refine t_exit ?_ | refine p_then_exit ?_ | refine p_block_exit ?_ | refine p_block ?_ | refine t_skip ?_)
    refine s_val (v_ltI rfl rfl) rfl ?_
    repeat (first | refine t_seq ?_ | refine t_region ?_ | refine s_nil ?_ | refine p_then ?_ | refine t_ret ?_ | refine p_then_ret ?_ | refine p_block_ret ?_ | refine t_block ?_ | refine t_exit ?_ | refine p_then_exit ?_ | refine p_block_exit ?_ | refine p_block ?_ | refine t_skip ?_)
    refine t_if rfl (fun hb => ?_) (fun hb => ?_)
    · have hk' : k < HK.block HK.sha := by have := of_decide_eq_true hb; omega
      have hml : 0 + ((K.map (· ^^^ (0x36 : UInt8))).take k).length ≤ K.length := by simp; omega
      have hsl' := spl_length hml
      have hval : (spl K 0 ((K.map (· ^^^ (0x36 : UInt8))).take k)).getD k 0 = K.getD k 0 := spl_at K _ k (by omega) (by simp)
      repeat (first | refine t_seq ?_ | refine t_region ?_ | refine s_nil ?_ | refine p_then ?_ | refine t_ret ?_ | refine p_then_ret ?_ | refine p_block_ret ?_ | refine t_block ?_ | refine t_exit ?_ | refine p_then_exit ?_ | refine p_block_exit ?_ | refine p_block ?_ | refine t_skip ?_)
      refine s_val (v_move rfl) rfl ?_
      refine s_val (v_assign rfl) rfl ?_
      repeat (first | refine t_seq ?_ | refine t_region ?_ | refine s_nil ?_ | refine p_then ?_ | refine t_ret ?_ | refine p_then_ret ?_ | refine p_block_ret ?_ | refine t_block ?_ | refine t_exit ?_ | refine p_then_exit ?_ | refine p_block_exit ?_ | refine p_block ?_ | refine t_skip ?_)
      refine s_val (v_load1 rfl (sc rfl) (by first | exact hP21.cell _ rfl | exact hX21.blk.cell _ rfl | exact hX21.ipad.byte0 (by omega) | assumption)) rfl ?_
      first | refine s_val (v_nilCheck rfl) rfl ?_ | refine s_val (v_nilCheck_iface rfl) rfl ?_
      refine s_val (v_fieldAddr rfl (fo rfl)) rfl ?_
      refine s_val (v_load1 rfl (sc rfl) (by first | exact hP21.cell _ rfl | exact hX21.blk.cell _ rfl | exact hX21.ipad.byte0 (by omega) | assumption)) rfl ?_
      refine s_val (v_move rfl) rfl ?_
      refine s_val (v_indexSlice rfl rfl (so rfl) (by omega)) rfl ?_
      refine s_val (v_load1 rfl (sc rfl) (by first | exact hP21.cell _ rfl | exact hX21.blk.cell _ rfl | exact hX21.ipad.byte0 (by omega) | assumption)) rfl ?_
      refine s_val (v_xorB rfl (opb rfl)) rfl ?_
      refine s_val (v_indexSlice rfl rfl (so rfl) (by omega)) rfl ?_
      refine s_storeB rfl rfl (si rfl) hX21.ipad (by omega) rfl (fun w22 hw22 hi22 => ?_)
      rw [hval, spl_set (b := K.getD k 0 ^^^ UInt8.ofNat 54) (by simp [hKl]) (map_get K 0x36 k (by omega))] at hi22
      repeat (first | refine t_seq ?_ | refine t_region ?_ | refine s_nil ?_ | refine p_then ?_ | refine t_ret ?_ | refine p_then_ret ?_ | refine p_block_ret ?_ | refine t_block ?_ | refine t_exit ?_ | refine p_then_exit ?_ | refine p_block_exit ?_ | refine p_block ?_ | refine t_skip ?_)
      refine s_val (v_addI rfl opc (by omega)) rfl ?_
      refine s_val (v_move rfl) rfl ?_
      repeat (first | refine t_seq ?_ | refine t_region ?_ | refine s_nil ?_ | refine p_then ?_ | refine t_ret ?_ | refine p_then_ret ?_ | refine p_block_ret ?_ | refine t_block ?_ | refine t_exit ?_ | refine p_then_exit ?_ | refine p_block_exit ?_ | refine p_block ?_ | refine t_skip ?_)
      exact p_round (k + 1) (Nat.sub_lt_sub_left hk' (Nat.lt_succ_self k)) ⟨rfl, rfl, rfl, rfl, trivial⟩ ⟨by omega, hz21.trans_new hw22 hnewi, hX21.setI hw22 hi22, hP21.only hw22 hPi⟩
    · have hk' : k = HK.block HK.sha := by have := of_decide_eq_false hb; omega
      subst hk'
      rw [List.take_of_length_le (by rw [List.length_map]; exact Nat.le_of_eq hKl), spl_all (by simp)] at hX21
      repeat (first | refine t_seq ?_ | refine t_region ?_ | refine s_nil ?_ | refine p_then ?_ | refine t_ret ?_ | refine p_then_ret ?_ | refine p_block_ret ?_ | refine t_block ?_ | refine t_exit ?_ | refine p_then_exit ?_ | refine p_block_exit ?_ | refine p_block ?_ | refine t_skip ?_)
      exact p_cut () ⟨rfl, rfl, trivial⟩ ⟨hz21, hX21, hP21⟩
  clear hX20 hP20 hz20
  rintro _ w20 ⟨hz20, hX20, hP20⟩
  refine t_cut (fun _ : Unit => [(5, .ex (pt w1.heap.size 0)), (7, .ex (I (HK.block HK.sha)))]) (fun _ w' => Only [] w w' ∧ HmPre HK.sha w' q key.length (K.map (· ^^^ 0x5c)) (K.map (· ^^^ 0x36)) [] ∧ Blk w' w1.heap.size 110 #[pt q.m 0]) ?_ ?_
  · repeat (first | refine t_seq ?_ | refine t_region ?_ | refine s_nil ?_ | refine p_then ?_ | refine t_ret ?_ | refine p_then_ret ?_ | refine p_block_ret ?_ | refine t_block ?_ | refine t_exit ?_ | refine p_then_exit ?_ | refine p_block_exit ?_ | refine p_block ?_ | refine t_skip ?_)
    refine s_val (v_load1 rfl (sc rfl) (by first | exact hP20.cell _ rfl | exact hX20.blk.cell _ rfl | assumption)) rfl ?_
    first | refine s_val (v_nilCheck rfl) rfl ?_ | refine s_val (v_nilCheck_iface rfl) rfl ?_
    refine s_val (v_fieldAddr rfl (fo rfl)) rfl ?_
    refine s_val (v_load1 rfl (sc rfl) (by first | exact hP20.cell _ rfl | exact hX20.blk.cell _ rfl | assumption)) rfl ?_
    refine s_val (v_len rfl (so rfl) rfl) rfl ?_
    refine s_val (v_move rfl) rfl ?_
    repeat (first | refine t_seq ?_ | refine t_region ?_ | refine s_nil ?_ | refine p_then ?_ | refine t_ret ?_ | refine p_then_ret ?_ | refine p_block_ret ?_ | refine t_block ?_ | refine t_exit ?_ | refine p_then_exit ?_ | refine p_block_exit ?_ | refine p_block ?_ | refine t_skip ?_)
    refine t_loop (fun k : Nat => [(96, .ex (I k)), (95, .ex (I (HK.block HK.sha))), (5, .ex (pt w1.heap.size 0)), (7, .ex (I (HK.block HK.sha)))])
      (fun k w' => k ≤ HK.block HK.sha ∧ Only [] w w' ∧ HmPre HK.sha w' q key.length (spl K 0 ((K.map (· ^^^ 0x5c)).take k)) (K.map (· ^^^ 0x36)) [] ∧ Blk w' w1.heap.size 110 #[pt q.m 0]) (fun k => HK.block HK.sha - k) 0 ⟨rfl, rfl, rfl, rfl, trivial⟩
      ⟨by omega, hz20, by simpa [spl_nil] using hX20, hP20⟩ ?_
    clear hX20 hP20
    rintro k w21 ⟨hk, hz21, hX21, hP21⟩
    repeat (first | refine t_seq ?_ | refine t_region ?_ | refine s_nil ?_ | refine p_then ?_ | refine t_ret ?_ | refine p_then_ret ?_ | refine p_block_ret ?_ | refine t_block ?_ | refine t_exit ?_ | refine p_then_exit ?_ | refine p_block_exit ?_ | refine p_block ?_ | refine t_skip ?_)
    refine s_val (v_ltI rfl rfl) rfl ?_
    repeat (first | refine t_seq ?_ | refine t_region ?_ | refine s_nil ?_ | refine p_then ?_ | refine t_ret ?_ | refine p_then_ret ?_ | refine p_block_ret ?_ | refine t_block ?_ | refine t_exit ?_ | refine p_then_exit ?_ | refine p_block_exit ?_ | refine p_block ?_ | refine t_skip ?_)
    refine t_if rfl (fun hb => ?_) (fun hb => ?_)
    · have hk' : k < HK.block HK.sha := by have := of_decide_eq_true hb; omega
      have hml : 0 + ((K.map (· ^^^ (0x5c : UInt8))).take k).length ≤ K.length := by simp; omega
      have hsl' := spl_length hml
      have hval : (spl K 0 ((K.map (· ^^^ (0x5c : UInt8))).take k)).getD k 0 = K.getD k 0 := spl_at K _ k (by omega) (by simp)
      repeat (first | refine t_seq ?_ | refine t_region ?_ | refine s_nil ?_ | refine p_then ?_ | refine t_ret ?_ | refine p_then_ret ?_ | refine p_block_ret ?_ | refine t_block ?_ | refine t_exit ?_ | refine p_then_exit ?_ | refine p_block_exit ?_ | refine p_block ?_ | refine t_skip ?_)
      refine s_val (v_move rfl) rfl ?_
      refine s_val (v_assign rfl) rfl ?_
      repeat (first | refine t_seq ?_ | refine t_region ?_ | refine s_nil ?_ | refine p_then ?_ | refine t_ret ?_ | refine p_then_ret ?_ | refine p_block_ret ?_ | refine t_block ?_ | refine t_exit ?_ | refine p_then_exit ?_ | refine p_block_exit ?_ | refine p_block ?_ | refine t_skip ?_)
      refine s_val (v_load1 rfl (sc rfl) (by first | exact hP21.cell _ rfl | exact hX21.blk.cell _ rfl | exact hX21.opad.byte0 (by omega) | assumption)) rfl ?_
      first | refine s_val (v_nilCheck rfl) rfl ?_ | refine s_val (v_nilCheck_iface rfl) rfl ?_
      refine s_val (v_fieldAddr rfl (fo rfl)) rfl ?_
      refine s_val (v_load1 rfl (sc rfl) (by first | exact hP21.cell _ rfl | exact hX21.blk.cell _ rfl | exact hX21.opad.byte0 (by omega) | assumption)) rfl ?_
      refine s_val (v_move rfl) rfl ?_
      refine s_val (v_indexSlice rfl rfl (so rfl) (by omega)) rfl ?_
      refine s_val (v_load1 rfl (sc rfl) (by first | exact hP21.cell _ rfl | exact hX21.blk.cell _ rfl | exact hX21.opad.byte0 (by omega) | assumption)) rfl ?_
      refine s_val (v_xorB rfl (opb rfl)) rfl ?_
      refine s_val (v_indexSlice rfl rfl (so rfl) (by omega)) rfl ?_
      refine s_storeB rfl rfl (si rfl) hX21.opad (by omega) rfl (fun w22 hw22 hi22 => ?_)
      rw [hval, spl_set (b := K.getD k 0 ^^^ UInt8.ofNat 92) (by simp [hKl]) (map_get K 0x5c k (by omega))] at hi22
      repeat (first | refine t_seq ?_ | refine t_region ?_ | refine s_nil ?_ | refine p_then ?_ | refine t_ret ?_ | refine p_then_ret ?_ | refine p_block_ret ?_ | refine t_block ?_ | refine t_exit ?_ | refine p_then_exit ?_ | refine p_block_exit ?_ | refine p_block ?_ | refine t_skip ?_)
      refine s_val (v_addI rfl opc (by omega)) rfl ?_
      refine s_val (v_move rfl) rfl ?_
      repeat (first | refine t_seq ?_ | refine t_region ?_ | refine s_nil ?_ | refine p_then ?_ | refine t_ret ?_ | refine p_then_ret ?_ | refine p_block_ret ?_ | refine t_block ?_ | refine t_exit ?_ | refine p_then_exit ?_ | refine p_block_exit ?_ | refine p_block ?_ | refine t_skip ?_)
      exact p_round (k + 1) (Nat.sub_lt_sub_left hk' (Nat.lt_succ_self k)) ⟨rfl, rfl, rfl, rfl, trivial⟩ ⟨by omega, hz21.trans_new hw22 hnewo, hX21.setO hw22 hi22, hP21.only hw22 hPo⟩
    · have hk' : k = HK.block HK.sha := by have := of_decide_eq_false hb; omega
      subst hk'
      rw [List.take_of_length_le (by rw [List.length_map]; exact Nat.le_of_eq hKl), spl_all (by simp)] at hX21
      repeat (first | refine t_seq ?_ | refine t_region ?_ | refine s_nil ?_ | refine p_then ?_ | refine t_ret ?_ | refine p_then_ret ?_ | refine p_block_ret ?_ | refine t_block ?_ | refine t_exit ?_ | refine p_then_exit ?_ | refine p_block_exit ?_ | refine p_block ?_ | refine t_skip ?_)
      exact p_cut () ⟨rfl, rfl, trivial⟩ ⟨hz21, hX21, hP21⟩
  clear hX20 hP20 hz20
  rintro _ w23 ⟨hz23, hX23, hP23⟩
  have hp1 : K.map (· ^^^ 0x36) = padded HK.sha key 0x36 := by rw [hKe, padded_eq]
  have hp2 : K.map (· ^^^ 0x5c) = padded HK.sha key 0x5c := by rw [hKe, padded_eq]
  rw [hp1, hp2] at hX23
  have hpl := padded_length hH key 0x36
  repeat (first | refine t_seq ?_ | refine t_region ?_ | refine s_nil ?_ | refine p_then ?_ | refine t_ret ?_ | refine p_then_ret ?_ | refine p_block_ret ?_ | refine t_block ?_ | refine t_exit ?_ | refine p_then_exit ?_ | refine p_block_exit ?_ | refine p_block ?_ | refine t_skip ?_)
  refine t_drawO 10 (by kernel_rfl) rfl ?_
  refine fk_val (Only.refl _) (fun wF hR => v_load1 rfl (sc rfl) (by first | exact (hP23.only hR (by simp)).cell _ rfl | exact (hX23.blk.only hR (by simp)).cell _ rfl | assumption)) ?_
  first | refine fk_val (Only.refl _) (fun wF hR => v_nilCheck rfl) ?_ | refine fk_val (Only.refl _) (fun wF hR => v_nilCheck_iface rfl) ?_
  refine fk_val (Only.refl _) (fun wF hR => v_fieldAddr rfl (fo rfl)) ?_
  refine fk_val (Only.refl _) (fun wF hR => v_load1 rfl (sc rfl) (by first | exact (hP23.only hR (by simp)).cell _ rfl | exact (hX23.blk.only hR (by simp)).cell _ rfl | assumption)) ?_
  refine fk_val (Only.refl _) (fun wF hR => v_load1 rfl (sc rfl) (by first | exact (hP23.only hR (by simp)).cell _ rfl | exact (hX23.blk.only hR (by simp)).cell _ rfl | assumption)) ?_
  first | refine fk_val (Only.refl _) (fun wF hR => v_nilCheck rfl) ?_ | refine fk_val (Only.refl _) (fun wF hR => v_nilCheck_iface rfl) ?_
  refine fk_val (Only.refl _) (fun wF hR => v_fieldAddr rfl (fo rfl)) ?_
  refine fk_val (Only.refl _) (fun wF hR => v_load1 rfl (sc rfl) (by first | exact (hP23.only hR (by simp)).cell _ rfl | exact (hX23.blk.only hR (by simp)).cell _ rfl | assumption)) ?_
  first | refine fk_val (Only.refl _) (fun wF hR => v_nilCheck rfl) ?_ | refine fk_val (Only.refl _) (fun wF hR => v_nilCheck_iface rfl) ?_
  refine fk_val (Only.refl _) (fun wF hR => v_move rfl) ?_
  refine fk_nil (fun w24 hw24 => ?_)
  have hX24 := hX23.only hw24 (by simp)
  have hP24 := hP23.only hw24 (by simp)
  have hz24 := hz23.trans hw24
  have hcall := hWrite (c := HK.block HK.sha) hH hX24.inner hX24.ipad.rd0 (fun _ => Off.pt hX24.nots.2.2.1.2.2) (by omega) (by simp; omega) (hK.only hz24 (by simp)) h0I
  rw [hpl] at hcall
  refine s_op (o_invoke rfl rfl (HK.mew HK.sha _ _) (HK.enw HK.sha) hcall) rfl rfl ?_
  rintro _ w25 hw25 ⟨rfl, hI25⟩
  rw [List.nil_append] at hI25
  have hP25 := hP24.only hw25 (fun hk => hPne (hI0 _ hk))
  repeat (first | refine t_seq ?_ | refine t_region ?_ | refine s_nil ?_ | refine p_then ?_ | refine t_ret ?_ | refine p_then_ret ?_ | refine p_block_ret ?_ | refine t_block ?_ | refine t_exit ?_ | refine p_then_exit ?_ | refine p_block_exit ?_ | refine p_block ?_ | refine t_skip ?_)
  refine s_val (v_load1 rfl (sc rfl) (by first | exact hP25.cell _ rfl | assumption)) rfl ?_
  refine s_val (v_assign rfl) rfl ?_
  repeat (first | refine t_seq ?_ | refine t_region ?_ | refine s_nil ?_ | refine p_then ?_ | refine t_ret ?_ | refine p_then_ret ?_ | refine p_block_ret ?_ | refine t_block ?_ | refine t_exit ?_ | refine p_then_exit ?_ | refine p_block_exit ?_ | refine p_block ?_ | refine t_skip ?_)
  exact ret1 rfl rfl ⟨_, rfl, hz24.trans_new hw25 (fun k hk => .inr (hbase k (hI0 k hk)).1), q, rfl, hX24.done hw25 hI25, fun k hk => by rw [hq0]; exact (hbase k hk).1⟩
end Go.Proofs.YtnaefgnjdmmmcaaGreatDoor
/- hmac.New in the program, at one of its instances. -/
namespace Go.Proofs.YtnaefgnjdmmmcaaGreatDoor
open Go.RowKit
attribute [local irreducible] ValAt OpAt RunX Tr Post FlowK

set_option maxHeartbeats 1000000 in
/-- hmac.New -/
theorem c94 (sz bk : Nat) (hH : (HK.own sz bk).ok) (h : Value) (A : Option Addr) (c : Nat) (key : Bytes) (w : World) (hm : Mk (HK.own sz bk) h) (hp : Rd w A key) (hc : key.length ≤ c) (hn : key.length ≤ 60000) (hK : KT w) (hw0 : 0 < w.heap.size) :
    Calls Tryz.prog 94 #[h, .slice A key.length c] w (Ret [] w fun v w' => ∃ q : HP, v = pt q.m 0 ∧ HmacAt (HK.own sz bk) w' q key [] false key.length ∧ ∀ k ∈ q.fp, w.heap.size ≤ k) := by
  have hbl := HK.block_le hH
  have hsl := HK.size_le hH
  refine enter (Γ := [(0, .ex h), (1, .ex (.slice A key.length c))]) Tryz.func94 rfl rfl rfl ⟨⟨_, rfl, rfl⟩, ⟨_, rfl, rfl⟩, trivial⟩ ?_
  repeat (first | refine t_seq ?_ | refine t_region ?_ | refine s_nil ?_ | refine p_then ?_ | refine t_ret ?_ | refine p_then_ret ?_ | refine p_block_ret ?_ | refine t_block ?_ | refine t_exit ?_ | refine p_then_exit ?_ | refine p_block_exit ?_ | refine p_block ?_ | refine t_skip ?_)
  refine s_val (v_assign rfl) rfl ?_
  repeat (first | refine t_seq ?_ | refine t_region ?_ | refine s_nil ?_ | refine p_then ?_ | refine t_ret ?_ | refine p_then_ret ?_ | refine p_block_ret ?_ | refine t_block ?_ | refine t_exit ?_ | refine p_then_exit ?_ | refine p_block_exit ?_ | refine p_block ?_ | refine t_skip ?_)
  refine s_val (v_move rfl) rfl ?_
  refine s_val (v_len rfl (so rfl) rfl) rfl ?_
  refine s_val (v_build rfl (bu120 _)) rfl ?_
  refine s_op (o_box rfl) rfl rfl ?_
  rintro _ w1 hw1 ⟨rfl, hB1⟩
  refine s_op (o_alloc zc110) rfl rfl ?_
  rintro _ w2 hw2 ⟨rfl, hB2⟩
  refine s_store rfl rfl (si rfl) hB2 (by simp) rfl rfl (fun w3 hw3 hB3 => ?_)
  have hs1 := hB1.lt
  have hs2 := hB2.lt
  have hs3 := hw3.size
  have hM3 := (hB1.only hw2 (by simp)).only hw3 (by simp; omega)
  have hP3 : Blk w3 w1.heap.size 110 #[pt w.heap.size 0] := hB3
  have hz3 : Only [] w w3 := (hw1.trans hw2).trans_new hw3 (by simp; omega)
  have hg1 := hw1.size
  repeat (first | refine t_seq ?_ | refine t_region ?_ | refine s_nil ?_ | refine p_then ?_ | refine t_ret ?_ | refine p_then_ret ?_ | refine p_block_ret ?_ | refine t_block ?_ | refine t_exit ?_ | refine p_then_exit ?_ | refine p_block_exit ?_ | refine p_block ?_ | refine t_skip ?_)
  refine t_drawO 6 (by kernel_rfl) rfl ?_
  refine fk_val (Only.refl _) (fun wF hR => v_load1 rfl (sc rfl) (by first | exact (hP3.only hR (by simp)).cell _ rfl | assumption)) ?_
  refine fk_val (Only.refl _) (fun wF hR => v_move rfl) ?_
  refine fk_op st_ptr (fun wF hR => o_mk (H := (HK.own sz bk)) (b := w3.heap.size) hm rfl hR.size) ?_
  refine fk_op st_if (fun wF hR => o_iface_ab Only.refl' rfl (co rfl)) ?_
  first | refine fk_val (Only.refl _) (fun wF hR => v_nilCheck rfl) ?_ | refine fk_val (Only.refl _) (fun wF hR => v_nilCheck_iface rfl) ?_
  refine fk_val (Only.refl _) (fun wF hR => v_fieldAddr rfl (fo rfl)) ?_
  refine fk_nil (fun w4 hw4 => ?_)
  refine x_open 17 rfl (fun v hv => ?_)
  obtain ⟨_, rfl, gO, rfl, fO, hO, hfO⟩ := hv
  have hltO5 : ∀ k ∈ fO, k < w4.heap.size := hO.lt
  have hM4 := hM3.only hw4 (by simp)
  have hP4 := hP3.only hw4 (by simp)
  have hs4 := hw4.size
  refine x_weak [(17, .ex (HK.val (HK.own sz bk) gO)), (19, .ex (pt w.heap.size (0 + 2))), (0, .ex h), (1, .ex (.slice A key.length c)), (5, .ex (pt w1.heap.size 0))] ⟨rfl, rfl, rfl, rfl, rfl, trivial⟩ ?_
  refine s_store rfl rfl (si rfl) hM4 (by simp [Value.cells]) rfl rfl (fun w5 hw5 hM5 => ?_)
  have hP5 := hP4.only hw5 (by simp; omega)
  have hO5 := hO.only hw5 (fun i hi => by have := hfO i hi; simp; omega)
  have hs5 := hw5.size
  have hz5 : Only [] w w5 := (hz3.trans hw4).trans_new hw5 (by simp)
  repeat (first | refine t_seq ?_ | refine t_region ?_ | refine s_nil ?_ | refine p_then ?_ | refine t_ret ?_ | refine p_then_ret ?_ | refine p_block_ret ?_ | refine t_block ?_ | refine t_exit ?_ | refine p_then_exit ?_ | refine p_block_exit ?_ | refine p_block ?_ | refine t_skip ?_)
  refine t_drawO 6 (by kernel_rfl) rfl ?_
  refine fk_val (Only.refl _) (fun wF hR => v_load1 rfl (sc rfl) (by first | exact (hP5.only hR (by simp)).cell _ rfl | assumption)) ?_
  refine fk_val (Only.refl _) (fun wF hR => v_move rfl) ?_
  refine fk_op st_ptr (fun wF hR => o_mk (H := (HK.own sz bk)) (b := w5.heap.size) hm rfl hR.size) ?_
  refine fk_op st_if (fun wF hR => o_iface_ab Only.refl' rfl (co rfl)) ?_
  first | refine fk_val (Only.refl _) (fun wF hR => v_nilCheck rfl) ?_ | refine fk_val (Only.refl _) (fun wF hR => v_nilCheck_iface rfl) ?_
  refine fk_val (Only.refl _) (fun wF hR => v_fieldAddr rfl (fo rfl)) ?_
  refine fk_nil (fun w6 hw6 => ?_)
  refine x_open 23 rfl (fun v hv => ?_)
  obtain ⟨_, rfl, gI, rfl, fI, hI, hfI⟩ := hv
  have hM6 := hM5.only hw6 (by simp)
  have hP6 := hP5.only hw6 (by simp)
  have hO6 := hO5.only hw6 (by simp)
  have hs6 := hw6.size
  refine x_weak [(23, .ex (HK.val (HK.own sz bk) gI)), (25, .ex (pt w.heap.size (0 + 3))), (0, .ex h), (1, .ex (.slice A key.length c)), (5, .ex (pt w1.heap.size 0))] ⟨rfl, rfl, rfl, rfl, rfl, trivial⟩ ?_
  refine s_store rfl rfl (si rfl) hM6 (by simp [Value.cells]) rfl rfl (fun w7 hw7 hM7 => ?_)
  have hP7 := hP6.only hw7 (by simp; omega)
  have hO7 := hO6.only hw7 (fun i hi => by have := hfO i hi; simp; omega)
  have hI7 := hI.only hw7 (fun i hi => by have := hfI i hi; simp; omega)
  have hs7 := hw7.size
  have hz7 : Only [] w w7 := (hz5.trans hw6).trans_new hw7 (by simp)
  have hM7' : Blk w7 w.heap.size 120 #[.slice none 0 0, .slice none 0 0, (HK.own sz bk).val gO, (HK.own sz bk).val gI, .bool false, .bool false, I key.length] := hM7
  repeat (first | refine t_seq ?_ | refine t_region ?_ | refine s_nil ?_ | refine p_then ?_ | refine t_ret ?_ | refine p_then_ret ?_ | refine p_block_ret ?_ | refine t_block ?_ | refine t_exit ?_ | refine p_then_exit ?_ | refine p_block_exit ?_ | refine p_block ?_ | refine t_skip ?_)
  refine s_op (o_alloc zc4) rfl rfl ?_
  rintro _ w8 hw8 ⟨rfl, hB8⟩
  refine s_store (v := .bool true) rfl rfl (si rfl) hB8 (by simp) rfl rfl (fun w9 hw9 hB9 => ?_)
  have hs8 := hB8.lt
  have hs9 := hw9.size
  have hM9 := (hM7'.only hw8 (by simp)).only hw9 (by simp; omega)
  have hP9 := (hP7.only hw8 (by simp)).only hw9 (by simp; omega)
  have hltO := hO7.lt
  have hltI := hI7.lt
  have hO9 := (hO7.only hw8 (by simp)).only hw9 (fun i hi => by have := hltO i hi; simp; omega)
  have hI9 := (hI7.only hw8 (by simp)).only hw9 (fun i hi => by have := hltI i hi; simp; omega)
  have hB9' : Blk w9 w7.heap.size 4 #[.bool true] := hB9
  have hne : gO ≠ gI := by
    have e1 := hfI gI hI.mem
    have e2 := hltO5 gO hO.mem
    omega
  repeat (first | refine t_seq ?_ | refine t_region ?_ | refine s_nil ?_ | refine p_then ?_ | refine t_ret ?_ | refine p_then_ret ?_ | refine p_block_ret ?_ | refine t_block ?_ | refine t_exit ?_ | refine p_then_exit ?_ | refine p_block_exit ?_ | refine p_block ?_ | refine t_skip ?_)
  refine s_val (v_makeFunc rfl rfl) rfl ?_
  refine s_op (o_callv (f := 106) (first := #[]) (cap := #[pt w1.heap.size 0, pt w7.heap.size 0]) (xs := []) rfl rfl (en rfl) (c106 w1.heap.size w7.heap.size w.heap.size (HK.own sz bk).ty (pt gO 0) (pt gI 0) w9 (hP9.cell _ rfl) (hM9.cell _ rfl) (hM9.cell _ rfl) (HashAt.two (H := (HK.own sz bk)) hO9 hI9 hne))) rfl rfl ?_
  rintro _ w10 hw10 _
  have hM10 := hM9.only hw10 (by simp)
  have hP10 := hP9.only hw10 (by simp)
  have hO10 := hO9.only hw10 (by simp)
  have hI10 := hI9.only hw10 (by simp)
  have hB10 := hB9'.only hw10 (by simp)
  have hs10 := hw10.size
  repeat (first | refine t_seq ?_ | refine t_region ?_ | refine s_nil ?_ | refine p_then ?_ | refine t_ret ?_ | refine p_then_ret ?_ | refine p_block_ret ?_ | refine t_block ?_ | refine t_exit ?_ | refine p_then_exit ?_ | refine p_block_exit ?_ | refine p_block ?_ | refine t_skip ?_)
  refine s_val (v_load1 rfl (sc rfl) (by first | exact hB10.cell _ rfl | assumption)) rfl ?_
  refine s_val (v_bool_not rfl) rfl ?_
  repeat (first | refine t_seq ?_ | refine t_region ?_ | refine s_nil ?_ | refine p_then ?_ | refine t_ret ?_ | refine p_then_ret ?_ | refine p_block_ret ?_ | refine t_block ?_ | refine t_exit ?_ | refine p_then_exit ?_ | refine p_block_exit ?_ | refine p_block ?_ | refine t_skip ?_)
  refine t_false rfl ?_
  repeat (first | refine t_seq ?_ | refine t_region ?_ | refine s_nil ?_ | refine p_then ?_ | refine t_ret ?_ | refine p_then_ret ?_ | refine p_block_ret ?_ | refine t_block ?_ | refine t_exit ?_ | refine p_then_exit ?_ | refine p_block_exit ?_ | refine p_block ?_ | refine t_skip ?_)
  refine s_val (v_load1 rfl (sc rfl) (by first | exact hP10.cell _ rfl | exact hM10.cell _ rfl | assumption)) rfl ?_
  first | refine s_val (v_nilCheck rfl) rfl ?_ | refine s_val (v_nilCheck_iface rfl) rfl ?_
  refine s_val (v_fieldAddr rfl (fo rfl)) rfl ?_
  refine s_val (v_load1 rfl (sc rfl) (by first | exact hP10.cell _ rfl | exact hM10.cell _ rfl | assumption)) rfl ?_
  refine s_op (o_invoke rfl rfl (HK.meb (HK.own sz bk) _ _) (HK.enb (HK.own sz bk)) (hBlock hI10)) rfl rfl ?_
  rintro _ w11 hw11 rfl
  refine s_val (v_assign rfl) rfl ?_
  have hM11 := hM10.only hw11 (by simp)
  have hP11 := hP10.only hw11 (by simp)
  have hO11 := hO10.only hw11 (by simp)
  have hI11 := hI10.only hw11 (by simp)
  have hs11 := hw11.size
  have hz11 : Only [] w w11 := (((hz7.trans hw8).trans_new hw9 (by simp; omega)).trans hw10).trans hw11
  repeat (first | refine t_seq ?_ | refine t_region ?_ | refine s_nil ?_ | refine p_then ?_ | refine t_ret ?_ | refine p_then_ret ?_ | refine p_block_ret ?_ | refine t_block ?_ | refine t_exit ?_ | refine p_then_exit ?_ | refine p_block_exit ?_ | refine p_block ?_ | refine t_skip ?_)
  refine t_drawO 5 (by kernel_rfl) rfl ?_
  refine fk_val (Only.refl _) (fun wF hR => v_load1 rfl (sc rfl) (by first | exact (hP11.only hR (by simp)).cell _ rfl | assumption)) ?_
  refine fk_val (Only.refl _) (fun wF hR => v_move rfl) ?_
  refine fk_op st_mk (fun wF hR => o_make_ab (b := w11.heap.size) rt24 hR.size rfl rfl (by omega) (by omega)) ?_
  first | refine fk_val (Only.refl _) (fun wF hR => v_nilCheck rfl) ?_ | refine fk_val (Only.refl _) (fun wF hR => v_nilCheck_iface rfl) ?_
  refine fk_val (Only.refl _) (fun wF hR => v_fieldAddr rfl (fo rfl)) ?_
  refine fk_nil (fun w12 hw12 => ?_)
  refine x_open 38 rfl (fun v hv => ?_)
  obtain ⟨i, hi, rfl, hi12⟩ := hv
  have hi12' : Blk w12 i 5 ((zeros (HK.own sz bk).block).map B).toArray := by simpa [zeros] using hi12
  have hM12 := hM11.only hw12 (by simp)
  have hP12 := hP11.only hw12 (by simp)
  have hs12 := hw12.size
  have hilt := hi12.lt
  refine x_weak [(38, .ex (.slice (some ⟨i, 0, none⟩) (HK.block (HK.own sz bk)) (HK.block (HK.own sz bk)))), (40, .ex (pt w.heap.size (0 + 1))), (0, .ex h), (1, .ex (.slice A key.length c)), (5, .ex (pt w1.heap.size 0)), (7, .ex (I (HK.block (HK.own sz bk))))] ⟨rfl, rfl, rfl, rfl, rfl, rfl, trivial⟩ ?_
  refine s_store rfl rfl (si rfl) hM12 (by simp) rfl rfl (fun w13 hw13 hM13 => ?_)
  have hP13 := hP12.only hw13 (by simp; omega)
  have hs13 := hw13.size
  have hi13 := hi12'.only hw13 (by simp; omega)
  have hz13 : Only [] w w13 := (hz11.trans hw12).trans_new hw13 (by simp)
  repeat (first | refine t_seq ?_ | refine t_region ?_ | refine s_nil ?_ | refine p_then ?_ | refine t_ret ?_ | refine p_then_ret ?_ | refine p_block_ret ?_ | refine t_block ?_ | refine t_exit ?_ | refine p_then_exit ?_ | refine p_block_exit ?_ | refine p_block ?_ | refine t_skip ?_)
  refine t_drawO 5 (by kernel_rfl) rfl ?_
  refine fk_val (Only.refl _) (fun wF hR => v_load1 rfl (sc rfl) (by first | exact (hP13.only hR (by simp)).cell _ rfl | assumption)) ?_
  refine fk_val (Only.refl _) (fun wF hR => v_move rfl) ?_
  refine fk_op st_mk (fun wF hR => o_make_ab (b := w13.heap.size) rt24 hR.size rfl rfl (by omega) (by omega)) ?_
  first | refine fk_val (Only.refl _) (fun wF hR => v_nilCheck rfl) ?_ | refine fk_val (Only.refl _) (fun wF hR => v_nilCheck_iface rfl) ?_
  refine fk_val (Only.refl _) (fun wF hR => v_fieldAddr rfl (fo rfl)) ?_
  refine fk_nil (fun w14 hw14 => ?_)
  refine x_open 43 rfl (fun v hv => ?_)
  obtain ⟨o, ho14, rfl, ho14b⟩ := hv
  have ho14' : Blk w14 o 5 ((zeros (HK.own sz bk).block).map B).toArray := by simpa [zeros] using ho14b
  have hM14 := hM13.only hw14 (by simp)
  have hP14 := hP13.only hw14 (by simp)
  have hi14 := hi13.only hw14 (by simp)
  have holt := ho14b.lt
  have hs14 := hw14.size
  refine x_weak [(43, .ex (.slice (some ⟨o, 0, none⟩) (HK.block (HK.own sz bk)) (HK.block (HK.own sz bk)))), (45, .ex (pt w.heap.size (0 + 0))), (0, .ex h), (1, .ex (.slice A key.length c)), (5, .ex (pt w1.heap.size 0)), (7, .ex (I (HK.block (HK.own sz bk))))] ⟨rfl, rfl, rfl, rfl, rfl, rfl, trivial⟩ ?_
  refine s_store rfl rfl (si rfl) hM14 (by simp) rfl rfl (fun w15 hw15 hM15 => ?_)
  have hP15 := hP14.only hw15 (by simp; omega)
  have hi15 := hi14.only hw15 (by simp; omega)
  have ho15 := ho14'.only hw15 (by simp; omega)
  have hs15 := hw15.size
  have hz15 : Only [] w w15 := (hz13.trans hw14).trans_new hw15 (by simp)
  have hlt11O := hO11.lt
  have hlt11I := hI11.lt
  have hO15 := (((hO11.only hw12 (by simp)).only hw13 (fun i hi => by have := hfO i hi; simp; omega)).only hw14 (by simp)).only hw15 (fun i hi => by have := hfO i hi; simp; omega)
  have hI15 := (((hI11.only hw12 (by simp)).only hw13 (fun i hi => by have := hfI i hi; simp; omega)).only hw14 (by simp)).only hw15 (fun i hi => by have := hfI i hi; simp; omega)
  obtain ⟨q, hq⟩ : ∃ q : HP, q = ⟨w.heap.size, o, i, gO, gI, fO, fI⟩ := ⟨_, rfl⟩
  have hbase : ∀ k ∈ q.fp, w.heap.size ≤ k ∧ k ≠ w1.heap.size := by
    subst hq
    intro k hk
    simp only [HP.fp, List.mem_cons, List.mem_append] at hk
    rcases hk with rfl | rfl | rfl | hk | hk
    · omega
    · omega
    · omega
    · have := hfO k hk; omega
    · have := hfI k hk; omega
  have hX15 : HmPre (HK.own sz bk) w15 q key.length (zeros (HK.own sz bk).block) (zeros (HK.own sz bk).block) [] := by
    subst hq
    refine ⟨hM15, ho15, hi15, ⟨_, hO15⟩, hI15, ?_⟩
    simp only [HP.fp, List.nodup_cons, List.mem_cons, List.mem_append, List.nodup_append, not_or]
    have aO : ∀ k ∈ fO, w3.heap.size ≤ k ∧ k < w5.heap.size := fun k hk => ⟨hfO k hk, Nat.lt_of_lt_of_le (hltO5 k hk) hs5⟩
    have aI : ∀ k ∈ fI, w5.heap.size ≤ k ∧ k < w11.heap.size := fun k hk => ⟨hfI k hk, hlt11I k hk⟩
    refine ⟨⟨by omega, by omega, fun hk => by have := aO _ hk; omega, fun hk => by have := aI _ hk; omega⟩, ⟨by omega, fun hk => by have := aO _ hk; omega, fun hk => by have := aI _ hk; omega⟩, ⟨fun hk => by have := aO _ hk; omega, fun hk => by have := aI _ hk; omega⟩, hO.nodup, hI.nodup, fun a ha b hb => by have := aO _ ha; have := aI _ hb; omega⟩
  have hq0 : q.m = w.heap.size := by rw [hq]
  have hqo : q.o = o := by rw [hq]
  have hqi : q.i = i := by rw [hq]
  rw [← hq0]
  have hPne : w1.heap.size ∉ q.fp := fun hk => (hbase _ hk).2 rfl
  have hPq : Blk w15 w1.heap.size 110 #[pt q.m 0] := by rw [hq0]; exact hP15
  have hm0 : q.m ∈ q.fp := by simp [HP.fp]
  have ho0 : q.o ∈ q.fp := by simp [HP.fp]
  have hi0 : q.i ∈ q.fp := by simp [HP.fp]
  have hO0 : ∀ k ∈ q.fO, k ∈ q.fp := fun k hk => by simp [HP.fp, hk]
  have hI0 : ∀ k ∈ q.fI, k ∈ q.fp := fun k hk => by simp [HP.fp, hk]
  have h00 : ∀ k ∈ q.fp, k ≠ 0 := fun k hk => by have := (hbase k hk).1; omega
  have h0O : 0 ∉ q.fO := fun hk => h00 0 (hO0 0 hk) rfl
  have h0I : 0 ∉ q.fI := fun hk => h00 0 (hI0 0 hk) rfl
  have hOq : HashAt (HK.own sz bk) w15 q.gO q.fO [] := by rw [hq]; exact hO15
  have hoffk : key ≠ [] → Off A q.fp := fun hne => by
    obtain ⟨gA, iA, rfl, hgA, _⟩ := hp hne
    exact Off.pt (fun hk => by have := (hbase _ hk).1; omega)
  have hnewO : ∀ k ∈ q.fO, k ∈ ([] : List Nat) ∨ w.heap.size ≤ k := fun k hk => .inr (hbase k (hO0 k hk)).1
  have hsk := shortKey_length hH key
  refine s_nil (p_then ?_)
  refine t_cut (fun s : KS => [(1, .ex (.slice s.A s.k.length s.c)), (5, .ex (pt w1.heap.size 0)), (7, .ex (I (HK.block (HK.own sz bk))))])
    (fun s w' => Only [] w w' ∧ HmPre (HK.own sz bk) w' q key.length (zeros (HK.block (HK.own sz bk))) (zeros (HK.block (HK.own sz bk))) [] ∧ Blk w' w1.heap.size 110 #[pt q.m 0] ∧ s.k = shortKey (HK.own sz bk) key ∧ Rd w' s.A s.k ∧ (s.k ≠ [] → Off s.A q.fp) ∧ s.k.length ≤ s.c) ?_ ?_
  · repeat (first | refine t_seq ?_ | refine t_region ?_ | refine s_nil ?_ | refine p_then ?_ | refine t_ret ?_ | refine p_then_ret ?_ | refine p_block_ret ?_ | refine t_block ?_ | refine t_exit ?_ | refine p_then_exit ?_ | refine p_block_exit ?_ | refine p_block ?_ | refine t_skip ?_)
    refine s_val (v_move rfl) rfl ?_
    refine s_val (v_len rfl (so rfl) rfl) rfl ?_
    refine s_val (v_move rfl) rfl ?_
    refine s_val (v_gtI rfl rfl) rfl ?_
    repeat (first | refine t_seq ?_ | refine t_region ?_ | refine s_nil ?_ | refine p_then ?_ | refine t_ret ?_ | refine p_then_ret ?_ | refine p_block_ret ?_ | refine t_block ?_ | refine t_exit ?_ | refine p_then_exit ?_ | refine p_block_exit ?_ | refine p_block ?_ | refine t_skip ?_)
    refine t_if rfl (fun hb => ?_) (fun hb => ?_)
    · have hbk : HK.block (HK.own sz bk) < key.length := by have := of_decide_eq_true hb; omega
      clear hb
      repeat (first | refine t_seq ?_ | refine t_region ?_ | refine s_nil ?_ | refine p_then ?_ | refine t_ret ?_ | refine p_then_ret ?_ | refine p_block_ret ?_ | refine t_block ?_ | refine t_exit ?_ | refine p_then_exit ?_ | refine p_block_exit ?_ | refine p_block ?_ | refine t_skip ?_)
      refine s_val (v_load1 rfl (sc rfl) (by first | exact hPq.cell _ rfl | exact hX15.blk.cell _ rfl | assumption)) rfl ?_
      first | refine s_val (v_nilCheck rfl) rfl ?_ | refine s_val (v_nilCheck_iface rfl) rfl ?_
      refine s_val (v_fieldAddr rfl (fo rfl)) rfl ?_
      refine s_val (v_load1 rfl (sc rfl) (by first | exact hPq.cell _ rfl | exact hX15.blk.cell _ rfl | assumption)) rfl ?_
      refine s_val (v_move rfl) rfl ?_
      refine s_op (o_invoke rfl rfl (HK.mew (HK.own sz bk) _ _) (HK.enw (HK.own sz bk)) (hWrite hH hOq (hp.pure hz15) (fun hne => fun a ha hm => hoffk hne a ha (hO0 _ hm)) hc (by simp; omega) (hK.only hz15 (by simp)) h0O)) rfl rfl ?_
      rintro _ w16 hw16 ⟨rfl, hO16⟩
      have hX16 := hX15.setOuter hw16 hO16
      have hP16 := hPq.only hw16 (fun hk => hPne (hO0 _ hk))
      have hz16 : Only [] w w16 := hz15.trans_new hw16 hnewO
      have hs16 := hw16.size
      repeat (first | refine t_seq ?_ | refine t_region ?_ | refine s_nil ?_ | refine p_then ?_ | refine t_ret ?_ | refine p_then_ret ?_ | refine p_block_ret ?_ | refine t_block ?_ | refine t_exit ?_ | refine p_then_exit ?_ | refine p_block_exit ?_ | refine p_block ?_ | refine t_skip ?_)
      refine s_val (v_load1 rfl (sc rfl) (by first | exact hP16.cell _ rfl | exact hX16.blk.cell _ rfl | assumption)) rfl ?_
      first | refine s_val (v_nilCheck rfl) rfl ?_ | refine s_val (v_nilCheck_iface rfl) rfl ?_
      refine s_val (v_fieldAddr rfl (fo rfl)) rfl ?_
      refine s_val (v_load1 rfl (sc rfl) (by first | exact hP16.cell _ rfl | exact hX16.blk.cell _ rfl | assumption)) rfl ?_
      refine s_op (o_invoke rfl rfl (HK.mes (HK.own sz bk) _ _) (HK.ens (HK.own sz bk)) (hSum hH hO16 (Own.nil w16) (Nots.nil _) (by simp; omega) (by simp) (hK.only hz16 (by simp)))) rfl rfl ?_
      rintro v17 w17 hw17 ⟨hv17, hk17⟩
      refine s_val (v_assign rfl) rfl ?_
      have hw17' : Only [] w16 w17 := hw17
      obtain ⟨A', c', rfl, hc', hrd', hoff'⟩ := hv17.slice
      have hn17 : Nots (.slice A' ([] ++ HK.hash (HK.own sz bk) ([] ++ key)).length c') q.fp := fun k hk hm => by
        rcases hk17 k hk with e | e
        · cases e
        · have := hX16.lt k hm; omega
      repeat (first | refine t_seq ?_ | refine t_region ?_ | refine s_nil ?_ | refine p_then ?_ | refine t_ret ?_ | refine p_then_ret ?_ | refine p_block_ret ?_ | refine t_block ?_ | refine t_exit ?_ | refine p_then_exit ?_ | refine p_block_exit ?_ | refine p_block ?_ | refine t_skip ?_)
      exact p_cut ⟨A', c', [] ++ HK.hash (HK.own sz bk) ([] ++ key)⟩ ⟨rfl, rfl, rfl, trivial⟩ ⟨hz16.trans hw17', hX16.only hw17' (by simp), hP16.only hw17' (by simp), by simp [shortKey, hbk], hrd', fun _ => hoff' _ hn17, hc'⟩
    · have hbk : ¬ HK.block (HK.own sz bk) < key.length := by have := of_decide_eq_false hb; omega
      clear hb
      repeat (first | refine t_seq ?_ | refine t_region ?_ | refine s_nil ?_ | refine p_then ?_ | refine t_ret ?_ | refine p_then_ret ?_ | refine p_block_ret ?_ | refine t_block ?_ | refine t_exit ?_ | refine p_then_exit ?_ | refine p_block_exit ?_ | refine p_block ?_ | refine t_skip ?_)
      exact p_cut ⟨A, c, key⟩ ⟨rfl, rfl, rfl, trivial⟩ ⟨hz15, hX15, hPq, by simp [shortKey, hbk], hp.pure hz15, hoffk, hc⟩
  clear hX15 hPq hOq hq hp hc
  rintro ⟨A1, c1, k1⟩ w18 ⟨hz18, hX18, hP18, hk1, hrd, hoff, hc1⟩
  simp only at hk1 hrd hoff hc1
  subst hk1
  refine t_weak [(1, .ex (.slice A1 (shortKey (HK.own sz bk) key).length c1)), (5, .ex (pt w1.heap.size 0)), (7, .ex (I (HK.block (HK.own sz bk))))] ⟨rfl, rfl, rfl, trivial⟩ ?_
  have hnewi : ∀ k ∈ [q.i], k ∈ ([] : List Nat) ∨ w.heap.size ≤ k := fun k hk => .inr (by simp at hk; rw [hk]; exact (hbase _ hi0).1)
  have hnewo : ∀ k ∈ [q.o], k ∈ ([] : List Nat) ∨ w.heap.size ≤ k := fun k hk => .inr (by simp at hk; rw [hk]; exact (hbase _ ho0).1)
  have hPi : w1.heap.size ∉ [q.i] := by simp; exact fun e => hPne (e ▸ hi0)
  have hPo : w1.heap.size ∉ [q.o] := by simp; exact fun e => hPne (e ▸ ho0)
  obtain ⟨K, hKe⟩ : ∃ K, K = shortKey (HK.own sz bk) key ++ zeros (HK.block (HK.own sz bk) - (shortKey (HK.own sz bk) key).length) := ⟨_, rfl⟩
  have hKl : K.length = HK.block (HK.own sz bk) := by rw [hKe]; simp [zeros]; omega
  repeat (first | refine t_seq ?_ | refine t_region ?_ | refine s_nil ?_ | refine p_then ?_ | refine t_ret ?_ | refine p_then_ret ?_ | refine p_block_ret ?_ | refine t_block ?_ | refine t_exit ?_ | refine p_then_exit ?_ | refine p_block_exit ?_ | refine p_block ?_ | refine t_skip ?_)
  refine s_val (v_load1 rfl (sc rfl) (by first | exact hP18.cell _ rfl | exact hX18.blk.cell _ rfl | assumption)) rfl ?_
  first | refine s_val (v_nilCheck rfl) rfl ?_ | refine s_val (v_nilCheck_iface rfl) rfl ?_
  refine s_val (v_fieldAddr rfl (fo rfl)) rfl ?_
  refine s_val (v_load1 rfl (sc rfl) (by first | exact hP18.cell _ rfl | exact hX18.blk.cell _ rfl | assumption)) rfl ?_
  refine s_val (v_move rfl) rfl ?_
  refine s_op (o_copy (i := 0) rt24 rfl rfl rfl hX18.ipad hrd (fun _ => rfl) (by simp [zeros]; omega)) rfl rfl ?_
  rintro _ w19 hw19 ⟨_, hi19⟩
  rw [splC_bytes, spl_zeros _ _ hsk, ← hKe] at hi19
  have hX19 := hX18.setI hw19 hi19
  have hP19 := hP18.only hw19 hPi
  have hrd19 := hrd.only hw19 (fun hne a ha hm => by simp at hm; exact hoff hne a ha (by rw [hm]; exact hi0))
  have hz19 := hz18.trans_new hw19 hnewi
  repeat (first | refine t_seq ?_ | refine t_region ?_ | refine s_nil ?_ | refine p_then ?_ | refine t_ret ?_ | refine p_then_ret ?_ | refine p_block_ret ?_ | refine t_block ?_ | refine t_exit ?_ | refine p_then_exit ?_ | refine p_block_exit ?_ | refine p_block ?_ | refine t_skip ?_)
  refine s_val (v_load1 rfl (sc rfl) (by first | exact hP19.cell _ rfl | exact hX19.blk.cell _ rfl | assumption)) rfl ?_
  first | refine s_val (v_nilCheck rfl) rfl ?_ | refine s_val (v_nilCheck_iface rfl) rfl ?_
  refine s_val (v_fieldAddr rfl (fo rfl)) rfl ?_
  refine s_val (v_load1 rfl (sc rfl) (by first | exact hP19.cell _ rfl | exact hX19.blk.cell _ rfl | assumption)) rfl ?_
  refine s_val (v_move rfl) rfl ?_
  refine s_op (o_copy (i := 0) rt24 rfl rfl rfl hX19.opad hrd19 (fun _ => rfl) (by simp [zeros]; omega)) rfl rfl ?_
  rintro _ w20 hw20 ⟨_, ho20⟩
  rw [splC_bytes, spl_zeros _ _ hsk, ← hKe] at ho20
  have hX20 := hX19.setO hw20 ho20
  have hP20 := hP19.only hw20 hPo
  have hz20 := hz19.trans_new hw20 hnewo
  clear hX18 hX19 hP18 hP19
  refine s_nil (p_then ?_)
  refine t_cut (fun _ : Unit => [(5, .ex (pt w1.heap.size 0)), (7, .ex (I (HK.block (HK.own sz bk))))]) (fun _ w' => Only [] w w' ∧ HmPre (HK.own sz bk) w' q key.length K (K.map (· ^^^ 0x36)) [] ∧ Blk w' w1.heap.size 110 #[pt q.m 0]) ?_ ?_
  · repeat (first | refine t_seq ?_ | refine t_region ?_ | refine s_nil ?_ | refine p_then ?_ | refine t_ret ?_ | refine p_then_ret ?_ | refine p_block_ret ?_ | refine t_block ?_ | refine t_exit ?_ | refine p_then_exit ?_ | refine p_block_exit ?_ | refine p_block ?_ | refine t_skip ?_)
    refine s_val (v_load1 rfl (sc rfl) (by first | exact hP20.cell _ rfl | exact hX20.blk.cell _ rfl | assumption)) rfl ?_
    first | refine s_val (v_nilCheck rfl) rfl ?_ | refine s_val (v_nilCheck_iface rfl) rfl ?_
    refine s_val (v_fieldAddr rfl (fo rfl)) rfl ?_
    refine s_val (v_load1 rfl (sc rfl) (by first | exact hP20.cell _ rfl | exact hX20.blk.cell _ rfl | assumption)) rfl ?_
    refine s_val (v_len rfl (so rfl) rfl) rfl ?_
    refine s_val (v_move rfl) rfl ?_
    repeat (first | refine t_seq ?_ | refine t_region ?_ | refine s_nil ?_ | refine p_then ?_ | refine t_ret ?_ | refine p_then_ret ?_ | refine p_block_ret ?_ | refine t_block ?_ | refine t_exit ?_ | refine p_then_exit ?_ | refine p_block_exit ?_ | refine p_block ?_ | refine t_skip ?_)
    refine t_loop (fun k : Nat => [(78, .ex (I k)), (77, .ex (I (HK.block (HK.own sz bk)))), (5, .ex (pt w1.heap.size 0)), (7, .ex (I (HK.block (HK.own sz bk))))])
      (fun k w' => k ≤ HK.block (HK.own sz bk) ∧ Only [] w w' ∧ HmPre (HK.own sz bk) w' q key.length K (spl K 0 ((K.map (· ^^^ 0x36)).take k)) [] ∧ Blk w' w1.heap.size 110 #[pt q.m 0]) (fun k => HK.block (HK.own sz bk) - k) 0 ⟨rfl, rfl, rfl, rfl, trivial⟩
      ⟨by omega, hz20, by simpa [spl_nil] using hX20, hP20⟩ ?_
    clear hX20 hP20
    rintro k w21 ⟨hk, hz21, hX21, hP21⟩
    repeat (first | refine t_seq ?_ | refine t_region ?_ | refine s_nil ?_ | refine p_then ?_ | refine t_ret ?_ | refine p_then_ret ?_ | refine p_block_ret ?_ | refine t_block ?_ | refine t_exit ?_ | refine p_then_exit ?_ | refine p_block_exit ?_ | refine p_block ?_ | refine t_skip ?_)
    refine s_val (v_ltI rfl rfl) rfl ?_
    repeat (first | refine t_seq ?_ | refine t_region ?_ | refine s_nil ?_ | refine p_then ?_ | refine t_ret ?_ | refine p_then_ret ?_ | refine p_block_ret ?_ | refine t_block ?_ | refine t_exit ?_ | refine p_then_exit ?_ | refine p_block_exit ?_ | refine p_block ?_ | refine t_skip ?_)
    refine t_if rfl (fun hb => ?_) (fun hb => ?_)
    · have hk' : k < HK.block (HK.own sz bk) := by have := of_decide_eq_true hb; omega
      have hml : 0 + ((K.map (· ^^^ (0x36 : UInt8))).take k).length ≤ K.length := by simp; omega
      have hsl' := spl_length hml
      have hval : (spl K 0 ((K.map (· ^^^ (0x36 : UInt8))).take k)).getD k 0 = K.getD k 0 := spl_at K _ k (by omega) (by simp)
      repeat (first | refine t_seq ?_ | refine t_region ?_ | refine s_nil ?_ | refine p_then ?_ | refine t_ret ?_ | refine p_then_ret ?_ | refine p_block_ret ?_ | refine t_block ?_ | refine t_exit ?_ | refine p_then_exit ?_ | refine p_block_exit ?_ | refine p_block ?_ | refine t_skip ?_)
      refine s_val (v_move rfl) rfl ?_
      refine s_val (v_assign rfl) rfl ?_
      repeat (first | refine t_seq ?_ | refine t_region ?_ | refine s_nil ?_ | refine p_then ?_ | refine t_ret ?_ | refine p_then_ret ?_ | refine p_block_ret ?_ | refine t_block ?_ | refine t_exit ?_ | refine p_then_exit ?_ | refine p_block_exit ?_ | refine p_block ?_ | refine t_skip ?_)
      refine s_val (v_load1 rfl (sc rfl) (by first | exact hP21.cell _ rfl | exact hX21.blk.cell _ rfl | exact hX21.ipad.byte0 (by omega) | assumption)) rfl ?_
      first | refine s_val (v_nilCheck rfl) rfl ?_ | refine s_val (v_nilCheck_iface rfl) rfl ?_
      refine s_val (v_fieldAddr rfl (fo rfl)) rfl ?_
      refine s_val (v_load1 rfl (sc rfl) (by first | exact hP21.cell _ rfl | exact hX21.blk.cell _ rfl | exact hX21.ipad.byte0 (by omega) | assumption)) rfl ?_
      refine s_val (v_move rfl) rfl ?_
      refine s_val (v_indexSlice rfl rfl (so rfl) (by omega)) rfl ?_
      refine s_val (v_load1 rfl (sc rfl) (by first | exact hP21.cell _ rfl | exact hX21.blk.cell _ rfl | exact hX21.ipad.byte0 (by omega) | assumption)) rfl ?_
      refine s_val (v_xorB rfl (opb rfl)) rfl ?_
      refine s_val (v_indexSlice rfl rfl (so rfl) (by omega)) rfl ?_
      refine s_storeB rfl rfl (si rfl) hX21.ipad (by omega) rfl (fun w22 hw22 hi22 => ?_)
      rw [hval, spl_set (b := K.getD k 0 ^^^ UInt8.ofNat 54) (by simp [hKl]) (map_get K 0x36 k (by omega))] at hi22
      repeat (first | refine t_seq ?_ | refine t_region ?_ | refine s_nil ?_ | refine p_then ?_ | refine t_ret ?_ | refine p_then_ret ?_ | refine p_block_ret ?_ | refine t_block ?_ | refine t_exit ?_ | refine p_then_exit ?_ | refine p_block_exit ?_ | refine p_block ?_ | refine t_skip ?_)
      refine s_val (v_addI rfl opc (by omega)) rfl ?_
      refine s_val (v_move rfl) rfl ?_
      repeat (first | refine t_seq ?_ | refine t_region ?_ | refine s_nil ?_ | refine p_then ?_ | refine t_ret ?_ | refine p_then_ret ?_ | refine p_block_ret ?_ | refine t_block ?_ | refine t_exit ?_ | refine p_then_exit ?_ | refine p_block_exit ?_ | refine p_block ?_ | refine t_skip ?_)
      exact p_round (k + 1) (Nat.sub_lt_sub_left hk' (Nat.lt_succ_self k)) ⟨rfl, rfl, rfl, rfl, trivial⟩ ⟨by omega, hz21.trans_new hw22 hnewi, hX21.setI hw22 hi22, hP21.only hw22 hPi⟩
    · have hk' : k = HK.block (HK.own sz bk) := by have := of_decide_eq_false hb; omega
      subst hk'
      rw [List.take_of_length_le (by rw [List.length_map]; exact Nat.le_of_eq hKl), spl_all (by simp)] at hX21
      repeat (first | refine t_seq ?_ | refine t_region ?_ | refine s_nil ?_ | refine p_then ?_ | refine t_ret ?_ | refine p_then_ret ?_ | refine p_block_ret ?_ | refine t_block ?_ | refine t_exit ?_ | refine p_then_exit ?_ | refine p_block_exit ?_ | refine p_block ?_ | refine t_skip ?_)
      exact p_cut () ⟨rfl, rfl, trivial⟩ ⟨hz21, hX21, hP21⟩
  clear hX20 hP20 hz20
  rintro _ w20 ⟨hz20, hX20, hP20⟩
  refine t_cut (fun _ : Unit => [(5, .ex (pt w1.heap.size 0)), (7, .ex (I (HK.block (HK.own sz bk))))]) (fun _ w' => Only [] w w' ∧ HmPre (HK.own sz bk) w' q key.length (K.map (· ^^^ 0x5c)) (K.map (· ^^^ 0x36)) [] ∧ Blk w' w1.heap.size 110 #[pt q.m 0]) ?_ ?_
  · repeat (first | refine t_seq ?_ | refine t_region ?_ | refine s_nil ?_ | refine p_then ?_ | refine t_ret ?_ | refine p_then_ret ?_ | refine p_block_ret ?_ | refine t_block ?_ | refine t_exit ?_ | refine p_then_exit ?_ | refine p_block_exit ?_ | refine p_block ?_ | refine t_skip ?_)
    refine s_val (v_load1 rfl (sc rfl) (by first | exact hP20.cell _ rfl | exact hX20.blk.cell _ rfl | assumption)) rfl ?_
    first | refine s_val (v_nilCheck rfl) rfl ?_ | refine s_val (v_nilCheck_iface rfl) rfl ?_
    refine s_val (v_fieldAddr rfl (fo rfl)) rfl ?_
    refine s_val (v_load1 rfl (sc rfl) (by first | exact hP20.cell _ rfl | exact hX20.blk.cell _ rfl | assumption)) rfl ?_
    refine s_val (v_len rfl (so rfl) rfl) rfl ?_
    refine s_val (v_move rfl) rfl ?_
    repeat (first | refine t_seq ?_ | refine t_region ?_ | refine s_nil ?_ | refine p_then ?_ | refine t_ret ?_ | refine p_then_ret ?_ | refine p_block_ret ?_ | refine t_block ?_ | refine t_exit ?_ | refine p_then_exit ?_ | refine p_block_exit ?_ | refine p_block ?_ | refine t_skip ?_)
    refine t_loop (fun k : Nat => [(96, .ex (I k)), (95, .ex (I (HK.block (HK.own sz bk)))), (5, .ex (pt w1.heap.size 0)), (7, .ex (I (HK.block (HK.own sz bk))))])
      (fun k w' => k ≤ HK.block (HK.own sz bk) ∧ Only [] w w' ∧ HmPre (HK.own sz bk) w' q key.length (spl K 0 ((K.map (· ^^^ 0x5c)).take k)) (K.map (· ^^^ 0x36)) [] ∧ Blk w' w1.heap.size 110 #[pt q.m 0]) (fun k => HK.block (HK.own sz bk) - k) 0 ⟨rfl, rfl, rfl, rfl, trivial⟩
      ⟨by omega, hz20, by simpa [spl_nil] using hX20, hP20⟩ ?_
    clear hX20 hP20
    rintro k w21 ⟨hk, hz21, hX21, hP21⟩
    repeat (first | refine t_seq ?_ | refine t_region ?_ | refine s_nil ?_ | refine p_then ?_ | refine t_ret ?_ | refine p_then_ret ?_ | refine p_block_ret ?_ | refine t_block ?_ | refine t_exit ?_ | refine p_then_exit ?_ | refine p_block_exit ?_ | refine p_block ?_ | refine t_skip ?_)
    refine s_val (v_ltI rfl rfl) rfl ?_
    repeat (first | refine t_seq ?_ | refine t_region ?_ | refine s_nil ?_ | refine p_then ?_ | refine t_ret ?_ | refine p_then_ret ?_ | refine p_block_ret ?_ | refine t_block ?_ | refine t_exit ?_ | refine p_then_exit ?_ | refine p_block_exit ?_ | refine p_block ?_ | refine t_skip ?_)
    refine t_if rfl (fun hb => ?_) (fun hb => ?_)
    · have hk' : k < HK.block (HK.own sz bk) := by have := of_decide_eq_true hb; omega
      have hml : 0 + ((K.map (· ^^^ (0x5c : UInt8))).take k).length ≤ K.length := by simp; omega
      have hsl' := spl_length hml
      have hval : (spl K 0 ((K.map (· ^^^ (0x5c : UInt8))).take k)).getD k 0 = K.getD k 0 := spl_at K _ k (by omega) (by simp)
      repeat (first | refine t_seq ?_ | refine t_region ?_ | refine s_nil ?_ | refine p_then ?_ | refine t_ret ?_ | refine p_then_ret ?_ | refine p_block_ret ?_ | refine t_block ?_ | refine t_exit ?_ | refine p_then_exit ?_ | refine p_block_exit ?_ | refine p_block ?_ | refine t_skip ?_)
      refine s_val (v_move rfl) rfl ?_
      refine s_val (v_assign rfl) rfl ?_
      repeat (first | refine t_seq ?_ | refine t_region ?_ | refine s_nil ?_ | refine p_then ?_ | refine t_ret ?_ | refine p_then_ret ?_ | refine p_block_ret ?_ | refine t_block ?_ | refine t_exit ?_ | refine p_then_exit ?_ | refine p_block_exit ?_ | refine p_block ?_ | refine t_skip ?_)
      refine s_val (v_load1 rfl (sc rfl) (by first | exact hP21.cell _ rfl | exact hX21.blk.cell _ rfl | exact hX21.opad.byte0 (by omega) | assumption)) rfl ?_
      first | refine s_val (v_nilCheck rfl) rfl ?_ | refine s_val (v_nilCheck_iface rfl) rfl ?_
      refine s_val (v_fieldAddr rfl (fo rfl)) rfl ?_
      refine s_val (v_load1 rfl (sc rfl) (by first | exact hP21.cell _ rfl | exact hX21.blk.cell _ rfl | exact hX21.opad.byte0 (by omega) | assumption)) rfl ?_
      refine s_val (v_move rfl) rfl ?_
      refine s_val (v_indexSlice rfl rfl (so rfl) (by omega)) rfl ?_
      refine s_val (v_load1 rfl (sc rfl) (by first | exact hP21.cell _ rfl | exact hX21.blk.cell _ rfl | exact hX21.opad.byte0 (by omega) | assumption)) rfl ?_
      refine s_val (v_xorB rfl (opb rfl)) rfl ?_
      refine s_val (v_indexSlice rfl rfl (so rfl) (by omega)) rfl ?_
      refine s_storeB rfl rfl (si rfl) hX21.opad (by omega) rfl (fun w22 hw22 hi22 => ?_)
      rw [hval, spl_set (b := K.getD k 0 ^^^ UInt8.ofNat 92) (by simp [hKl]) (map_get K 0x5c k (by omega))] at hi22
      repeat (first | refine t_seq ?_ | refine t_region ?_ | refine s_nil ?_ | refine p_then ?_ | refine t_ret ?_ | refine p_then_ret ?_ | refine p_block_ret ?_ | refine t_block ?_ | refine t_exit ?_ | refine p_then_exit ?_ | refine p_block_exit ?_ | refine p_block ?_ | refine t_skip ?_)
      refine s_val (v_addI rfl opc (by omega)) rfl ?_
      refine s_val (v_move rfl) rfl ?_
      repeat (first | refine t_seq ?_ | refine t_region ?_ | refine s_nil ?_ | refine p_then ?_ | refine t_ret ?_ | refine p_then_ret ?_ | refine p_block_ret ?_ | refine t_block ?_ | refine t_exit ?_ | refine p_then_exit ?_ | refine p_block_exit ?_ | refine p_block ?_ | refine t_skip ?_)
      exact p_round (k + 1) (Nat.sub_lt_sub_left hk' (Nat.lt_succ_self k)) ⟨rfl, rfl, rfl, rfl, trivial⟩ ⟨by omega, hz21.trans_new hw22 hnewo, hX21.setO hw22 hi22, hP21.only hw22 hPo⟩
    · have hk' : k = HK.block (HK.own sz bk) := by have := of_decide_eq_false hb; omega
      subst hk'
      rw [List.take_of_length_le (by rw [List.length_map]; exact Nat.le_of_eq hKl), spl_all (by simp)] at hX21
      repeat (first | refine t_seq ?_ | refine t_region ?_ | refine s_nil ?_ | refine p_then ?_ | refine t_ret ?_ | refine p_then_ret ?_ | refine p_block_ret ?_ | refine t_block ?_ | refine t_exit ?_ | refine p_then_exit ?_ | refine p_block_exit ?_ | refine p_block ?_ | refine t_skip ?_)
      exact p_cut () ⟨rfl, rfl, trivial⟩ ⟨hz21, hX21, hP21⟩
  clear hX20 hP20 hz20
  rintro _ w23 ⟨hz23, hX23, hP23⟩
  have hp1 : K.map (· ^^^ 0x36) = padded (HK.own sz bk) key 0x36 := by rw [hKe, padded_eq]
  have hp2 : K.map (· ^^^ 0x5c) = padded (HK.own sz bk) key 0x5c := by rw [hKe, padded_eq]
  rw [hp1, hp2] at hX23
  have hpl := padded_length hH key 0x36
  repeat (first | refine t_seq ?_ | refine t_region ?_ | refine s_nil ?_ | refine p_then ?_ | refine t_ret ?_ | refine p_then_ret ?_ | refine p_block_ret ?_ | refine t_block ?_ | refine t_exit ?_ | refine p_then_exit ?_ | refine p_block_exit ?_ | refine p_block ?_ | refine t_skip ?_)
  refine t_drawO 10 (by kernel_rfl) rfl ?_
  refine fk_val (Only.refl _) (fun wF hR => v_load1 rfl (sc rfl) (by first | exact (hP23.only hR (by simp)).cell _ rfl | exact (hX23.blk.only hR (by simp)).cell _ rfl | assumption)) ?_
  first | refine fk_val (Only.refl _) (fun wF hR => v_nilCheck rfl) ?_ | refine fk_val (Only.refl _) (fun wF hR => v_nilCheck_iface rfl) ?_
  refine fk_val (Only.refl _) (fun wF hR => v_fieldAddr rfl (fo rfl)) ?_
  refine fk_val (Only.refl _) (fun wF hR => v_load1 rfl (sc rfl) (by first | exact (hP23.only hR (by simp)).cell _ rfl | exact (hX23.blk.only hR (by simp)).cell _ rfl | assumption)) ?_
  refine fk_val (Only.refl _) (fun wF hR => v_load1 rfl (sc rfl) (by first | exact (hP23.only hR (by simp)).cell _ rfl | exact (hX23.blk.only hR (by simp)).cell _ rfl | assumption)) ?_
  first | refine fk_val (Only.refl _) (fun wF hR => v_nilCheck rfl) ?_ | refine fk_val (Only.refl _) (fun wF hR => v_nilCheck_iface rfl) ?_
  refine fk_val (Only.refl _) (fun wF hR => v_fieldAddr rfl (fo rfl)) ?_
  refine fk_val (Only.refl _) (fun wF hR => v_load1 rfl (sc rfl) (by first | exact (hP23.only hR (by simp)).cell _ rfl | exact (hX23.blk.only hR (by simp)).cell _ rfl | assumption)) ?_
  first | refine fk_val (Only.refl _) (fun wF hR => v_nilCheck rfl) ?_ | refine fk_val (Only.refl _) (fun wF hR => v_nilCheck_iface rfl) ?_
  refine fk_val (Only.refl _) (fun wF hR => v_move rfl) ?_
  refine fk_nil (fun w24 hw24 => ?_)
  have hX24 := hX23.only hw24 (by simp)
  have hP24 := hP23.only hw24 (by simp)
  have hz24 := hz23.trans hw24
  have hcall := hWrite (c := HK.block (HK.own sz bk)) hH hX24.inner hX24.ipad.rd0 (fun _ => Off.pt hX24.nots.2.2.1.2.2) (by omega) (by simp; omega) (hK.only hz24 (by simp)) h0I
  rw [hpl] at hcall
  refine s_op (o_invoke rfl rfl (HK.mew (HK.own sz bk) _ _) (HK.enw (HK.own sz bk)) hcall) rfl rfl ?_
  rintro _ w25 hw25 ⟨rfl, hI25⟩
  rw [List.nil_append] at hI25
  have hP25 := hP24.only hw25 (fun hk => hPne (hI0 _ hk))
  repeat (first | refine t_seq ?_ | refine t_region ?_ | refine s_nil ?_ | refine p_then ?_ | refine t_ret ?_ | refine p_then_ret ?_ | refine p_block_ret ?_ | refine t_block ?_ | refine t_exit ?_ | refine p_then_exit ?_ | refine p_block_exit ?_ | refine p_block ?_ | refine t_skip ?_)
  refine s_val (v_load1 rfl (sc rfl) (by first | exact hP25.cell _ rfl | assumption)) rfl ?_
  refine s_val (v_assign rfl) rfl ?_
  repeat (first | refine t_seq ?_ | refine t_region ?_ | refine s_nil ?_ | refine p_then ?_ | refine t_ret ?_ | refine p_then_ret ?_ | refine p_block_ret ?_ | refine t_block ?_ | refine t_exit ?_ | refine p_then_exit ?_ | refine p_block_exit ?_ | refine p_block ?_ | refine t_skip ?_)
  exact ret1 rfl rfl ⟨_, rfl, hz24.trans_new hw25 (fun k hk => .inr (hbase k (hI0 k hk)).1), q, rfl, hX24.done hw25 hI25, fun k hk => by rw [hq0]; exact (hbase k hk).1⟩
end Go.Proofs.YtnaefgnjdmmmcaaGreatDoor
/- hmac.New in the program, at one of its instances. -/
namespace Go.Proofs.YtnaefgnjdmmmcaaGreatDoor
open Go.RowKit
attribute [local irreducible] ValAt OpAt RunX Tr Post FlowK

set_option maxHeartbeats 1000000 in
/-- hmac.New -/
theorem c100 (H : HK) (hH : H.ok) (h : Value) (A : Option Addr) (c : Nat) (key : Bytes) (w : World) (hm : MkI H w h) (hp : Rd w A key) (hc : key.length ≤ c) (hn : key.length ≤ 60000) (hK : KT w) (hw0 : 0 < w.heap.size) :
    Calls Tryz.prog 100 #[h, .slice A key.length c] w (Ret [] w fun v w' => ∃ q : HP, v = pt q.m 0 ∧ HmacAt H w' q key [] false key.length ∧ ∀ k ∈ q.fp, w.heap.size ≤ k) := by
  have hbl := HK.block_le hH
  have hsl := HK.size_le hH
  refine enter (Γ := [(0, .ex h), (1, .ex (.slice A key.length c))]) Tryz.func100 rfl rfl rfl ⟨⟨_, rfl, rfl⟩, ⟨_, rfl, rfl⟩, trivial⟩ ?_
  repeat (first | refine t_seq ?_ | refine t_region ?_ | refine s_nil ?_ | refine p_then ?_ | refine t_ret ?_ | refine p_then_ret ?_ | refine p_block_ret ?_ | refine t_block ?_ | refine t_exit ?_ | refine p_then_exit ?_ | refine p_block_exit ?_ | refine p_block ?_ | refine t_skip ?_)
  refine s_val (v_assign rfl) rfl ?_
  repeat (first | refine t_seq ?_ | refine t_region ?_ | refine s_nil ?_ | refine p_then ?_ | refine t_ret ?_ | refine p_then_ret ?_ | refine p_block_ret ?_ | refine t_block ?_ | refine t_exit ?_ | refine p_then_exit ?_ | refine p_block_exit ?_ | refine p_block ?_ | refine t_skip ?_)
  refine s_val (v_move rfl) rfl ?_
  refine s_val (v_len rfl (so rfl) rfl) rfl ?_
  refine s_val (v_build rfl (bu120 _)) rfl ?_
  refine s_op (o_box rfl) rfl rfl ?_
  rintro _ w1 hw1 ⟨rfl, hB1⟩
  refine s_op (o_alloc zc110) rfl rfl ?_
  rintro _ w2 hw2 ⟨rfl, hB2⟩
  refine s_store rfl rfl (si rfl) hB2 (by simp) rfl rfl (fun w3 hw3 hB3 => ?_)
  have hs1 := hB1.lt
  have hs2 := hB2.lt
  have hs3 := hw3.size
  have hM3 := (hB1.only hw2 (by simp)).only hw3 (by simp; omega)
  have hP3 : Blk w3 w1.heap.size 110 #[pt w.heap.size 0] := hB3
  have hz3 : Only [] w w3 := (hw1.trans hw2).trans_new hw3 (by simp; omega)
  have hg1 := hw1.size
  repeat (first | refine t_seq ?_ | refine t_region ?_ | refine s_nil ?_ | refine p_then ?_ | refine t_ret ?_ | refine p_then_ret ?_ | refine p_block_ret ?_ | refine t_block ?_ | refine t_exit ?_ | refine p_then_exit ?_ | refine p_block_exit ?_ | refine p_block ?_ | refine t_skip ?_)
  refine t_drawO 5 (by kernel_rfl) rfl ?_
  refine fk_val (Only.refl _) (fun wF hR => v_load1 rfl (sc rfl) (by first | exact (hP3.only hR (by simp)).cell _ rfl | assumption)) ?_
  refine fk_val (Only.refl _) (fun wF hR => v_move rfl) ?_
  refine fk_op st_val (fun wF hR => o_mkI (H := H) (b := w3.heap.size) (hm.only (hz3.trans hR) (fun i hi => by cases hi) (Nat.le_refl _)) rfl hR.size) ?_
  first | refine fk_val (Only.refl _) (fun wF hR => v_nilCheck rfl) ?_ | refine fk_val (Only.refl _) (fun wF hR => v_nilCheck_iface rfl) ?_
  refine fk_val (Only.refl _) (fun wF hR => v_fieldAddr rfl (fo rfl)) ?_
  refine fk_nil (fun w4 hw4 => ?_)
  refine x_open 16 rfl (fun v hv => ?_)
  obtain ⟨gO, rfl, fO, hO, hfO⟩ := hv
  have hltO5 : ∀ k ∈ fO, k < w4.heap.size := hO.lt
  have hM4 := hM3.only hw4 (by simp)
  have hP4 := hP3.only hw4 (by simp)
  have hs4 := hw4.size
  refine x_weak [(16, .ex (HK.val H gO)), (18, .ex (pt w.heap.size (0 + 2))), (0, .ex h), (1, .ex (.slice A key.length c)), (5, .ex (pt w1.heap.size 0))] ⟨rfl, rfl, rfl, rfl, rfl, trivial⟩ ?_
  refine s_store rfl rfl (si rfl) hM4 (by simp [Value.cells]) rfl rfl (fun w5 hw5 hM5 => ?_)
  have hP5 := hP4.only hw5 (by simp; omega)
  have hO5 := hO.only hw5 (fun i hi => by have := hfO i hi; simp; omega)
  have hs5 := hw5.size
  have hz5 : Only [] w w5 := (hz3.trans hw4).trans_new hw5 (by simp)
  repeat (first | refine t_seq ?_ | refine t_region ?_ | refine s_nil ?_ | refine p_then ?_ | refine t_ret ?_ | refine p_then_ret ?_ | refine p_block_ret ?_ | refine t_block ?_ | refine t_exit ?_ | refine p_then_exit ?_ | refine p_block_exit ?_ | refine p_block ?_ | refine t_skip ?_)
  refine t_drawO 5 (by kernel_rfl) rfl ?_
  refine fk_val (Only.refl _) (fun wF hR => v_load1 rfl (sc rfl) (by first | exact (hP5.only hR (by simp)).cell _ rfl | assumption)) ?_
  refine fk_val (Only.refl _) (fun wF hR => v_move rfl) ?_
  refine fk_op st_val (fun wF hR => o_mkI (H := H) (b := w5.heap.size) (hm.only (hz5.trans hR) (fun i hi => by cases hi) (Nat.le_refl _)) rfl hR.size) ?_
  first | refine fk_val (Only.refl _) (fun wF hR => v_nilCheck rfl) ?_ | refine fk_val (Only.refl _) (fun wF hR => v_nilCheck_iface rfl) ?_
  refine fk_val (Only.refl _) (fun wF hR => v_fieldAddr rfl (fo rfl)) ?_
  refine fk_nil (fun w6 hw6 => ?_)
  refine x_open 21 rfl (fun v hv => ?_)
  obtain ⟨gI, rfl, fI, hI, hfI⟩ := hv
  have hM6 := hM5.only hw6 (by simp)
  have hP6 := hP5.only hw6 (by simp)
  have hO6 := hO5.only hw6 (by simp)
  have hs6 := hw6.size
  refine x_weak [(21, .ex (HK.val H gI)), (23, .ex (pt w.heap.size (0 + 3))), (0, .ex h), (1, .ex (.slice A key.length c)), (5, .ex (pt w1.heap.size 0))] ⟨rfl, rfl, rfl, rfl, rfl, trivial⟩ ?_
  refine s_store rfl rfl (si rfl) hM6 (by simp [Value.cells]) rfl rfl (fun w7 hw7 hM7 => ?_)
  have hP7 := hP6.only hw7 (by simp; omega)
  have hO7 := hO6.only hw7 (fun i hi => by have := hfO i hi; simp; omega)
  have hI7 := hI.only hw7 (fun i hi => by have := hfI i hi; simp; omega)
  have hs7 := hw7.size
  have hz7 : Only [] w w7 := (hz5.trans hw6).trans_new hw7 (by simp)
  have hM7' : Blk w7 w.heap.size 120 #[.slice none 0 0, .slice none 0 0, H.val gO, H.val gI, .bool false, .bool false, I key.length] := hM7
  repeat (first | refine t_seq ?_ | refine t_region ?_ | refine s_nil ?_ | refine p_then ?_ | refine t_ret ?_ | refine p_then_ret ?_ | refine p_block_ret ?_ | refine t_block ?_ | refine t_exit ?_ | refine p_then_exit ?_ | refine p_block_exit ?_ | refine p_block ?_ | refine t_skip ?_)
  refine s_op (o_alloc zc4) rfl rfl ?_
  rintro _ w8 hw8 ⟨rfl, hB8⟩
  refine s_store (v := .bool true) rfl rfl (si rfl) hB8 (by simp) rfl rfl (fun w9 hw9 hB9 => ?_)
  have hs8 := hB8.lt
  have hs9 := hw9.size
  have hM9 := (hM7'.only hw8 (by simp)).only hw9 (by simp; omega)
  have hP9 := (hP7.only hw8 (by simp)).only hw9 (by simp; omega)
  have hltO := hO7.lt
  have hltI := hI7.lt
  have hO9 := (hO7.only hw8 (by simp)).only hw9 (fun i hi => by have := hltO i hi; simp; omega)
  have hI9 := (hI7.only hw8 (by simp)).only hw9 (fun i hi => by have := hltI i hi; simp; omega)
  have hB9' : Blk w9 w7.heap.size 4 #[.bool true] := hB9
  have hne : gO ≠ gI := by
    have e1 := hfI gI hI.mem
    have e2 := hltO5 gO hO.mem
    omega
  repeat (first | refine t_seq ?_ | refine t_region ?_ | refine s_nil ?_ | refine p_then ?_ | refine t_ret ?_ | refine p_then_ret ?_ | refine p_block_ret ?_ | refine t_block ?_ | refine t_exit ?_ | refine p_then_exit ?_ | refine p_block_exit ?_ | refine p_block ?_ | refine t_skip ?_)
  refine s_val (v_makeFunc rfl rfl) rfl ?_
  refine s_op (o_callv (f := 111) (first := #[]) (cap := #[pt w1.heap.size 0, pt w7.heap.size 0]) (xs := []) rfl rfl (en rfl) (c111 w1.heap.size w7.heap.size w.heap.size H.ty (pt gO 0) (pt gI 0) w9 (hP9.cell _ rfl) (hM9.cell _ rfl) (hM9.cell _ rfl) (HashAt.two (H := H) hO9 hI9 hne))) rfl rfl ?_
  rintro _ w10 hw10 _
  have hM10 := hM9.only hw10 (by simp)
  have hP10 := hP9.only hw10 (by simp)
  have hO10 := hO9.only hw10 (by simp)
  have hI10 := hI9.only hw10 (by simp)
  have hB10 := hB9'.only hw10 (by simp)
  have hs10 := hw10.size
  repeat (first | refine t_seq ?_ | refine t_region ?_ | refine s_nil ?_ | refine p_then ?_ | refine t_ret ?_ | refine p_then_ret ?_ | refine p_block_ret ?_ | refine t_block ?_ | refine t_exit ?_ | refine p_then_exit ?_ | refine p_block_exit ?_ | refine p_block ?_ | refine t_skip ?_)
  refine s_val (v_load1 rfl (sc rfl) (by first | exact hB10.cell _ rfl | assumption)) rfl ?_
  refine s_val (v_bool_not rfl) rfl ?_
  repeat (first | refine t_seq ?_ | refine t_region ?_ | refine s_nil ?_ | refine p_then ?_ | refine t_ret ?_ | refine p_then_ret ?_ | refine p_block_ret ?_ | refine t_block ?_ | refine t_exit ?_ | refine p_then_exit ?_ | refine p_block_exit ?_ | refine p_block ?_ | refine t_skip ?_)
  refine t_false rfl ?_
  repeat (first | refine t_seq ?_ | refine t_region ?_ | refine s_nil ?_ | refine p_then ?_ | refine t_ret ?_ | refine p_then_ret ?_ | refine p_block_ret ?_ | refine t_block ?_ | refine t_exit ?_ | refine p_then_exit ?_ | refine p_block_exit ?_ | refine p_block ?_ | refine t_skip ?_)
  refine s_val (v_load1 rfl (sc rfl) (by first | exact hP10.cell _ rfl | exact hM10.cell _ rfl | assumption)) rfl ?_
  first | refine s_val (v_nilCheck rfl) rfl ?_ | refine s_val (v_nilCheck_iface rfl) rfl ?_
  refine s_val (v_fieldAddr rfl (fo rfl)) rfl ?_
  refine s_val (v_load1 rfl (sc rfl) (by first | exact hP10.cell _ rfl | exact hM10.cell _ rfl | assumption)) rfl ?_
  refine s_op (o_invoke rfl rfl (HK.meb H _ _) (HK.enb H) (hBlock hI10)) rfl rfl ?_
  rintro _ w11 hw11 rfl
  refine s_val (v_assign rfl) rfl ?_
  have hM11 := hM10.only hw11 (by simp)
  have hP11 := hP10.only hw11 (by simp)
  have hO11 := hO10.only hw11 (by simp)
  have hI11 := hI10.only hw11 (by simp)
  have hs11 := hw11.size
  have hz11 : Only [] w w11 := (((hz7.trans hw8).trans_new hw9 (by simp; omega)).trans hw10).trans hw11
  repeat (first | refine t_seq ?_ | refine t_region ?_ | refine s_nil ?_ | refine p_then ?_ | refine t_ret ?_ | refine p_then_ret ?_ | refine p_block_ret ?_ | refine t_block ?_ | refine t_exit ?_ | refine p_then_exit ?_ | refine p_block_exit ?_ | refine p_block ?_ | refine t_skip ?_)
  refine t_drawO 5 (by kernel_rfl) rfl ?_
  refine fk_val (Only.refl _) (fun wF hR => v_load1 rfl (sc rfl) (by first | exact (hP11.only hR (by simp)).cell _ rfl | assumption)) ?_
  refine fk_val (Only.refl _) (fun wF hR => v_move rfl) ?_
  refine fk_op st_mk (fun wF hR => o_make_ab (b := w11.heap.size) rt24 hR.size rfl rfl (by omega) (by omega)) ?_
  first | refine fk_val (Only.refl _) (fun wF hR => v_nilCheck rfl) ?_ | refine fk_val (Only.refl _) (fun wF hR => v_nilCheck_iface rfl) ?_
  refine fk_val (Only.refl _) (fun wF hR => v_fieldAddr rfl (fo rfl)) ?_
  refine fk_nil (fun w12 hw12 => ?_)
  refine x_open 36 rfl (fun v hv => ?_)
  obtain ⟨i, hi, rfl, hi12⟩ := hv
  have hi12' : Blk w12 i 5 ((zeros H.block).map B).toArray := by simpa [zeros] using hi12
  have hM12 := hM11.only hw12 (by simp)
  have hP12 := hP11.only hw12 (by simp)
  have hs12 := hw12.size
  have hilt := hi12.lt
  refine x_weak [(36, .ex (.slice (some ⟨i, 0, none⟩) (HK.block H) (HK.block H))), (38, .ex (pt w.heap.size (0 + 1))), (0, .ex h), (1, .ex (.slice A key.length c)), (5, .ex (pt w1.heap.size 0)), (7, .ex (I (HK.block H)))] ⟨rfl, rfl, rfl, rfl, rfl, rfl, trivial⟩ ?_
  refine s_store rfl rfl (si rfl) hM12 (by simp) rfl rfl (fun w13 hw13 hM13 => ?_)
  have hP13 := hP12.only hw13 (by simp; omega)
  have hs13 := hw13.size
  have hi13 := hi12'.only hw13 (by simp; omega)
  have hz13 : Only [] w w13 := (hz11.trans hw12).trans_new hw13 (by simp)
  repeat (first | refine t_seq ?_ | refine t_region ?_ | refine s_nil ?_ | refine p_then ?_ | refine t_ret ?_ | refine p_then_ret ?_ | refine p_block_ret ?_ | refine t_block ?_ | refine t_exit ?_ | refine p_then_exit ?_ | refine p_block_exit ?_ | refine p_block ?_ | refine t_skip ?_)
  refine t_drawO 5 (by kernel_rfl) rfl ?_
  refine fk_val (Only.refl _) (fun wF hR => v_load1 rfl (sc rfl) (by first | exact (hP13.only hR (by simp)).cell _ rfl | assumption)) ?_
  refine fk_val (Only.refl _) (fun wF hR => v_move rfl) ?_
  refine fk_op st_mk (fun wF hR => o_make_ab (b := w13.heap.size) rt24 hR.size rfl rfl (by omega) (by omega)) ?_
  first | refine fk_val (Only.refl _) (fun wF hR => v_nilCheck rfl) ?_ | refine fk_val (Only.refl _) (fun wF hR => v_nilCheck_iface rfl) ?_
  refine fk_val (Only.refl _) (fun wF hR => v_fieldAddr rfl (fo rfl)) ?_
  refine fk_nil (fun w14 hw14 => ?_)
  refine x_open 41 rfl (fun v hv => ?_)
  obtain ⟨o, ho14, rfl, ho14b⟩ := hv
  have ho14' : Blk w14 o 5 ((zeros H.block).map B).toArray := by simpa [zeros] using ho14b
  have hM14 := hM13.only hw14 (by simp)
  have hP14 := hP13.only hw14 (by simp)
  have hi14 := hi13.only hw14 (by simp)
  have holt := ho14b.lt
  have hs14 := hw14.size
  refine x_weak [(41, .ex (.slice (some ⟨o, 0, none⟩) (HK.block H) (HK.block H))), (43, .ex (pt w.heap.size (0 + 0))), (0, .ex h), (1, .ex (.slice A key.length c)), (5, .ex (pt w1.heap.size 0)), (7, .ex (I (HK.block H)))] ⟨rfl, rfl, rfl, rfl, rfl, rfl, trivial⟩ ?_
  refine s_store rfl rfl (si rfl) hM14 (by simp) rfl rfl (fun w15 hw15 hM15 => ?_)
  have hP15 := hP14.only hw15 (by simp; omega)
  have hi15 := hi14.only hw15 (by simp; omega)
  have ho15 := ho14'.only hw15 (by simp; omega)
  have hs15 := hw15.size
  have hz15 : Only [] w w15 := (hz13.trans hw14).trans_new hw15 (by simp)
  have hlt11O := hO11.lt
  have hlt11I := hI11.lt
  have hO15 := (((hO11.only hw12 (by simp)).only hw13 (fun i hi => by have := hfO i hi; simp; omega)).only hw14 (by simp)).only hw15 (fun i hi => by have := hfO i hi; simp; omega)
  have hI15 := (((hI11.only hw12 (by simp)).only hw13 (fun i hi => by have := hfI i hi; simp; omega)).only hw14 (by simp)).only hw15 (fun i hi => by have := hfI i hi; simp; omega)
  obtain ⟨q, hq⟩ : ∃ q : HP, q = ⟨w.heap.size, o, i, gO, gI, fO, fI⟩ := ⟨_, rfl⟩
  have hbase : ∀ k ∈ q.fp, w.heap.size ≤ k ∧ k ≠ w1.heap.size := by
    subst hq
    intro k hk
    simp only [HP.fp, List.mem_cons, List.mem_append] at hk
    rcases hk with rfl | rfl | rfl | hk | hk
    · omega
    · omega
    · omega
    · have := hfO k hk; omega
    · have := hfI k hk; omega
  have hX15 : HmPre H w15 q key.length (zeros H.block) (zeros H.block) [] := by
    subst hq
    refine ⟨hM15, ho15, hi15, ⟨_, hO15⟩, hI15, ?_⟩
    simp only [HP.fp, List.nodup_cons, List.mem_cons, List.mem_append, List.nodup_append, not_or]
    have aO : ∀ k ∈ fO, w3.heap.size ≤ k ∧ k < w5.heap.size := fun k hk => ⟨hfO k hk, Nat.lt_of_lt_of_le (hltO5 k hk) hs5⟩
    have aI : ∀ k ∈ fI, w5.heap.size ≤ k ∧ k < w11.heap.size := fun k hk => ⟨hfI k hk, hlt11I k hk⟩
    refine ⟨⟨by omega, by omega, fun hk => by have := aO _ hk; omega, fun hk => by have := aI _ hk; omega⟩, ⟨by omega, fun hk => by have := aO _ hk; omega, fun hk => by have := aI _ hk; omega⟩, ⟨fun hk => by have := aO _ hk; omega, fun hk => by have := aI _ hk; omega⟩, hO.nodup, hI.nodup, fun a ha b hb => by have := aO _ ha; have := aI _ hb; omega⟩
  have hq0 : q.m = w.heap.size := by rw [hq]
  have hqo : q.o = o := by rw [hq]
  have hqi : q.i = i := by rw [hq]
  rw [← hq0]
  have hPne : w1.heap.size ∉ q.fp := fun hk => (hbase _ hk).2 rfl
  have hPq : Blk w15 w1.heap.size 110 #[pt q.m 0] := by rw [hq0]; exact hP15
  have hm0 : q.m ∈ q.fp := by simp [HP.fp]
  have ho0 : q.o ∈ q.fp := by simp [HP.fp]
  have hi0 : q.i ∈ q.fp := by simp [HP.fp]
  have hO0 : ∀ k ∈ q.fO, k ∈ q.fp := fun k hk => by simp [HP.fp, hk]
  have hI0 : ∀ k ∈ q.fI, k ∈ q.fp := fun k hk => by simp [HP.fp, hk]
  have h00 : ∀ k ∈ q.fp, k ≠ 0 := fun k hk => by have := (hbase k hk).1; omega
  have h0O : 0 ∉ q.fO := fun hk => h00 0 (hO0 0 hk) rfl
  have h0I : 0 ∉ q.fI := fun hk => h00 0 (hI0 0 hk) rfl
  have hOq : HashAt H w15 q.gO q.fO [] := by rw [hq]; exact hO15
  have hoffk : key ≠ [] → Off A q.fp := fun hne => by
    obtain ⟨gA, iA, rfl, hgA, _⟩ := hp hne
    exact Off.pt (fun hk => by have := (hbase _ hk).1; omega)
  have hnewO : ∀ k ∈ q.fO, k ∈ ([] : List Nat) ∨ w.heap.size ≤ k := fun k hk => .inr (hbase k (hO0 k hk)).1
  have hsk := shortKey_length hH key
  refine s_nil (p_then ?_)
  refine t_cut (fun s : KS => [(1, .ex (.slice s.A s.k.length s.c)), (5, .ex (pt w1.heap.size 0)), (7, .ex (I (HK.block H)))])
    (fun s w' => Only [] w w' ∧ HmPre H w' q key.length (zeros (HK.block H)) (zeros (HK.block H)) [] ∧ Blk w' w1.heap.size 110 #[pt q.m 0] ∧ s.k = shortKey H key ∧ Rd w' s.A s.k ∧ (s.k ≠ [] → Off s.A q.fp) ∧ s.k.length ≤ s.c) ?_ ?_
  · repeat (first | refine t_seq ?_ | refine t_region ?_ | refine s_nil ?_ | refine p_then ?_ | refine t_ret ?_ | refine p_then_ret ?_ | refine p_block_ret ?_ | refine t_block ?_ | refine t_exit ?_ | refine p_then_exit ?_ | refine p_block_exit ?_ | refine p_block ?_ | refine t_skip ?_)
    refine s_val (v_move rfl) rfl ?_
    refine s_val (v_len rfl (so rfl) rfl) rfl ?_
    refine s_val (v_move rfl) rfl ?_
    refine s_val (v_gtI rfl rfl) rfl ?_
    repeat (first | refine t_seq ?_ | refine t_region ?_ | refine s_nil ?_ | refine p_then ?_ | refine t_ret ?_ | refine p_then_ret ?_ | refine p_block_ret ?_ | refine t_block ?_ | refine t_exit ?_ | refine p_then_exit ?_ | refine p_block_exit ?_ | refine p_block ?_ | refine t_skip ?_)
    refine t_if rfl (fun hb => ?_) (fun hb => ?_)
    · have hbk : HK.block H < key.length := by have := of_decide_eq_true hb; omega
      clear hb
      repeat (first | refine t_seq ?_ | refine t_region ?_ | refine s_nil ?_ | refine p_then ?_ | refine t_ret ?_ | refine p_then_ret ?_ | refine p_block_ret ?_ | refine t_block ?_ | refine t_exit ?_ | refine p_then_exit ?_ | refine p_block_exit ?_ | refine p_block ?_ | refine t_skip ?_)
      refine s_val (v_load1 rfl (sc rfl) (by first | exact hPq.cell _ rfl | exact hX15.blk.cell _ rfl | assumption)) rfl ?_
      first | refine s_val (v_nilCheck rfl) rfl ?_ | refine s_val (v_nilCheck_iface rfl) rfl ?_
      refine s_val (v_fieldAddr rfl (fo rfl)) rfl ?_
      refine s_val (v_load1 rfl (sc rfl) (by first | exact hPq.cell _ rfl | exact hX15.blk.cell _ rfl | assumption)) rfl ?_
      refine s_val (v_move rfl) rfl ?_
      refine s_op (o_invoke rfl rfl (HK.mew H _ _) (HK.enw H) (hWrite hH hOq (hp.pure hz15) (fun hne => fun a ha hm => hoffk hne a ha (hO0 _ hm)) hc (by simp; omega) (hK.only hz15 (by simp)) h0O)) rfl rfl ?_
      rintro _ w16 hw16 ⟨rfl, hO16⟩
      have hX16 := hX15.setOuter hw16 hO16
      have hP16 := hPq.only hw16 (fun hk => hPne (hO0 _ hk))
      have hz16 : Only [] w w16 := hz15.trans_new hw16 hnewO
      have hs16 := hw16.size
      repeat (first | refine t_seq ?_ | refine t_region ?_ | refine s_nil ?_ | refine p_then ?_ | refine t_ret ?_ | refine p_then_ret ?_ | refine p_block_ret ?_ | refine t_block ?_ | refine t_exit ?_ | refine p_then_exit ?_ | refine p_block_exit ?_ | refine p_block ?_ | refine t_skip ?_)
      refine s_val (v_load1 rfl (sc rfl) (by first | exact hP16.cell _ rfl | exact hX16.blk.cell _ rfl | assumption)) rfl ?_
      first | refine s_val (v_nilCheck rfl) rfl ?_ | refine s_val (v_nilCheck_iface rfl) rfl ?_
      refine s_val (v_fieldAddr rfl (fo rfl)) rfl ?_
      refine s_val (v_load1 rfl (sc rfl) (by first | exact hP16.cell _ rfl | exact hX16.blk.cell _ rfl | assumption)) rfl ?_
      refine s_op (o_invoke rfl rfl (HK.mes H _ _) (HK.ens H) (hSum hH hO16 (Own.nil w16) (Nots.nil _) (by simp; omega) (by simp) (hK.only hz16 (by simp)))) rfl rfl ?_
      rintro v17 w17 hw17 ⟨hv17, hk17⟩
      refine s_val (v_assign rfl) rfl ?_
      have hw17' : Only [] w16 w17 := hw17
      obtain ⟨A', c', rfl, hc', hrd', hoff'⟩ := hv17.slice
      have hn17 : Nots (.slice A' ([] ++ HK.hash H ([] ++ key)).length c') q.fp := fun k hk hm => by
        rcases hk17 k hk with e | e
        · cases e
        · have := hX16.lt k hm; omega
      repeat (first | refine t_seq ?_ | refine t_region ?_ | refine s_nil ?_ | refine p_then ?_ | refine t_ret ?_ | refine p_then_ret ?_ | refine p_block_ret ?_ | refine t_block ?_ | refine t_exit ?_ | refine p_then_exit ?_ | refine p_block_exit ?_ | refine p_block ?_ | refine t_skip ?_)
      exact p_cut ⟨A', c', [] ++ HK.hash H ([] ++ key)⟩ ⟨rfl, rfl, rfl, trivial⟩ ⟨hz16.trans hw17', hX16.only hw17' (by simp), hP16.only hw17' (by simp), by simp [shortKey, hbk], hrd', fun _ => hoff' _ hn17, hc'⟩
    · have hbk : ¬ HK.block H < key.length := by have := of_decide_eq_false hb; omega
      clear hb
      repeat (first | refine t_seq ?_ | refine t_region ?_ | refine s_nil ?_ | refine p_then ?_ | refine t_ret ?_ | refine p_then_ret ?_ | refine p_block_ret ?_ | refine t_block ?_ | refine t_exit ?_ | refine p_then_exit ?_ | refine p_block_exit ?_ | refine p_block ?_ | refine t_skip ?_)
      exact p_cut ⟨A, c, key⟩ ⟨rfl, rfl, rfl, trivial⟩ ⟨hz15, hX15, hPq, by simp [shortKey, hbk], hp.pure hz15, hoffk, hc⟩
  clear hX15 hPq hOq hq hp hc
  rintro ⟨A1, c1, k1⟩ w18 ⟨hz18, hX18, hP18, hk1, hrd, hoff, hc1⟩
  simp only at hk1 hrd hoff hc1
  subst hk1
  refine t_weak [(1, .ex (.slice A1 (shortKey H key).length c1)), (5, .ex (pt w1.heap.size 0)), (7, .ex (I (HK.block H)))] ⟨rfl, rfl, rfl, trivial⟩ ?_
  have hnewi : ∀ k ∈ [q.i], k ∈ ([] : List Nat) ∨ w.heap.size ≤ k := fun k hk => .inr (by simp at hk; rw [hk]; exact (hbase _ hi0).1)
  have hnewo : ∀ k ∈ [q.o], k ∈ ([] : List Nat) ∨ w.heap.size ≤ k := fun k hk => .inr (by simp at hk; rw [hk]; exact (hbase _ ho0).1)
  have hPi : w1.heap.size ∉ [q.i] := by simp; exact fun e => hPne (e ▸ hi0)
  have hPo : w1.heap.size ∉ [q.o] := by simp; exact fun e => hPne (e ▸ ho0)
  obtain ⟨K, hKe⟩ : ∃ K, K = shortKey H key ++ zeros (HK.block H - (shortKey H key).length) := ⟨_, rfl⟩
  have hKl : K.length = HK.block H := by rw [hKe]; simp [zeros]; omega
  repeat (first | refine t_seq ?_ | refine t_region ?_ | refine s_nil ?_ | refine p_then ?_ | refine t_ret ?_ | refine p_then_ret ?_ | refine p_block_ret ?_ | refine t_block ?_ | refine t_exit ?_ | refine p_then_exit ?_ | refine p_block_exit ?_ | refine p_block ?_ | refine t_skip ?_)
  refine s_val (v_load1 rfl (sc rfl) (by first | exact hP18.cell _ rfl | exact hX18.blk.cell _ rfl | assumption)) rfl ?_
  first | refine s_val (v_nilCheck rfl) rfl ?_ | refine s_val (v_nilCheck_iface rfl) rfl ?_
  refine s_val (v_fieldAddr rfl (fo rfl)) rfl ?_
  refine s_val (v_load1 rfl (sc rfl) (by first | exact hP18.cell _ rfl | exact hX18.blk.cell _ rfl | assumption)) rfl ?_
  refine s_val (v_move rfl) rfl ?_
  refine s_op (o_copy (i := 0) rt24 rfl rfl rfl hX18.ipad hrd (fun _ => rfl) (by simp [zeros]; omega)) rfl rfl ?_
  rintro _ w19 hw19 ⟨_, hi19⟩
  rw [splC_bytes, spl_zeros _ _ hsk, ← hKe] at hi19
  have hX19 := hX18.setI hw19 hi19
  have hP19 := hP18.only hw19 hPi
  have hrd19 := hrd.only hw19 (fun hne a ha hm => by simp at hm; exact hoff hne a ha (by rw [hm]; exact hi0))
  have hz19 := hz18.trans_new hw19 hnewi
  repeat (first | refine t_seq ?_ | refine t_region ?_ | refine s_nil ?_ | refine p_then ?_ | refine t_ret ?_ | refine p_then_ret ?_ | refine p_block_ret ?_ | refine t_block ?_ | refine t_exit ?_ | refine p_then_exit ?_ | refine p_block_exit ?_ | refine p_block ?_ | refine t_skip ?_)
  refine s_val (v_load1 rfl (sc rfl) (by first | exact hP19.cell _ rfl | exact hX19.blk.cell _ rfl | assumption)) rfl ?_
  first | refine s_val (v_nilCheck rfl) rfl ?_ | refine s_val (v_nilCheck_iface rfl) rfl ?_
  refine s_val (v_fieldAddr rfl (fo rfl)) rfl ?_
  refine s_val (v_load1 rfl (sc rfl) (by first | exact hP19.cell _ rfl | exact hX19.blk.cell _ rfl | assumption)) rfl ?_
  refine s_val (v_move rfl) rfl ?_
  refine s_op (o_copy (i := 0) rt24 rfl rfl rfl hX19.opad hrd19 (fun _ => rfl) (by simp [zeros]; omega)) rfl rfl ?_
  rintro _ w20 hw20 ⟨_, ho20⟩
  rw [splC_bytes, spl_zeros _ _ hsk, ← hKe] at ho20
  have hX20 := hX19.setO hw20 ho20
  have hP20 := hP19.only hw20 hPo
  have hz20 := hz19.trans_new hw20 hnewo
  clear hX18 hX19 hP18 hP19
  refine s_nil (p_then ?_)
  refine t_cut (fun _ : Unit => [(5, .ex (pt w1.heap.size 0)), (7, .ex (I (HK.block H)))]) (fun _ w' => Only [] w w' ∧ HmPre H w' q key.length K (K.map (· ^^^ 0x36)) [] ∧ Blk w' w1.heap.size 110 #[pt q.m 0]) ?_ ?_
  · repeat (first | refine t_seq ?_ | refine t_region ?_ | refine s_nil ?_ | refine p_then ?_ | refine t_ret ?_ | refine p_then_ret ?_ | refine p_block_ret ?_ | refine t_block ?_ | refine t_exit ?_ | refine p_then_exit ?_ | refine p_block_exit ?_ | refine p_block ?_ | refine t_skip ?_)
    refine s_val (v_load1 rfl (sc rfl) (by first | exact hP20.cell _ rfl | exact hX20.blk.cell _ rfl | assumption)) rfl ?_
    first | refine s_val (v_nilCheck rfl) rfl ?_ | refine s_val (v_nilCheck_iface rfl) rfl ?_
    refine s_val (v_fieldAddr rfl (fo rfl)) rfl ?_
    refine s_val (v_load1 rfl (sc rfl) (by first | exact hP20.cell _ rfl | exact hX20.blk.cell _ rfl | assumption)) rfl ?_
    refine s_val (v_len rfl (so rfl) rfl) rfl ?_
    refine s_val (v_move rfl) rfl ?_
    repeat (first | refine t_seq ?_ | refine t_region ?_ | refine s_nil ?_ | refine p_then ?_ | refine t_ret ?_ | refine p_then_ret ?_ | refine p_block_ret ?_ | refine t_block ?_ | refine t_exit ?_ | refine p_then_exit ?_ | refine p_block_exit ?_ | refine p_block ?_ | refine t_skip ?_)
    refine t_loop (fun k : Nat => [(76, .ex (I k)), (75, .ex (I (HK.block H))), (5, .ex (pt w1.heap.size 0)), (7, .ex (I (HK.block H)))])
      (fun k w' => k ≤ HK.block H ∧ Only [] w w' ∧ HmPre H w' q key.length K (spl K 0 ((K.map (· ^^^ 0x36)).take k)) [] ∧ Blk w' w1.heap.size 110 #[pt q.m 0]) (fun k => HK.block H - k) 0 ⟨rfl, rfl, rfl, rfl, trivial⟩
      ⟨by omega, hz20, by simpa [spl_nil] using hX20, hP20⟩ ?_
    clear hX20 hP20
    rintro k w21 ⟨hk, hz21, hX21, hP21⟩
    repeat (first | refine t_seq ?_ | refine t_region ?_ | refine s_nil ?_ | refine p_then ?_ | refine t_ret ?_ | refine p_then_ret ?_ | refine p_block_ret ?_ | refine t_block ?_ | refine t_exit ?_ | refine p_then_exit ?_ | refine p_block_exit ?_ | refine p_block ?_ | refine t_skip ?_)
    refine s_val (v_ltI rfl rfl) rfl ?_
    repeat (first | refine t_seq ?_ | refine t_region ?_ | refine s_nil ?_ | refine p_then ?_ | refine t_ret ?_ | refine p_then_ret ?_ | refine p_block_ret ?_ | refine t_block ?_ | refine t_exit ?_ | refine p_then_exit ?_ | refine p_block_exit ?_ | refine p_block ?_ | refine t_skip ?_)
    refine t_if rfl (fun hb => ?_) (fun hb => ?_)
    · have hk' : k < HK.block H := by have := of_decide_eq_true hb; omega
      have hml : 0 + ((K.map (· ^^^ (0x36 : UInt8))).take k).length ≤ K.length := by simp; omega
      have hsl' := spl_length hml
      have hval : (spl K 0 ((K.map (· ^^^ (0x36 : UInt8))).take k)).getD k 0 = K.getD k 0 := spl_at K _ k (by omega) (by simp)
      repeat (first | refine t_seq ?_ | refine t_region ?_ | refine s_nil ?_ | refine p_then ?_ | refine t_ret ?_ | refine p_then_ret ?_ | refine p_block_ret ?_ | refine t_block ?_ | refine t_exit ?_ | refine p_then_exit ?_ | refine p_block_exit ?_ | refine p_block ?_ | refine t_skip ?_)
      refine s_val (v_move rfl) rfl ?_
      refine s_val (v_assign rfl) rfl ?_
      repeat (first | refine t_seq ?_ | refine t_region ?_ | refine s_nil ?_ | refine p_then ?_ | refine t_ret ?_ | refine p_then_ret ?_ | refine p_block_ret ?_ | refine t_block ?_ | refine t_exit ?_ | refine p_then_exit ?_ | refine p_block_exit ?_ | refine p_block ?_ | refine t_skip ?_)
      refine s_val (v_load1 rfl (sc rfl) (by first | exact hP21.cell _ rfl | exact hX21.blk.cell _ rfl | exact hX21.ipad.byte0 (by omega) | assumption)) rfl ?_
      first | refine s_val (v_nilCheck rfl) rfl ?_ | refine s_val (v_nilCheck_iface rfl) rfl ?_
      refine s_val (v_fieldAddr rfl (fo rfl)) rfl ?_
      refine s_val (v_load1 rfl (sc rfl) (by first | exact hP21.cell _ rfl | exact hX21.blk.cell _ rfl | exact hX21.ipad.byte0 (by omega) | assumption)) rfl ?_
      refine s_val (v_move rfl) rfl ?_
      refine s_val (v_indexSlice rfl rfl (so rfl) (by omega)) rfl ?_
      refine s_val (v_load1 rfl (sc rfl) (by first | exact hP21.cell _ rfl | exact hX21.blk.cell _ rfl | exact hX21.ipad.byte0 (by omega) | assumption)) rfl ?_
      refine s_val (v_xorB rfl (opb rfl)) rfl ?_
      refine s_val (v_indexSlice rfl rfl (so rfl) (by omega)) rfl ?_
      refine s_storeB rfl rfl (si rfl) hX21.ipad (by omega) rfl (fun w22 hw22 hi22 => ?_)
      rw [hval, spl_set (b := K.getD k 0 ^^^ UInt8.ofNat 54) (by simp [hKl]) (map_get K 0x36 k (by omega))] at hi22
      repeat (first | refine t_seq ?_ | refine t_region ?_ | refine s_nil ?_ | refine p_then ?_ | refine t_ret ?_ | refine p_then_ret ?_ | refine p_block_ret ?_ | refine t_block ?_ | refine t_exit ?_ | refine p_then_exit ?_ | refine p_block_exit ?_ | refine p_block ?_ | refine t_skip ?_)
      refine s_val (v_addI rfl opc (by omega)) rfl ?_
      refine s_val (v_move rfl) rfl ?_
      repeat (first | refine t_seq ?_ | refine t_region ?_ | refine s_nil ?_ | refine p_then ?_ | refine t_ret ?_ | refine p_then_ret ?_ | refine p_block_ret ?_ | refine t_block ?_ | refine t_exit ?_ | refine p_then_exit ?_ | refine p_block_exit ?_ | refine p_block ?_ | refine t_skip ?_)
      exact p_round (k + 1) (Nat.sub_lt_sub_left hk' (Nat.lt_succ_self k)) ⟨rfl, rfl, rfl, rfl, trivial⟩ ⟨by omega, hz21.trans_new hw22 hnewi, hX21.setI hw22 hi22, hP21.only hw22 hPi⟩
    · have hk' : k = HK.block H := by have := of_decide_eq_false hb; omega
      subst hk'
      rw [List.take_of_length_le (by rw [List.length_map]; exact Nat.le_of_eq hKl), spl_all (by simp)] at hX21
      repeat (first | refine t_seq ?_ | refine t_region ?_ | refine s_nil ?_ | refine p_then ?_ | refine t_ret ?_ | refine p_then_ret ?_ | refine p_block_ret ?_ | refine t_block ?_ | refine t_exit ?_ | refine p_then_exit ?_ | refine p_block_exit ?_ | refine p_block ?_ | refine t_skip ?_)
      exact p_cut () ⟨rfl, rfl, trivial⟩ ⟨hz21, hX21, hP21⟩
  clear hX20 hP20 hz20
  rintro _ w20 ⟨hz20, hX20, hP20⟩
  refine t_cut (fun _ : Unit => [(5, .ex (pt w1.heap.size 0)), (7, .ex (I (HK.block H)))]) (fun _ w' => Only [] w w' ∧ HmPre H w' q key.length (K.map (· ^^^ 0x5c)) (K.map (· ^^^ 0x36)) [] ∧ Blk w' w1.heap.size 110 #[pt q.m 0]) ?_ ?_
  · repeat (first | refine t_seq ?_ | refine t_region ?_ | refine s_nil ?_ | refine p_then ?_ | refine t_ret ?_ | refine p_then_ret ?_ | refine p_block_ret ?_ | refine t_block ?_ | refine t_exit ?_ | refine p_then_exit ?_ | refine p_block_exit ?_ | refine p_block ?_ | refine t_skip ?_)
    refine s_val (v_load1 rfl (sc rfl) (by first | exact hP20.cell _ rfl | exact hX20.blk.cell _ rfl | assumption)) rfl ?_
    first | refine s_val (v_nilCheck rfl) rfl ?_ | refine s_val (v_nilCheck_iface rfl) rfl ?_
    refine s_val (v_fieldAddr rfl (fo rfl)) rfl ?_
    refine s_val (v_load1 rfl (sc rfl) (by first | exact hP20.cell _ rfl | exact hX20.blk.cell _ rfl | assumption)) rfl ?_
    refine s_val (v_len rfl (so rfl) rfl) rfl ?_
    refine s_val (v_move rfl) rfl ?_
    repeat (first | refine t_seq ?_ | refine t_region ?_ | refine s_nil ?_ | refine p_then ?_ | refine t_ret ?_ | refine p_then_ret ?_ | refine p_block_ret ?_ | refine t_block ?_ | refine t_exit ?_ | refine p_then_exit ?_ | refine p_block_exit ?_ | refine p_block ?_ | refine t_skip ?_)
    refine t_loop (fun k : Nat => [(94, .ex (I k)), (93, .ex (I (HK.block H))), (5, .ex (pt w1.heap.size 0)), (7, .ex (I (HK.block H)))])
      (fun k w' => k ≤ HK.block H ∧ Only [] w w' ∧ HmPre H w' q key.length (spl K 0 ((K.map (· ^^^ 0x5c)).take k)) (K.map (· ^^^ 0x36)) [] ∧ Blk w' w1.heap.size 110 #[pt q.m 0]) (fun k => HK.block H - k) 0 ⟨rfl, rfl, rfl, rfl, trivial⟩
      ⟨by omega, hz20, by simpa [spl_nil] using hX20, hP20⟩ ?_
    clear hX20 hP20
    rintro k w21 ⟨hk, hz21, hX21, hP21⟩
    repeat (first | refine t_seq ?_ | refine t_region ?_ | refine s_nil ?_ | refine p_then ?_ | refine t_ret ?_ | refine p_then_ret ?_ | refine p_block_ret ?_ | refine t_block ?_ | refine t_exit ?_ | refine p_then_exit ?_ | refine p_block_exit ?_ | refine p_block ?_ | refine t_skip ?_)
    refine s_val (v_ltI rfl rfl) rfl ?_
    repeat (first | refine t_seq ?_ | refine t_region ?_ | refine s_nil ?_ | refine p_then ?_ | refine t_ret ?_ | refine p_then_ret ?_ | refine p_block_ret ?_ | refine t_block ?_ | refine t_exit ?_ | refine p_then_exit ?_ | refine p_block_exit ?_ | refine p_block ?_ | refine t_skip ?_)
    refine t_if rfl (fun hb => ?_) (fun hb => ?_)
    · have hk' : k < HK.block H := by have := of_decide_eq_true hb; omega
      have hml : 0 + ((K.map (· ^^^ (0x5c : UInt8))).take k).length ≤ K.length := by simp; omega
      have hsl' := spl_length hml
      have hval : (spl K 0 ((K.map (· ^^^ (0x5c : UInt8))).take k)).getD k 0 = K.getD k 0 := spl_at K _ k (by omega) (by simp)
      repeat (first | refine t_seq ?_ | refine t_region ?_ | refine s_nil ?_ | refine p_then ?_ | refine t_ret ?_ | refine p_then_ret ?_ | refine p_block_ret ?_ | refine t_block ?_ | refine t_exit ?_ | refine p_then_exit ?_ | refine p_block_exit ?_ | refine p_block ?_ | refine t_skip ?_)
      refine s_val (v_move rfl) rfl ?_
      refine s_val (v_assign rfl) rfl ?_
      repeat (first | refine t_seq ?_ | refine t_region ?_ | refine s_nil ?_ | refine p_then ?_ | refine t_ret ?_ | refine p_then_ret ?_ | refine p_block_ret ?_ | refine t_block ?_ | refine t_exit ?_ | refine p_then_exit ?_ | refine p_block_exit ?_ | refine p_block ?_ | refine t_skip ?_)
      refine s_val (v_load1 rfl (sc rfl) (by first | exact hP21.cell _ rfl | exact hX21.blk.cell _ rfl | exact hX21.opad.byte0 (by omega) | assumption)) rfl ?_
      first | refine s_val (v_nilCheck rfl) rfl ?_ | refine s_val (v_nilCheck_iface rfl) rfl ?_
      refine s_val (v_fieldAddr rfl (fo rfl)) rfl ?_
      refine s_val (v_load1 rfl (sc rfl) (by first | exact hP21.cell _ rfl | exact hX21.blk.cell _ rfl | exact hX21.opad.byte0 (by omega) | assumption)) rfl ?_
      refine s_val (v_move rfl) rfl ?_
      refine s_val (v_indexSlice rfl rfl (so rfl) (by omega)) rfl ?_
      refine s_val (v_load1 rfl (sc rfl) (by first | exact hP21.cell _ rfl | exact hX21.blk.cell _ rfl | exact hX21.opad.byte0 (by omega) | assumption)) rfl ?_
      refine s_val (v_xorB rfl (opb rfl)) rfl ?_
      refine s_val (v_indexSlice rfl rfl (so rfl) (by omega)) rfl ?_
      refine s_storeB rfl rfl (si rfl) hX21.opad (by omega) rfl (fun w22 hw22 hi22 => ?_)
      rw [hval, spl_set (b := K.getD k 0 ^^^ UInt8.ofNat 92) (by simp [hKl]) (map_get K 0x5c k (by omega))] at hi22
      repeat (first | refine t_seq ?_ | refine t_region ?_ | refine s_nil ?_ | refine p_then ?_ | refine t_ret ?_ | refine p_then_ret ?_ | refine p_block_ret ?_ | refine t_block ?_ | refine t_exit ?_ | refine p_then_exit ?_ | refine p_block_exit ?_ | refine p_block ?_ | refine t_skip ?_)
      refine s_val (v_addI rfl opc (by omega)) rfl ?_
      refine s_val (v_move rfl) rfl ?_
      repeat (first | refine t_seq ?_ | refine t_region ?_ | refine s_nil ?_ | refine p_then ?_ | refine t_ret ?_ | refine p_then_ret ?_ | refine p_block_ret ?_ | refine t_block ?_ | refine t_exit ?_ | refine p_then_exit ?_ | refine p_block_exit ?_ | refine p_block ?_ | refine t_skip ?_)
      exact p_round (k + 1) (Nat.sub_lt_sub_left hk' (Nat.lt_succ_self k)) ⟨rfl, rfl, rfl, rfl, trivial⟩ ⟨by omega, hz21.trans_new hw22 hnewo, hX21.setO hw22 hi22, hP21.only hw22 hPo⟩
    · have hk' : k = HK.block H := by have := of_decide_eq_false hb; omega
      subst hk'
      rw [List.take_of_length_le (by rw [List.length_map]; exact Nat.le_of_eq hKl), spl_all (by simp)] at hX21
      repeat (first | refine t_seq ?_ | refine t_region ?_ | refine s_nil ?_ | refine p_then ?_ | refine t_ret ?_ | refine p_then_ret ?_ | refine p_block_ret ?_ | refine t_block ?_ | refine t_exit ?_ | refine p_then_exit ?_ | refine p_block_exit ?_ | refine p_block ?_ | refine t_skip ?_)
      exact p_cut () ⟨rfl, rfl, trivial⟩ ⟨hz21, hX21, hP21⟩
  clear hX20 hP20 hz20
  rintro _ w23 ⟨hz23, hX23, hP23⟩
  have hp1 : K.map (· ^^^ 0x36) = padded H key 0x36 := by rw [hKe, padded_eq]
  have hp2 : K.map (· ^^^ 0x5c) = padded H key 0x5c := by rw [hKe, padded_eq]
  rw [hp1, hp2] at hX23
  have hpl := padded_length hH key 0x36
  repeat (first | refine t_seq ?_ | refine t_region ?_ | refine s_nil ?_ | refine p_then ?_ | refine t_ret ?_ | refine p_then_ret ?_ | refine p_block_ret ?_ | refine t_block ?_ | refine t_exit ?_ | refine p_then_exit ?_ | refine p_block_exit ?_ | refine p_block ?_ | refine t_skip ?_)
  refine t_drawO 10 (by kernel_rfl) rfl ?_
  refine fk_val (Only.refl _) (fun wF hR => v_load1 rfl (sc rfl) (by first | exact (hP23.only hR (by simp)).cell _ rfl | exact (hX23.blk.only hR (by simp)).cell _ rfl | assumption)) ?_
  first | refine fk_val (Only.refl _) (fun wF hR => v_nilCheck rfl) ?_ | refine fk_val (Only.refl _) (fun wF hR => v_nilCheck_iface rfl) ?_
  refine fk_val (Only.refl _) (fun wF hR => v_fieldAddr rfl (fo rfl)) ?_
  refine fk_val (Only.refl _) (fun wF hR => v_load1 rfl (sc rfl) (by first | exact (hP23.only hR (by simp)).cell _ rfl | exact (hX23.blk.only hR (by simp)).cell _ rfl | assumption)) ?_
  refine fk_val (Only.refl _) (fun wF hR => v_load1 rfl (sc rfl) (by first | exact (hP23.only hR (by simp)).cell _ rfl | exact (hX23.blk.only hR (by simp)).cell _ rfl | assumption)) ?_
  first | refine fk_val (Only.refl _) (fun wF hR => v_nilCheck rfl) ?_ | refine fk_val (Only.refl _) (fun wF hR => v_nilCheck_iface rfl) ?_
  refine fk_val (Only.refl _) (fun wF hR => v_fieldAddr rfl (fo rfl)) ?_
  refine fk_val (Only.refl _) (fun wF hR => v_load1 rfl (sc rfl) (by first | exact (hP23.only hR (by simp)).cell _ rfl | exact (hX23.blk.only hR (by simp)).cell _ rfl | assumption)) ?_
  first | refine fk_val (Only.refl _) (fun wF hR => v_nilCheck rfl) ?_ | refine fk_val (Only.refl _) (fun wF hR => v_nilCheck_iface rfl) ?_
  refine fk_val (Only.refl _) (fun wF hR => v_move rfl) ?_
  refine fk_nil (fun w24 hw24 => ?_)
  have hX24 := hX23.only hw24 (by simp)
  have hP24 := hP23.only hw24 (by simp)
  have hz24 := hz23.trans hw24
  have hcall := hWrite (c := HK.block H) hH hX24.inner hX24.ipad.rd0 (fun _ => Off.pt hX24.nots.2.2.1.2.2) (by omega) (by simp; omega) (hK.only hz24 (by simp)) h0I
  rw [hpl] at hcall
  refine s_op (o_invoke rfl rfl (HK.mew H _ _) (HK.enw H) hcall) rfl rfl ?_
  rintro _ w25 hw25 ⟨rfl, hI25⟩
  rw [List.nil_append] at hI25
  have hP25 := hP24.only hw25 (fun hk => hPne (hI0 _ hk))
  repeat (first | refine t_seq ?_ | refine t_region ?_ | refine s_nil ?_ | refine p_then ?_ | refine t_ret ?_ | refine p_then_ret ?_ | refine p_block_ret ?_ | refine t_block ?_ | refine t_exit ?_ | refine p_then_exit ?_ | refine p_block_exit ?_ | refine p_block ?_ | refine t_skip ?_)
  refine s_val (v_load1 rfl (sc rfl) (by first | exact hP25.cell _ rfl | assumption)) rfl ?_
  refine s_val (v_assign rfl) rfl ?_
  repeat (first | refine t_seq ?_ | refine t_region ?_ | refine s_nil ?_ | refine p_then ?_ | refine t_ret ?_ | refine p_then_ret ?_ | refine p_block_ret ?_ | refine t_block ?_ | refine t_exit ?_ | refine p_then_exit ?_ | refine p_block_exit ?_ | refine p_block ?_ | refine t_skip ?_)
  exact ret1 rfl rfl ⟨_, rfl, hz24.trans_new hw25 (fun k hk => .inr (hbase k (hI0 k hk)).1), q, rfl, hX24.done hw25 hI25, fun k hk => by rw [hq0]; exact (hbase k hk).1⟩
end Go.Proofs.YtnaefgnjdmmmcaaGreatDoor
