/-
  What is proved here, of the given program in the given model, of every input, with no condition but those that each theorem states ahead of its conclusion: Words for hkdf.Expand and Extract. hkdf.Expand in the program, at one of its instances. hkdf.Expand in the program, at one of its instances. hkdf.Expand in the program, at one of its instances. hkdf.Extract and tls13's extract in the program, at one of their instances. hkdf.Extract and tls13's extract in the program, at one of their instances. hkdf.Extract and tls13's extract in the program, at one of their instances. Words for tls13.ExpandLabel; beAppendUint16.
-/
import Derived.Test.YtnaefgnjdmmmcaaGreatDoorM04
import Derived.Test.YtnaefgnjdmmmcaaGreatDoorM05
/- Words for hkdf.Expand and Extract. -/
namespace Go.Proofs.YtnaefgnjdmmmcaaGreatDoor
open Go.RowKit
/-- A new row of bytes. -/
def Fresh (w : World) (l : Bytes) : Pred := fun v w' => Own w' v l ∧ From w.heap.size v
theorem c91g {H : HK} (hH : H.ok) (hns : H ≠ .sha) {w : World} {q : HP} {key data : Bytes} {kdf : Bool} {n : Nat} (h : HmacAt H w q key data kdf n) (hK : KT w) (h0 : 0 ∉ q.fI) :
    Calls Tryz.prog 91 #[pt q.m 0] w (Ret q.fI w fun _ w' => HmacAt H w' q key [] kdf n) := by
  cases H with
  | sha => exact absurd rfl hns
  | own s b => exact c91 hH h hK h0
theorem once {H : HK} {i n : Nat} (h1 : 1 ≤ i) (h2 : i * H.size < n) (hn : n ≤ 32) : H ≠ .sha := by
  rintro rfl
  simp only [HK.size] at h2; omega
theorem Own.zero {w : World} {g c : Nat} {cs : Array Value} (h : Blk w g 5 cs) (hc : cs.size = c) (hm : c ≤ maxLen) : Own w (.slice (some ⟨g, 0, none⟩) 0 c) [] :=
  ⟨by simp, .inr ⟨g, c, cs, rfl, Nat.zero_le _, h, Nat.zero_le _, hm, by simpa using hc, by simp⟩⟩
theorem tees_succ (H : HK) (prk info : Bytes) (i n : Nat) (h : i * H.size < n) : (tees H prk info (i + 1)).take n = tees H prk info i ++ (tee H prk info (i + 1)).take (n - i * H.size) := by
  rw [tees, List.take_append, tees_length, List.take_of_length_le (by rw [tees_length]; omega)]
theorem of_own {v : Value} {k : Nat} (h : k ∈ v.ownBlock.toList) : v.ownBlock = some k := Option.mem_toList.1 h
structure ES where
  i : Nat
  o : Value
  b : Value
  data : Bytes
/-- Two rows share no block. -/
def Apart (u v : Value) : Prop := ∀ k, u.ownBlock = some k → v.ownBlock ≠ some k
theorem Apart.nots {u v : Value} (h : Apart u v) : Nots u v.ownBlock.toList := fun k hk hm => by simp at hm; exact h k hk hm
theorem Apart.symm {u v : Value} (h : Apart u v) : Apart v u := fun k hk hm => h k hm hk
theorem ofNat_succ (i : Nat) : UInt8.ofNat i + UInt8.ofNat 1 = UInt8.ofNat (i + 1) := by
  apply UInt8.toNat_inj.1
  simp only [UInt8.toNat_add, UInt8.toNat_ofNat']
  omega
theorem toNat_ofNat_lt {i : Nat} (h : i < 256) : (UInt8.ofNat i).toNat = i := by rw [UInt8.toNat_ofNat']; omega
end Go.Proofs.YtnaefgnjdmmmcaaGreatDoor
/- hkdf.Expand in the program, at one of its instances. -/
namespace Go.Proofs.YtnaefgnjdmmmcaaGreatDoor
open Go.RowKit
attribute [local irreducible] ValAt OpAt RunX Tr Post FlowK

set_option maxHeartbeats 1000000 in
/-- hkdf.Expand -/
theorem c76  (hH : HK.sha.ok) (h : Value) (A : Option Addr) (c : Nat) (prk info : Bytes) (n : Nat) (w : World) (hm : Mk HK.sha h) (hp : Rd w A prk) (hc : prk.length ≤ c) (hl : prk.length ≤ 60000) (hi : info.length ≤ 20000) (hn : n ≤ 32) (hK : KT w) (hw0 : 0 < w.heap.size) :
    Calls Tryz.prog 76 #[h, .slice A prk.length c, S info, I n] w (Ret [] w (Fresh w (expand HK.sha prk info n))) := by
  have hsl := HK.size_le hH
  have hsp := HK.size_pos hH
  refine enter (Γ := [(0, .ex h), (1, .ex (.slice A prk.length c)), (2, .ex (S info)), (3, .ex (I n))]) Tryz.func76 rfl rfl rfl ⟨⟨_, rfl, rfl⟩, ⟨_, rfl, rfl⟩, ⟨_, rfl, rfl⟩, ⟨_, rfl, rfl⟩, trivial⟩ ?_
  repeat (first | refine t_seq ?_ | refine t_region ?_ | refine s_nil ?_ | refine p_then ?_ | refine t_ret ?_ | refine p_then_ret ?_ | refine p_block_ret ?_ | refine t_block ?_ | refine t_exit ?_ | refine p_then_exit ?_ | refine p_block_exit ?_ | refine p_block ?_ | refine t_skip ?_)
  refine s_val (v_assign rfl) rfl ?_
  repeat (first | refine t_seq ?_ | refine t_region ?_ | refine s_nil ?_ | refine p_then ?_ | refine t_ret ?_ | refine p_then_ret ?_ | refine p_block_ret ?_ | refine t_block ?_ | refine t_exit ?_ | refine p_then_exit ?_ | refine p_block_exit ?_ | refine p_block ?_ | refine t_skip ?_)
  refine s_val (v_move rfl) rfl ?_
  refine s_op (o_makeSlice (n := 0) rt24 rfl rfl (by omega) (by omega) (by omega)) rfl rfl ?_
  rintro _ w1 hw1 ⟨rfl, hB1⟩
  refine s_val (v_assign rfl) rfl ?_
  repeat (first | refine t_seq ?_ | refine t_region ?_ | refine s_nil ?_ | refine p_then ?_ | refine t_ret ?_ | refine p_then_ret ?_ | refine p_block_ret ?_ | refine t_block ?_ | refine t_exit ?_ | refine p_then_exit ?_ | refine p_block_exit ?_ | refine p_block ?_ | refine t_skip ?_)
  refine s_val (v_move rfl) rfl ?_
  refine s_val (v_move rfl) rfl ?_
  refine s_op (o_call rfl (en rfl) (c90  hH h A c prk w1 hm (hp.pure hw1) hc hl (hK.only hw1 (by simp)) (by have := hw1.size; omega))) rfl rfl ?_
  rintro _ w2 hw2 ⟨q, rfl, hM2, hq⟩
  refine s_val (v_assign rfl) rfl ?_
  have hs1 := hB1.lt
  have hs2 := hw2.size
  have hz2 : Only [] w w2 := hw1.trans hw2
  have hqw : ∀ k ∈ q.fp, w.heap.size ≤ k := fun k hk => by have := hq k hk; omega
  have h00 : 0 ∉ q.fI := fun hk => by have := hqw 0 (by simp [HP.fp, hk]); omega
  have h0O : 0 ∉ q.fO := fun hk => by have := hqw 0 (by simp [HP.fp, hk]); omega
  have hown0 : Own w2 (.slice (some ⟨w.heap.size, 0, none⟩) 0 n) [] := Own.zero (c := n) (hB1.only hw2 (by simp)) (by simp) (by simp only [maxLen]; omega)
  have hfrom0 : From w.heap.size (.slice (some ⟨w.heap.size, 0, none⟩) 0 n) := fun k hk => by
    cases hk; exact Nat.le_refl _
  have hnots0 : Nots (.slice (some ⟨w.heap.size, 0, none⟩) 0 n) q.fp := fun k hk hm => by
    cases hk
    have h2 : w1.heap.size ≤ w.heap.size := hq _ hm
    omega
  have hapart0 : Apart (.slice (some ⟨w.heap.size, 0, none⟩) 0 n) (.slice none 0 0) := fun k _ e => by cases e
  repeat (first | refine t_seq ?_ | refine t_region ?_ | refine s_nil ?_ | refine p_then ?_ | refine t_ret ?_ | refine p_then_ret ?_ | refine p_block_ret ?_ | refine t_block ?_ | refine t_exit ?_ | refine p_then_exit ?_ | refine p_block_exit ?_ | refine p_block ?_ | refine t_skip ?_)
  refine s_val (v_assign rfl) rfl ?_
  repeat (first | refine t_seq ?_ | refine t_region ?_ | refine s_nil ?_ | refine p_then ?_ | refine t_ret ?_ | refine p_then_ret ?_ | refine p_block_ret ?_ | refine t_block ?_ | refine t_exit ?_ | refine p_then_exit ?_ | refine p_block_exit ?_ | refine p_block ?_ | refine t_skip ?_)
  refine s_val (v_assign rfl) rfl ?_
  refine s_nil (p_then ?_)
  refine t_cut (fun v : Value => [(9, .ex v)]) (fun v w' => Only [] w w' ∧ Fresh w (expand HK.sha prk info n) v w') ?_ ?_
  · repeat (first | refine t_seq ?_ | refine t_region ?_ | refine s_nil ?_ | refine p_then ?_ | refine t_ret ?_ | refine p_then_ret ?_ | refine p_block_ret ?_ | refine t_block ?_ | refine t_exit ?_ | refine p_then_exit ?_ | refine p_block_exit ?_ | refine p_block ?_ | refine t_skip ?_)
    refine t_loop (fun s : ES => [(9, .ex s.o), (10, .ex (pt q.m 0)), (11, .ex (B (UInt8.ofNat s.i))), (12, .ex s.b), (2, .ex (S info)), (3, .ex (I n))])
      (fun s w' => Only [] w w' ∧ Own w' s.o ((tees HK.sha prk info s.i).take n) ∧ From w.heap.size s.o ∧ Nots s.o q.fp ∧ Own w' s.b (tee HK.sha prk info s.i) ∧ From w.heap.size s.b ∧ Nots s.b q.fp ∧ Apart s.o s.b ∧ s.i ≤ 32 ∧ (s.i = 0 → s.data = []) ∧ s.data.length ≤ 60000 ∧ HmacAt HK.sha w' q prk s.data false prk.length)
      (fun s => n - s.i * HK.sha.size) ⟨0, .slice (some ⟨w.heap.size, 0, none⟩) 0 n, .slice none 0 0, []⟩ ⟨rfl, rfl, rfl, rfl, rfl, rfl, trivial⟩
      ⟨hz2, by simpa [tees] using hown0, hfrom0, hnots0, Own.nil _, From.nil _, Nots.nil _, hapart0, by simp, fun _ => rfl, by simp, hM2⟩ ?_
    clear hB1 hw1 hw2 hz2 hM2 hown0 hfrom0 hnots0 hapart0
    rintro ⟨i, o, b, data⟩ w3 ⟨hz3, ho3, hof, hoq, hb3, hbf, hbq, hap, hi32, hd0, hdl, hM3⟩
    simp only at ho3 hof hoq hb3 hbf hbq hap hi32 hd0 hdl hM3
    obtain ⟨Ao, co, rfl, hco, hro, hfo⟩ := ho3.slice
    have hol : ((tees HK.sha prk info i).take n).length = min n (i * HK.sha.size) := by rw [List.length_take, tees_length]
    refine t_weak [(9, .ex (.slice Ao ((tees HK.sha prk info i).take n).length co)), (10, .ex (pt q.m 0)), (11, .ex (B (UInt8.ofNat i))), (12, .ex b), (2, .ex (S info)), (3, .ex (I n))] ⟨rfl, rfl, rfl, rfl, rfl, rfl, trivial⟩ ?_
    repeat (first | refine t_seq ?_ | refine t_region ?_ | refine s_nil ?_ | refine p_then ?_ | refine t_ret ?_ | refine p_then_ret ?_ | refine p_block_ret ?_ | refine t_block ?_ | refine t_exit ?_ | refine p_then_exit ?_ | refine p_block_exit ?_ | refine p_block ?_ | refine t_skip ?_)
    refine s_val (v_move rfl) rfl ?_
    refine s_val (v_len rfl (so rfl) rfl) rfl ?_
    refine s_val (v_move rfl) rfl ?_
    refine s_val (v_ltI rfl rfl) rfl ?_
    repeat (first | refine t_seq ?_ | refine t_region ?_ | refine s_nil ?_ | refine p_then ?_ | refine t_ret ?_ | refine p_then_ret ?_ | refine p_block_ret ?_ | refine t_block ?_ | refine t_exit ?_ | refine p_then_exit ?_ | refine p_block_exit ?_ | refine p_block ?_ | refine t_skip ?_)
    refine t_if rfl (fun hb => ?_) (fun hb => ?_)
    · have hin : i * HK.sha.size < n := by have := of_decide_eq_true hb; omega
      clear hb
      have hi31 : i < 32 := by
        rcases Nat.lt_or_ge i 32 with h | h
        · exact h
        · have := Nat.le_mul_of_pos_right i hsp; omega
      have htee : (tee HK.sha prk info i).length ≤ 32 := by
        cases i with
        | zero => simp [tee]
        | succ j => rw [tee_length]; exact hsl
      repeat (first | refine t_seq ?_ | refine t_region ?_ | refine s_nil ?_ | refine p_then ?_ | refine t_ret ?_ | refine p_then_ret ?_ | refine p_block_ret ?_ | refine t_block ?_ | refine t_exit ?_ | refine p_then_exit ?_ | refine p_block_exit ?_ | refine p_block ?_ | refine t_skip ?_)
      refine s_val (v_move rfl) rfl ?_
      refine s_val (v_addB rfl (opb rfl)) rfl ?_
      refine s_val (v_assign rfl) rfl ?_
      rw [ofNat_succ]
      repeat (first | refine t_seq ?_ | refine t_region ?_ | refine s_nil ?_ | refine p_then ?_ | refine t_ret ?_ | refine p_then_ret ?_ | refine p_block_ret ?_ | refine t_block ?_ | refine t_exit ?_ | refine p_then_exit ?_ | refine p_block_exit ?_ | refine p_block ?_ | refine t_skip ?_)
      refine s_val (v_move rfl) rfl ?_
      refine s_val (v_eqI rfl rfl) rfl ?_
      repeat (first | refine t_seq ?_ | refine t_region ?_ | refine s_nil ?_ | refine p_then ?_ | refine t_ret ?_ | refine p_then_ret ?_ | refine p_block_ret ?_ | refine t_block ?_ | refine t_exit ?_ | refine p_then_exit ?_ | refine p_block_exit ?_ | refine p_block ?_ | refine t_skip ?_)
      refine t_if rfl (fun hb => ?_) (fun hb => ?_)
      · exfalso
        have := eq_of_beq hb
        rw [toNat_ofNat_lt (by omega)] at this
        omega
      clear hb
      refine t_skip (p_then ?_)
      refine t_cut (fun _ : Unit => [(9, .ex (.slice Ao ((tees HK.sha prk info i).take n).length co)), (10, .ex (pt q.m 0)), (11, .ex (B (UInt8.ofNat (i + 1)))), (12, .ex b), (2, .ex (S info)), (3, .ex (I n))])
        (fun _ w' => Only q.fI w3 w' ∧ HmacAt HK.sha w' q prk [] false prk.length) ?_ ?_
      · repeat (first | refine t_seq ?_ | refine t_region ?_ | refine s_nil ?_ | refine p_then ?_ | refine t_ret ?_ | refine p_then_ret ?_ | refine p_block_ret ?_ | refine t_block ?_ | refine t_exit ?_ | refine p_then_exit ?_ | refine p_block_exit ?_ | refine p_block ?_ | refine t_skip ?_)
        refine s_val (v_move rfl) rfl ?_
        refine s_val (v_cmpK rfl rfl) rfl ?_
        repeat (first | refine t_seq ?_ | refine t_region ?_ | refine s_nil ?_ | refine p_then ?_ | refine t_ret ?_ | refine p_then_ret ?_ | refine p_block_ret ?_ | refine t_block ?_ | refine t_exit ?_ | refine p_then_exit ?_ | refine p_block_exit ?_ | refine p_block ?_ | refine t_skip ?_)
        refine t_if rfl (fun hb => ?_) (fun hb => ?_)
        · have hi1 : 1 ≤ i := by
            have := of_decide_eq_true hb
            rw [toNat_ofNat_lt (by omega)] at this
            omega
          repeat (first | refine t_seq ?_ | refine t_region ?_ | refine s_nil ?_ | refine p_then ?_ | refine t_ret ?_ | refine p_then_ret ?_ | refine p_block_ret ?_ | refine t_block ?_ | refine t_exit ?_ | refine p_then_exit ?_ | refine p_block_exit ?_ | refine p_block ?_ | refine t_skip ?_)
          refine s_val (v_move rfl) rfl ?_
          refine s_op (o_call rfl (en rfl) (c91g hH (once hi1 hin hn) hM3 (hK.only hz3 (by simp)) h00)) rfl rfl ?_
          rintro _ w4 hw4 hM4
          repeat (first | refine t_seq ?_ | refine t_region ?_ | refine s_nil ?_ | refine p_then ?_ | refine t_ret ?_ | refine p_then_ret ?_ | refine p_block_ret ?_ | refine t_block ?_ | refine t_exit ?_ | refine p_then_exit ?_ | refine p_block_exit ?_ | refine p_block ?_ | refine t_skip ?_)
          exact p_cut () ⟨rfl, rfl, rfl, rfl, rfl, rfl, trivial⟩ ⟨hw4, hM4⟩
        · have hi1 : i = 0 := by
            have := of_decide_eq_false hb
            rw [toNat_ofNat_lt (by omega)] at this
            omega
          rw [hd0 hi1] at hM3
          repeat (first | refine t_seq ?_ | refine t_region ?_ | refine s_nil ?_ | refine p_then ?_ | refine t_ret ?_ | refine p_then_ret ?_ | refine p_block_ret ?_ | refine t_block ?_ | refine t_exit ?_ | refine p_then_exit ?_ | refine p_block_exit ?_ | refine p_block ?_ | refine t_skip ?_)
          exact p_cut () ⟨rfl, rfl, rfl, rfl, rfl, rfl, trivial⟩ ⟨Only.refl _ _, hM3⟩
      clear hM3 hd0 hdl
      rintro _ w4 ⟨hw4, hM4⟩
      have hqI : ∀ k ∈ q.fI, k ∈ ([] : List Nat) ∨ w.heap.size ≤ k := fun k hk => .inr (hqw k (by simp [HP.fp, hk]))
      have hqO : ∀ k ∈ q.fO, k ∈ ([] : List Nat) ∨ w.heap.size ≤ k := fun k hk => .inr (hqw k (by simp [HP.fp, hk]))
      have hoI : Nots (.slice Ao ((tees HK.sha prk info i).take n).length co) q.fI := fun k hk hm => hoq k hk (by simp [HP.fp, hm])
      have hbI : Nots b q.fI := fun k hk hm => hbq k hk (by simp [HP.fp, hm])
      have ho4 := ho3.only hw4 hoI
      have hb4 := hb3.only hw4 hbI
      have hz4 : Only [] w w4 := hz3.trans_new hw4 hqI
      obtain ⟨Ab, cb, rfl, hcb, hrb, hfb⟩ := hb4.slice
      repeat (first | refine t_seq ?_ | refine t_region ?_ | refine s_nil ?_ | refine p_then ?_ | refine t_ret ?_ | refine p_then_ret ?_ | refine p_block_ret ?_ | refine t_block ?_ | refine t_exit ?_ | refine p_then_exit ?_ | refine p_block_exit ?_ | refine p_block ?_ | refine t_skip ?_)
      refine s_val (v_move rfl) rfl ?_
      refine s_val (v_move rfl) rfl ?_
      refine s_op (o_call rfl (en rfl) (c92 hH hM4 hrb (fun _ => hfb _ hbI) hcb (by simp; omega) (hK.only hz4 (by simp)) h00)) rfl rfl ?_
      rintro _ w5 hw5 hM5
      have ho5 := ho4.only hw5 hoI
      have hb5 := hb4.only hw5 hbI
      have hz5 : Only [] w w5 := hz4.trans_new hw5 hqI
      repeat (first | refine t_seq ?_ | refine t_region ?_ | refine s_nil ?_ | refine p_then ?_ | refine t_ret ?_ | refine p_then_ret ?_ | refine p_block_ret ?_ | refine t_block ?_ | refine t_exit ?_ | refine p_then_exit ?_ | refine p_block_exit ?_ | refine p_block ?_ | refine t_skip ?_)
      refine s_val (v_move rfl) rfl ?_
      refine s_val (v_move rfl) rfl ?_
      refine s_op (o_bytes rfl u9 Tryz.underlying24 u5) rfl rfl ?_
      rintro _ w6 hw6 ⟨c6, rfl, hc6, hr6, hlt6⟩
      refine s_op (o_call rfl (en rfl) (c92 hH (hM5.only hw6 (by simp)) hr6 (fun _ => Off.pt (fun hm => by have := hM5.lt _ (show w5.heap.size ∈ q.fp by simp [HP.fp, hm]); omega)) hc6 (by simp; omega) (hK.only (hz5.trans hw6) (by simp)) h00)) rfl rfl ?_
      rintro _ w7 hw7 hM7
      have ho7 := (ho5.only hw6 (by simp [Nots])).only hw7 hoI
      have hb7 := (hb5.only hw6 (by simp [Nots])).only hw7 hbI
      have hz7 : Only [] w w7 := (hz5.trans hw6).trans_new hw7 hqI
      repeat (first | refine t_seq ?_ | refine t_region ?_ | refine s_nil ?_ | refine p_then ?_ | refine t_ret ?_ | refine p_then_ret ?_ | refine p_block_ret ?_ | refine t_block ?_ | refine t_exit ?_ | refine p_then_exit ?_ | refine p_block_exit ?_ | refine p_block ?_ | refine t_skip ?_)
      refine s_val (v_move rfl) rfl ?_
      refine s_val (v_move rfl) rfl ?_
      refine s_op (o_buildSlice rt24 rfl rfl rfl (by show 0 < 1; decide) (by show 1 ≤ 16777216; decide) (by simp [Value.cells])) rfl rfl ?_
      rintro _ w8 hw8 ⟨rfl, hB8⟩
      refine s_op (o_call rfl (en rfl) (c92 (p := [UInt8.ofNat (i + 1)]) hH (hM7.only hw8 (by simp)) hB8.rd0 (fun _ => Off.pt (fun hm => by have := hM7.lt _ (show w7.heap.size ∈ q.fp by simp [HP.fp, hm]); omega)) (by simp) (by simp; omega) (hK.only (hz7.trans hw8) (by simp)) h00)) rfl rfl ?_
      rintro _ w9 hw9 hM9
      have ho9 := (ho7.only hw8 (by simp [Nots])).only hw9 hoI
      have hb9 := (hb7.only hw8 (by simp [Nots])).only hw9 hbI
      have hz9 : Only [] w w9 := (hz7.trans hw8).trans_new hw9 hqI
      have hbh : Own w9 (.slice Ab 0 cb) [] := Own.head' (l := []) hb9 rfl
      have hbs : (Value.slice Ab 0 cb).ownBlock = (Value.slice Ab (tee HK.sha prk info i).length cb).ownBlock := own_same _ _ _ _ _
      repeat (first | refine t_seq ?_ | refine t_region ?_ | refine s_nil ?_ | refine p_then ?_ | refine t_ret ?_ | refine p_then_ret ?_ | refine p_block_ret ?_ | refine t_block ?_ | refine t_exit ?_ | refine p_then_exit ?_ | refine p_block_exit ?_ | refine p_block ?_ | refine t_skip ?_)
      refine s_val (v_move rfl) rfl ?_
      refine s_val (v_move rfl) rfl ?_
      refine s_val (v_sliceHi rfl opc (so rfl) (by omega)) rfl ?_
      refine s_op (o_call rfl (en rfl) (c93 hH hM9 hbh (by unfold Nots; rw [hbs]; exact hbq) (by simp; omega) (by simp) (hK.only hz9 (by simp)) h0O (by unfold Nots; rw [hbs]; intro k hk hm; have := hbf k hk; simp at hm; omega))) rfl rfl ?_
      rintro vb w10 hw10 ⟨⟨hv10, hk10⟩, hM10⟩
      refine s_val (v_assign rfl) rfl ?_
      rw [hbs] at hw10 hk10
      have ho10 := ho9.only hw10 (fun k hk hm => by
        rcases List.mem_append.1 hm with hm | hm
        · exact hoq k hk (by simp [HP.fp, hm])
        · exact hap k hk (of_own hm))
      have hz10 : Only [] w w10 := hz9.trans_new hw10 (fun k hm => by
        rcases List.mem_append.1 hm with hm | hm
        · exact hqO k hm
        · exact .inr (hbf k (of_own hm)))
      rw [List.nil_append, List.nil_append] at hv10
      have hteq : mac HK.sha prk (tee HK.sha prk info i ++ info ++ [UInt8.ofNat (i + 1)]) = tee HK.sha prk info (i + 1) := rfl
      rw [hteq] at hv10
      have hvb : ∀ k, vb.ownBlock = some k → k ∉ (Value.slice Ao ((tees HK.sha prk info i).take n).length co).ownBlock.toList := fun k hk hm => by
        rcases hk10 k hk with e | e
        · exact hap k (of_own hm) e
        · have := ho9.lt (of_own hm); omega
      have hvq : Nots vb q.fp := fun k hk hm => by
        rcases hk10 k hk with e | e
        · exact hbq k e hm
        · have := hM9.lt k hm; omega
      have hvf : From w.heap.size vb := fun k hk => by
        rcases hk10 k hk with e | e
        · exact hbf k e
        · exact Nat.le_trans hz9.size e
      have htl := tee_length HK.sha prk info i
      obtain ⟨Av, cv, rfl, hcv, hrv, hfv⟩ := hv10.slice
      repeat (first | refine t_seq ?_ | refine t_region ?_ | refine s_nil ?_ | refine p_then ?_ | refine t_ret ?_ | refine p_then_ret ?_ | refine p_block_ret ?_ | refine t_block ?_ | refine t_exit ?_ | refine p_then_exit ?_ | refine p_block_exit ?_ | refine p_block ?_ | refine t_skip ?_)
      refine s_val (v_move rfl) rfl ?_
      refine s_val (v_move rfl) rfl ?_
      refine s_val (v_len rfl (so rfl) rfl) rfl ?_
      refine s_val (v_subI rfl rfl (by omega) (by omega)) rfl ?_
      refine s_val (v_assign rfl) rfl ?_
      repeat (first | refine t_seq ?_ | refine t_region ?_ | refine s_nil ?_ | refine p_then ?_ | refine t_ret ?_ | refine p_then_ret ?_ | refine p_block_ret ?_ | refine t_block ?_ | refine t_exit ?_ | refine p_then_exit ?_ | refine p_block_exit ?_ | refine p_block ?_ | refine t_skip ?_)
      refine s_val (v_move rfl) rfl ?_
      refine s_val (v_move rfl) rfl ?_
      refine s_val (v_len rfl (so rfl) rfl) rfl ?_
      refine s_val (v_min rfl rfl) rfl ?_
      refine s_val (v_assign rfl) rfl ?_
      obtain ⟨r, hr⟩ : ∃ r, r = min (n - ((tees HK.sha prk info i).take n).length) (tee HK.sha prk info (i + 1)).length := ⟨_, rfl⟩
      rw [← hr]
      have hE : (tees HK.sha prk info i).take n ++ (tee HK.sha prk info (i + 1)).take r = (tees HK.sha prk info (i + 1)).take n := by
        rw [tees_succ HK.sha prk info i n hin, List.take_of_length_le (by rw [tees_length]; omega), hr, hol, show min n (i * HK.sha.size) = i * HK.sha.size by omega]
        congr 1
        rw [← List.take_eq_take_min]
      repeat (first | refine t_seq ?_ | refine t_region ?_ | refine s_nil ?_ | refine p_then ?_ | refine t_ret ?_ | refine p_then_ret ?_ | refine p_block_ret ?_ | refine t_block ?_ | refine t_exit ?_ | refine p_then_exit ?_ | refine p_block_exit ?_ | refine p_block ?_ | refine t_skip ?_)
      refine s_val (v_move rfl) rfl ?_
      refine s_val (v_move rfl) rfl ?_
      refine s_val (v_move rfl) rfl ?_
      refine s_val (v_sliceHi rfl rfl (so rfl) (by omega)) rfl ?_
      refine s_op (o_appB (m := (tee HK.sha prk info (i + 1)).take r) rt24 rfl rfl (by rw [List.length_take]; omega) Tryz.underlying24 ho10 (hrv.take r) (by rw [hol, List.length_take]; omega) mem_own) rfl rfl ?_
      rintro vo w11 hw11 ⟨ho11, hk11⟩
      refine s_val (v_assign rfl) rfl ?_
      rw [hE] at ho11
      repeat (first | refine t_seq ?_ | refine t_region ?_ | refine s_nil ?_ | refine p_then ?_ | refine t_ret ?_ | refine p_then_ret ?_ | refine p_block_ret ?_ | refine t_block ?_ | refine t_exit ?_ | refine p_then_exit ?_ | refine p_block_exit ?_ | refine p_block ?_ | refine t_skip ?_)
      refine p_round ⟨i + 1, vo, .slice Av (tee HK.sha prk info (i + 1)).length cv, [] ++ tee HK.sha prk info i ++ info ++ [UInt8.ofNat (i + 1)]⟩ (by show n - (i + 1) * HK.sha.size < n - i * HK.sha.size; rw [Nat.succ_mul]; omega) ⟨rfl, rfl, rfl, rfl, rfl, rfl, trivial⟩
        ⟨hz10.trans_new hw11 (fun k hm => .inr (hof k (of_own hm))), ho11, ?_, ?_, hv10.only hw11 hvb, hvf, hvq, ?_, hi31, (fun e => absurd e (Nat.succ_ne_zero i)), (by simp; omega), hM10.only hw11 (fun k hk hm => hoq k (of_own hm) hk)⟩
      · intro k hk
        rcases hk11 k hk with e | e
        · exact hof k e
        · exact Nat.le_trans hz10.size e
      · intro k hk hm
        rcases hk11 k hk with e | e
        · exact hoq k e hm
        · have := hM10.lt k hm; omega
      · intro k hk hm
        rcases hk11 k hk with e | e
        · exact hvb k hm (mem_own k e)
        · have := hv10.lt hm; omega
    · have hin : n ≤ i * HK.sha.size := by have := of_decide_eq_false hb; omega
      repeat (first | refine t_seq ?_ | refine t_region ?_ | refine s_nil ?_ | refine p_then ?_ | refine t_ret ?_ | refine p_then_ret ?_ | refine p_block_ret ?_ | refine t_block ?_ | refine t_exit ?_ | refine p_then_exit ?_ | refine p_block_exit ?_ | refine p_block ?_ | refine t_skip ?_)
      refine p_cut _ ⟨rfl, trivial⟩ ⟨hz3, ?_, hof⟩
      rw [expand_eq hH hin]; exact ho3
  · rintro v w3 ⟨hz3, hv3⟩
    repeat (first | refine t_seq ?_ | refine t_region ?_ | refine s_nil ?_ | refine p_then ?_ | refine t_ret ?_ | refine p_then_ret ?_ | refine p_block_ret ?_ | refine t_block ?_ | refine t_exit ?_ | refine p_then_exit ?_ | refine p_block_exit ?_ | refine p_block ?_ | refine t_skip ?_)
    refine s_val (v_move rfl) rfl ?_
    refine s_val (v_assign rfl) rfl ?_
    repeat (first | refine t_seq ?_ | refine t_region ?_ | refine s_nil ?_ | refine p_then ?_ | refine t_ret ?_ | refine p_then_ret ?_ | refine p_block_ret ?_ | refine t_block ?_ | refine t_exit ?_ | refine p_then_exit ?_ | refine p_block_exit ?_ | refine p_block ?_ | refine t_skip ?_)
    exact ret1 rfl rfl ⟨_, rfl, hz3, hv3⟩
end Go.Proofs.YtnaefgnjdmmmcaaGreatDoor
/- hkdf.Expand in the program, at one of its instances. -/
namespace Go.Proofs.YtnaefgnjdmmmcaaGreatDoor
open Go.RowKit
attribute [local irreducible] ValAt OpAt RunX Tr Post FlowK

set_option maxHeartbeats 1000000 in
/-- hkdf.Expand -/
theorem c78 (sz bk : Nat) (hH : (HK.own sz bk).ok) (h : Value) (A : Option Addr) (c : Nat) (prk info : Bytes) (n : Nat) (w : World) (hm : Mk (HK.own sz bk) h) (hp : Rd w A prk) (hc : prk.length ≤ c) (hl : prk.length ≤ 60000) (hi : info.length ≤ 20000) (hn : n ≤ 32) (hK : KT w) (hw0 : 0 < w.heap.size) :
    Calls Tryz.prog 78 #[h, .slice A prk.length c, S info, I n] w (Ret [] w (Fresh w (expand (HK.own sz bk) prk info n))) := by
  have hsl := HK.size_le hH
  have hsp := HK.size_pos hH
  refine enter (Γ := [(0, .ex h), (1, .ex (.slice A prk.length c)), (2, .ex (S info)), (3, .ex (I n))]) Tryz.func78 rfl rfl rfl ⟨⟨_, rfl, rfl⟩, ⟨_, rfl, rfl⟩, ⟨_, rfl, rfl⟩, ⟨_, rfl, rfl⟩, trivial⟩ ?_
  repeat (first | refine t_seq ?_ | refine t_region ?_ | refine s_nil ?_ | refine p_then ?_ | refine t_ret ?_ | refine p_then_ret ?_ | refine p_block_ret ?_ | refine t_block ?_ | refine t_exit ?_ | refine p_then_exit ?_ | refine p_block_exit ?_ | refine p_block ?_ | refine t_skip ?_)
  refine s_val (v_assign rfl) rfl ?_
  repeat (first | refine t_seq ?_ | refine t_region ?_ | refine s_nil ?_ | refine p_then ?_ | refine t_ret ?_ | refine p_then_ret ?_ | refine p_block_ret ?_ | refine t_block ?_ | refine t_exit ?_ | refine p_then_exit ?_ | refine p_block_exit ?_ | refine p_block ?_ | refine t_skip ?_)
  refine s_val (v_move rfl) rfl ?_
  refine s_op (o_makeSlice (n := 0) rt24 rfl rfl (by omega) (by omega) (by omega)) rfl rfl ?_
  rintro _ w1 hw1 ⟨rfl, hB1⟩
  refine s_val (v_assign rfl) rfl ?_
  repeat (first | refine t_seq ?_ | refine t_region ?_ | refine s_nil ?_ | refine p_then ?_ | refine t_ret ?_ | refine p_then_ret ?_ | refine p_block_ret ?_ | refine t_block ?_ | refine t_exit ?_ | refine p_then_exit ?_ | refine p_block_exit ?_ | refine p_block ?_ | refine t_skip ?_)
  refine s_val (v_move rfl) rfl ?_
  refine s_val (v_move rfl) rfl ?_
  refine s_op (o_call rfl (en rfl) (c94 sz bk hH h A c prk w1 hm (hp.pure hw1) hc hl (hK.only hw1 (by simp)) (by have := hw1.size; omega))) rfl rfl ?_
  rintro _ w2 hw2 ⟨q, rfl, hM2, hq⟩
  refine s_val (v_assign rfl) rfl ?_
  have hs1 := hB1.lt
  have hs2 := hw2.size
  have hz2 : Only [] w w2 := hw1.trans hw2
  have hqw : ∀ k ∈ q.fp, w.heap.size ≤ k := fun k hk => by have := hq k hk; omega
  have h00 : 0 ∉ q.fI := fun hk => by have := hqw 0 (by simp [HP.fp, hk]); omega
  have h0O : 0 ∉ q.fO := fun hk => by have := hqw 0 (by simp [HP.fp, hk]); omega
  have hown0 : Own w2 (.slice (some ⟨w.heap.size, 0, none⟩) 0 n) [] := Own.zero (c := n) (hB1.only hw2 (by simp)) (by simp) (by simp only [maxLen]; omega)
  have hfrom0 : From w.heap.size (.slice (some ⟨w.heap.size, 0, none⟩) 0 n) := fun k hk => by
    cases hk; exact Nat.le_refl _
  have hnots0 : Nots (.slice (some ⟨w.heap.size, 0, none⟩) 0 n) q.fp := fun k hk hm => by
    cases hk
    have h2 : w1.heap.size ≤ w.heap.size := hq _ hm
    omega
  have hapart0 : Apart (.slice (some ⟨w.heap.size, 0, none⟩) 0 n) (.slice none 0 0) := fun k _ e => by cases e
  repeat (first | refine t_seq ?_ | refine t_region ?_ | refine s_nil ?_ | refine p_then ?_ | refine t_ret ?_ | refine p_then_ret ?_ | refine p_block_ret ?_ | refine t_block ?_ | refine t_exit ?_ | refine p_then_exit ?_ | refine p_block_exit ?_ | refine p_block ?_ | refine t_skip ?_)
  refine s_val (v_assign rfl) rfl ?_
  repeat (first | refine t_seq ?_ | refine t_region ?_ | refine s_nil ?_ | refine p_then ?_ | refine t_ret ?_ | refine p_then_ret ?_ | refine p_block_ret ?_ | refine t_block ?_ | refine t_exit ?_ | refine p_then_exit ?_ | refine p_block_exit ?_ | refine p_block ?_ | refine t_skip ?_)
  refine s_val (v_assign rfl) rfl ?_
  refine s_nil (p_then ?_)
  refine t_cut (fun v : Value => [(9, .ex v)]) (fun v w' => Only [] w w' ∧ Fresh w (expand (HK.own sz bk) prk info n) v w') ?_ ?_
  · repeat (first | refine t_seq ?_ | refine t_region ?_ | refine s_nil ?_ | refine p_then ?_ | refine t_ret ?_ | refine p_then_ret ?_ | refine p_block_ret ?_ | refine t_block ?_ | refine t_exit ?_ | refine p_then_exit ?_ | refine p_block_exit ?_ | refine p_block ?_ | refine t_skip ?_)
    refine t_loop (fun s : ES => [(9, .ex s.o), (10, .ex (pt q.m 0)), (11, .ex (B (UInt8.ofNat s.i))), (12, .ex s.b), (2, .ex (S info)), (3, .ex (I n))])
      (fun s w' => Only [] w w' ∧ Own w' s.o ((tees (HK.own sz bk) prk info s.i).take n) ∧ From w.heap.size s.o ∧ Nots s.o q.fp ∧ Own w' s.b (tee (HK.own sz bk) prk info s.i) ∧ From w.heap.size s.b ∧ Nots s.b q.fp ∧ Apart s.o s.b ∧ s.i ≤ 32 ∧ (s.i = 0 → s.data = []) ∧ s.data.length ≤ 60000 ∧ HmacAt (HK.own sz bk) w' q prk s.data false prk.length)
      (fun s => n - s.i * (HK.own sz bk).size) ⟨0, .slice (some ⟨w.heap.size, 0, none⟩) 0 n, .slice none 0 0, []⟩ ⟨rfl, rfl, rfl, rfl, rfl, rfl, trivial⟩
      ⟨hz2, by simpa [tees] using hown0, hfrom0, hnots0, Own.nil _, From.nil _, Nots.nil _, hapart0, by simp, fun _ => rfl, by simp, hM2⟩ ?_
    clear hB1 hw1 hw2 hz2 hM2 hown0 hfrom0 hnots0 hapart0
    rintro ⟨i, o, b, data⟩ w3 ⟨hz3, ho3, hof, hoq, hb3, hbf, hbq, hap, hi32, hd0, hdl, hM3⟩
    simp only at ho3 hof hoq hb3 hbf hbq hap hi32 hd0 hdl hM3
    obtain ⟨Ao, co, rfl, hco, hro, hfo⟩ := ho3.slice
    have hol : ((tees (HK.own sz bk) prk info i).take n).length = min n (i * (HK.own sz bk).size) := by rw [List.length_take, tees_length]
    refine t_weak [(9, .ex (.slice Ao ((tees (HK.own sz bk) prk info i).take n).length co)), (10, .ex (pt q.m 0)), (11, .ex (B (UInt8.ofNat i))), (12, .ex b), (2, .ex (S info)), (3, .ex (I n))] ⟨rfl, rfl, rfl, rfl, rfl, rfl, trivial⟩ ?_
    repeat (first | refine t_seq ?_ | refine t_region ?_ | refine s_nil ?_ | refine p_then ?_ | refine t_ret ?_ | refine p_then_ret ?_ | refine p_block_ret ?_ | refine t_block ?_ | refine t_exit ?_ | refine p_then_exit ?_ | refine p_block_exit ?_ | refine p_block ?_ | refine t_skip ?_)
    refine s_val (v_move rfl) rfl ?_
    refine s_val (v_len rfl (so rfl) rfl) rfl ?_
    refine s_val (v_move rfl) rfl ?_
    refine s_val (v_ltI rfl rfl) rfl ?_
    repeat (first | refine t_seq ?_ | refine t_region ?_ | refine s_nil ?_ | refine p_then ?_ | refine t_ret ?_ | refine p_then_ret ?_ | refine p_block_ret ?_ | refine t_block ?_ | refine t_exit ?_ | refine p_then_exit ?_ | refine p_block_exit ?_ | refine p_block ?_ | refine t_skip ?_)
    refine t_if rfl (fun hb => ?_) (fun hb => ?_)
    · have hin : i * (HK.own sz bk).size < n := by have := of_decide_eq_true hb; omega
      clear hb
      have hi31 : i < 32 := by
        rcases Nat.lt_or_ge i 32 with h | h
        · exact h
        · have := Nat.le_mul_of_pos_right i hsp; omega
      have htee : (tee (HK.own sz bk) prk info i).length ≤ 32 := by
        cases i with
        | zero => simp [tee]
        | succ j => rw [tee_length]; exact hsl
      repeat (first | refine t_seq ?_ | refine t_region ?_ | refine s_nil ?_ | refine p_then ?_ | refine t_ret ?_ | refine p_then_ret ?_ | refine p_block_ret ?_ | refine t_block ?_ | refine t_exit ?_ | refine p_then_exit ?_ | refine p_block_exit ?_ | refine p_block ?_ | refine t_skip ?_)
      refine s_val (v_move rfl) rfl ?_
      refine s_val (v_addB rfl (opb rfl)) rfl ?_
      refine s_val (v_assign rfl) rfl ?_
      rw [ofNat_succ]
      repeat (first | refine t_seq ?_ | refine t_region ?_ | refine s_nil ?_ | refine p_then ?_ | refine t_ret ?_ | refine p_then_ret ?_ | refine p_block_ret ?_ | refine t_block ?_ | refine t_exit ?_ | refine p_then_exit ?_ | refine p_block_exit ?_ | refine p_block ?_ | refine t_skip ?_)
      refine s_val (v_move rfl) rfl ?_
      refine s_val (v_eqI rfl rfl) rfl ?_
      repeat (first | refine t_seq ?_ | refine t_region ?_ | refine s_nil ?_ | refine p_then ?_ | refine t_ret ?_ | refine p_then_ret ?_ | refine p_block_ret ?_ | refine t_block ?_ | refine t_exit ?_ | refine p_then_exit ?_ | refine p_block_exit ?_ | refine p_block ?_ | refine t_skip ?_)
      refine t_if rfl (fun hb => ?_) (fun hb => ?_)
      · exfalso
        have := eq_of_beq hb
        rw [toNat_ofNat_lt (by omega)] at this
        omega
      clear hb
      refine t_skip (p_then ?_)
      refine t_cut (fun _ : Unit => [(9, .ex (.slice Ao ((tees (HK.own sz bk) prk info i).take n).length co)), (10, .ex (pt q.m 0)), (11, .ex (B (UInt8.ofNat (i + 1)))), (12, .ex b), (2, .ex (S info)), (3, .ex (I n))])
        (fun _ w' => Only q.fI w3 w' ∧ HmacAt (HK.own sz bk) w' q prk [] false prk.length) ?_ ?_
      · repeat (first | refine t_seq ?_ | refine t_region ?_ | refine s_nil ?_ | refine p_then ?_ | refine t_ret ?_ | refine p_then_ret ?_ | refine p_block_ret ?_ | refine t_block ?_ | refine t_exit ?_ | refine p_then_exit ?_ | refine p_block_exit ?_ | refine p_block ?_ | refine t_skip ?_)
        refine s_val (v_move rfl) rfl ?_
        refine s_val (v_cmpK rfl rfl) rfl ?_
        repeat (first | refine t_seq ?_ | refine t_region ?_ | refine s_nil ?_ | refine p_then ?_ | refine t_ret ?_ | refine p_then_ret ?_ | refine p_block_ret ?_ | refine t_block ?_ | refine t_exit ?_ | refine p_then_exit ?_ | refine p_block_exit ?_ | refine p_block ?_ | refine t_skip ?_)
        refine t_if rfl (fun hb => ?_) (fun hb => ?_)
        · have hi1 : 1 ≤ i := by
            have := of_decide_eq_true hb
            rw [toNat_ofNat_lt (by omega)] at this
            omega
          repeat (first | refine t_seq ?_ | refine t_region ?_ | refine s_nil ?_ | refine p_then ?_ | refine t_ret ?_ | refine p_then_ret ?_ | refine p_block_ret ?_ | refine t_block ?_ | refine t_exit ?_ | refine p_then_exit ?_ | refine p_block_exit ?_ | refine p_block ?_ | refine t_skip ?_)
          refine s_val (v_move rfl) rfl ?_
          refine s_op (o_call rfl (en rfl) (c91g hH (once hi1 hin hn) hM3 (hK.only hz3 (by simp)) h00)) rfl rfl ?_
          rintro _ w4 hw4 hM4
          repeat (first | refine t_seq ?_ | refine t_region ?_ | refine s_nil ?_ | refine p_then ?_ | refine t_ret ?_ | refine p_then_ret ?_ | refine p_block_ret ?_ | refine t_block ?_ | refine t_exit ?_ | refine p_then_exit ?_ | refine p_block_exit ?_ | refine p_block ?_ | refine t_skip ?_)
          exact p_cut () ⟨rfl, rfl, rfl, rfl, rfl, rfl, trivial⟩ ⟨hw4, hM4⟩
        · have hi1 : i = 0 := by
            have := of_decide_eq_false hb
            rw [toNat_ofNat_lt (by omega)] at this
            omega
          rw [hd0 hi1] at hM3
          repeat (first | refine t_seq ?_ | refine t_region ?_ | refine s_nil ?_ | refine p_then ?_ | refine t_ret ?_ | refine p_then_ret ?_ | refine p_block_ret ?_ | refine t_block ?_ | refine t_exit ?_ | refine p_then_exit ?_ | refine p_block_exit ?_ | refine p_block ?_ | refine t_skip ?_)
          exact p_cut () ⟨rfl, rfl, rfl, rfl, rfl, rfl, trivial⟩ ⟨Only.refl _ _, hM3⟩
      clear hM3 hd0 hdl
      rintro _ w4 ⟨hw4, hM4⟩
      have hqI : ∀ k ∈ q.fI, k ∈ ([] : List Nat) ∨ w.heap.size ≤ k := fun k hk => .inr (hqw k (by simp [HP.fp, hk]))
      have hqO : ∀ k ∈ q.fO, k ∈ ([] : List Nat) ∨ w.heap.size ≤ k := fun k hk => .inr (hqw k (by simp [HP.fp, hk]))
      have hoI : Nots (.slice Ao ((tees (HK.own sz bk) prk info i).take n).length co) q.fI := fun k hk hm => hoq k hk (by simp [HP.fp, hm])
      have hbI : Nots b q.fI := fun k hk hm => hbq k hk (by simp [HP.fp, hm])
      have ho4 := ho3.only hw4 hoI
      have hb4 := hb3.only hw4 hbI
      have hz4 : Only [] w w4 := hz3.trans_new hw4 hqI
      obtain ⟨Ab, cb, rfl, hcb, hrb, hfb⟩ := hb4.slice
      repeat (first | refine t_seq ?_ | refine t_region ?_ | refine s_nil ?_ | refine p_then ?_ | refine t_ret ?_ | refine p_then_ret ?_ | refine p_block_ret ?_ | refine t_block ?_ | refine t_exit ?_ | refine p_then_exit ?_ | refine p_block_exit ?_ | refine p_block ?_ | refine t_skip ?_)
      refine s_val (v_move rfl) rfl ?_
      refine s_val (v_move rfl) rfl ?_
      refine s_op (o_call rfl (en rfl) (c92 hH hM4 hrb (fun _ => hfb _ hbI) hcb (by simp; omega) (hK.only hz4 (by simp)) h00)) rfl rfl ?_
      rintro _ w5 hw5 hM5
      have ho5 := ho4.only hw5 hoI
      have hb5 := hb4.only hw5 hbI
      have hz5 : Only [] w w5 := hz4.trans_new hw5 hqI
      repeat (first | refine t_seq ?_ | refine t_region ?_ | refine s_nil ?_ | refine p_then ?_ | refine t_ret ?_ | refine p_then_ret ?_ | refine p_block_ret ?_ | refine t_block ?_ | refine t_exit ?_ | refine p_then_exit ?_ | refine p_block_exit ?_ | refine p_block ?_ | refine t_skip ?_)
      refine s_val (v_move rfl) rfl ?_
      refine s_val (v_move rfl) rfl ?_
      refine s_op (o_bytes rfl u9 Tryz.underlying24 u5) rfl rfl ?_
      rintro _ w6 hw6 ⟨c6, rfl, hc6, hr6, hlt6⟩
      refine s_op (o_call rfl (en rfl) (c92 hH (hM5.only hw6 (by simp)) hr6 (fun _ => Off.pt (fun hm => by have := hM5.lt _ (show w5.heap.size ∈ q.fp by simp [HP.fp, hm]); omega)) hc6 (by simp; omega) (hK.only (hz5.trans hw6) (by simp)) h00)) rfl rfl ?_
      rintro _ w7 hw7 hM7
      have ho7 := (ho5.only hw6 (by simp [Nots])).only hw7 hoI
      have hb7 := (hb5.only hw6 (by simp [Nots])).only hw7 hbI
      have hz7 : Only [] w w7 := (hz5.trans hw6).trans_new hw7 hqI
      repeat (first | refine t_seq ?_ | refine t_region ?_ | refine s_nil ?_ | refine p_then ?_ | refine t_ret ?_ | refine p_then_ret ?_ | refine p_block_ret ?_ | refine t_block ?_ | refine t_exit ?_ | refine p_then_exit ?_ | refine p_block_exit ?_ | refine p_block ?_ | refine t_skip ?_)
      refine s_val (v_move rfl) rfl ?_
      refine s_val (v_move rfl) rfl ?_
      refine s_op (o_buildSlice rt24 rfl rfl rfl (by show 0 < 1; decide) (by show 1 ≤ 16777216; decide) (by simp [Value.cells])) rfl rfl ?_
      rintro _ w8 hw8 ⟨rfl, hB8⟩
      refine s_op (o_call rfl (en rfl) (c92 (p := [UInt8.ofNat (i + 1)]) hH (hM7.only hw8 (by simp)) hB8.rd0 (fun _ => Off.pt (fun hm => by have := hM7.lt _ (show w7.heap.size ∈ q.fp by simp [HP.fp, hm]); omega)) (by simp) (by simp; omega) (hK.only (hz7.trans hw8) (by simp)) h00)) rfl rfl ?_
      rintro _ w9 hw9 hM9
      have ho9 := (ho7.only hw8 (by simp [Nots])).only hw9 hoI
      have hb9 := (hb7.only hw8 (by simp [Nots])).only hw9 hbI
      have hz9 : Only [] w w9 := (hz7.trans hw8).trans_new hw9 hqI
      have hbh : Own w9 (.slice Ab 0 cb) [] := Own.head' (l := []) hb9 rfl
      have hbs : (Value.slice Ab 0 cb).ownBlock = (Value.slice Ab (tee (HK.own sz bk) prk info i).length cb).ownBlock := own_same _ _ _ _ _
      repeat (first | refine t_seq ?_ | refine t_region ?_ | refine s_nil ?_ | refine p_then ?_ | refine t_ret ?_ | refine p_then_ret ?_ | refine p_block_ret ?_ | refine t_block ?_ | refine t_exit ?_ | refine p_then_exit ?_ | refine p_block_exit ?_ | refine p_block ?_ | refine t_skip ?_)
      refine s_val (v_move rfl) rfl ?_
      refine s_val (v_move rfl) rfl ?_
      refine s_val (v_sliceHi rfl opc (so rfl) (by omega)) rfl ?_
      refine s_op (o_call rfl (en rfl) (c93 hH hM9 hbh (by unfold Nots; rw [hbs]; exact hbq) (by simp; omega) (by simp) (hK.only hz9 (by simp)) h0O (by unfold Nots; rw [hbs]; intro k hk hm; have := hbf k hk; simp at hm; omega))) rfl rfl ?_
      rintro vb w10 hw10 ⟨⟨hv10, hk10⟩, hM10⟩
      refine s_val (v_assign rfl) rfl ?_
      rw [hbs] at hw10 hk10
      have ho10 := ho9.only hw10 (fun k hk hm => by
        rcases List.mem_append.1 hm with hm | hm
        · exact hoq k hk (by simp [HP.fp, hm])
        · exact hap k hk (of_own hm))
      have hz10 : Only [] w w10 := hz9.trans_new hw10 (fun k hm => by
        rcases List.mem_append.1 hm with hm | hm
        · exact hqO k hm
        · exact .inr (hbf k (of_own hm)))
      rw [List.nil_append, List.nil_append] at hv10
      have hteq : mac (HK.own sz bk) prk (tee (HK.own sz bk) prk info i ++ info ++ [UInt8.ofNat (i + 1)]) = tee (HK.own sz bk) prk info (i + 1) := rfl
      rw [hteq] at hv10
      have hvb : ∀ k, vb.ownBlock = some k → k ∉ (Value.slice Ao ((tees (HK.own sz bk) prk info i).take n).length co).ownBlock.toList := fun k hk hm => by
        rcases hk10 k hk with e | e
        · exact hap k (of_own hm) e
        · have := ho9.lt (of_own hm); omega
      have hvq : Nots vb q.fp := fun k hk hm => by
        rcases hk10 k hk with e | e
        · exact hbq k e hm
        · have := hM9.lt k hm; omega
      have hvf : From w.heap.size vb := fun k hk => by
        rcases hk10 k hk with e | e
        · exact hbf k e
        · exact Nat.le_trans hz9.size e
      have htl := tee_length (HK.own sz bk) prk info i
      obtain ⟨Av, cv, rfl, hcv, hrv, hfv⟩ := hv10.slice
      repeat (first | refine t_seq ?_ | refine t_region ?_ | refine s_nil ?_ | refine p_then ?_ | refine t_ret ?_ | refine p_then_ret ?_ | refine p_block_ret ?_ | refine t_block ?_ | refine t_exit ?_ | refine p_then_exit ?_ | refine p_block_exit ?_ | refine p_block ?_ | refine t_skip ?_)
      refine s_val (v_move rfl) rfl ?_
      refine s_val (v_move rfl) rfl ?_
      refine s_val (v_len rfl (so rfl) rfl) rfl ?_
      refine s_val (v_subI rfl rfl (by omega) (by omega)) rfl ?_
      refine s_val (v_assign rfl) rfl ?_
      repeat (first | refine t_seq ?_ | refine t_region ?_ | refine s_nil ?_ | refine p_then ?_ | refine t_ret ?_ | refine p_then_ret ?_ | refine p_block_ret ?_ | refine t_block ?_ | refine t_exit ?_ | refine p_then_exit ?_ | refine p_block_exit ?_ | refine p_block ?_ | refine t_skip ?_)
      refine s_val (v_move rfl) rfl ?_
      refine s_val (v_move rfl) rfl ?_
      refine s_val (v_len rfl (so rfl) rfl) rfl ?_
      refine s_val (v_min rfl rfl) rfl ?_
      refine s_val (v_assign rfl) rfl ?_
      obtain ⟨r, hr⟩ : ∃ r, r = min (n - ((tees (HK.own sz bk) prk info i).take n).length) (tee (HK.own sz bk) prk info (i + 1)).length := ⟨_, rfl⟩
      rw [← hr]
      have hE : (tees (HK.own sz bk) prk info i).take n ++ (tee (HK.own sz bk) prk info (i + 1)).take r = (tees (HK.own sz bk) prk info (i + 1)).take n := by
        rw [tees_succ (HK.own sz bk) prk info i n hin, List.take_of_length_le (by rw [tees_length]; omega), hr, hol, show min n (i * (HK.own sz bk).size) = i * (HK.own sz bk).size by omega]
        congr 1
        rw [← List.take_eq_take_min]
      repeat (first | refine t_seq ?_ | refine t_region ?_ | refine s_nil ?_ | refine p_then ?_ | refine t_ret ?_ | refine p_then_ret ?_ | refine p_block_ret ?_ | refine t_block ?_ | refine t_exit ?_ | refine p_then_exit ?_ | refine p_block_exit ?_ | refine p_block ?_ | refine t_skip ?_)
      refine s_val (v_move rfl) rfl ?_
      refine s_val (v_move rfl) rfl ?_
      refine s_val (v_move rfl) rfl ?_
      refine s_val (v_sliceHi rfl rfl (so rfl) (by omega)) rfl ?_
      refine s_op (o_appB (m := (tee (HK.own sz bk) prk info (i + 1)).take r) rt24 rfl rfl (by rw [List.length_take]; omega) Tryz.underlying24 ho10 (hrv.take r) (by rw [hol, List.length_take]; omega) mem_own) rfl rfl ?_
      rintro vo w11 hw11 ⟨ho11, hk11⟩
      refine s_val (v_assign rfl) rfl ?_
      rw [hE] at ho11
      repeat (first | refine t_seq ?_ | refine t_region ?_ | refine s_nil ?_ | refine p_then ?_ | refine t_ret ?_ | refine p_then_ret ?_ | refine p_block_ret ?_ | refine t_block ?_ | refine t_exit ?_ | refine p_then_exit ?_ | refine p_block_exit ?_ | refine p_block ?_ | refine t_skip ?_)
      refine p_round ⟨i + 1, vo, .slice Av (tee (HK.own sz bk) prk info (i + 1)).length cv, [] ++ tee (HK.own sz bk) prk info i ++ info ++ [UInt8.ofNat (i + 1)]⟩ (by show n - (i + 1) * (HK.own sz bk).size < n - i * (HK.own sz bk).size; rw [Nat.succ_mul]; omega) ⟨rfl, rfl, rfl, rfl, rfl, rfl, trivial⟩
        ⟨hz10.trans_new hw11 (fun k hm => .inr (hof k (of_own hm))), ho11, ?_, ?_, hv10.only hw11 hvb, hvf, hvq, ?_, hi31, (fun e => absurd e (Nat.succ_ne_zero i)), (by simp; omega), hM10.only hw11 (fun k hk hm => hoq k (of_own hm) hk)⟩
      · intro k hk
        rcases hk11 k hk with e | e
        · exact hof k e
        · exact Nat.le_trans hz10.size e
      · intro k hk hm
        rcases hk11 k hk with e | e
        · exact hoq k e hm
        · have := hM10.lt k hm; omega
      · intro k hk hm
        rcases hk11 k hk with e | e
        · exact hvb k hm (mem_own k e)
        · have := hv10.lt hm; omega
    · have hin : n ≤ i * (HK.own sz bk).size := by have := of_decide_eq_false hb; omega
      repeat (first | refine t_seq ?_ | refine t_region ?_ | refine s_nil ?_ | refine p_then ?_ | refine t_ret ?_ | refine p_then_ret ?_ | refine p_block_ret ?_ | refine t_block ?_ | refine t_exit ?_ | refine p_then_exit ?_ | refine p_block_exit ?_ | refine p_block ?_ | refine t_skip ?_)
      refine p_cut _ ⟨rfl, trivial⟩ ⟨hz3, ?_, hof⟩
      rw [expand_eq hH hin]; exact ho3
  · rintro v w3 ⟨hz3, hv3⟩
    repeat (first | refine t_seq ?_ | refine t_region ?_ | refine s_nil ?_ | refine p_then ?_ | refine t_ret ?_ | refine p_then_ret ?_ | refine p_block_ret ?_ | refine t_block ?_ | refine t_exit ?_ | refine p_then_exit ?_ | refine p_block_exit ?_ | refine p_block ?_ | refine t_skip ?_)
    refine s_val (v_move rfl) rfl ?_
    refine s_val (v_assign rfl) rfl ?_
    repeat (first | refine t_seq ?_ | refine t_region ?_ | refine s_nil ?_ | refine p_then ?_ | refine t_ret ?_ | refine p_then_ret ?_ | refine p_block_ret ?_ | refine t_block ?_ | refine t_exit ?_ | refine p_then_exit ?_ | refine p_block_exit ?_ | refine p_block ?_ | refine t_skip ?_)
    exact ret1 rfl rfl ⟨_, rfl, hz3, hv3⟩
end Go.Proofs.YtnaefgnjdmmmcaaGreatDoor
/- hkdf.Expand in the program, at one of its instances. -/
namespace Go.Proofs.YtnaefgnjdmmmcaaGreatDoor
open Go.RowKit
attribute [local irreducible] ValAt OpAt RunX Tr Post FlowK

set_option maxHeartbeats 1000000 in
/-- hkdf.Expand -/
theorem c87 (H : HK) (hH : H.ok) (h : Value) (A : Option Addr) (c : Nat) (prk info : Bytes) (n : Nat) (w : World) (hm : MkI H w h) (hp : Rd w A prk) (hc : prk.length ≤ c) (hl : prk.length ≤ 60000) (hi : info.length ≤ 20000) (hn : n ≤ 32) (hK : KT w) (hw0 : 0 < w.heap.size) :
    Calls Tryz.prog 87 #[h, .slice A prk.length c, S info, I n] w (Ret [] w (Fresh w (expand H prk info n))) := by
  have hsl := HK.size_le hH
  have hsp := HK.size_pos hH
  refine enter (Γ := [(0, .ex h), (1, .ex (.slice A prk.length c)), (2, .ex (S info)), (3, .ex (I n))]) Tryz.func87 rfl rfl rfl ⟨⟨_, rfl, rfl⟩, ⟨_, rfl, rfl⟩, ⟨_, rfl, rfl⟩, ⟨_, rfl, rfl⟩, trivial⟩ ?_
  repeat (first | refine t_seq ?_ | refine t_region ?_ | refine s_nil ?_ | refine p_then ?_ | refine t_ret ?_ | refine p_then_ret ?_ | refine p_block_ret ?_ | refine t_block ?_ | refine t_exit ?_ | refine p_then_exit ?_ | refine p_block_exit ?_ | refine p_block ?_ | refine t_skip ?_)
  refine s_val (v_assign rfl) rfl ?_
  repeat (first | refine t_seq ?_ | refine t_region ?_ | refine s_nil ?_ | refine p_then ?_ | refine t_ret ?_ | refine p_then_ret ?_ | refine p_block_ret ?_ | refine t_block ?_ | refine t_exit ?_ | refine p_then_exit ?_ | refine p_block_exit ?_ | refine p_block ?_ | refine t_skip ?_)
  refine s_val (v_move rfl) rfl ?_
  refine s_op (o_makeSlice (n := 0) rt24 rfl rfl (by omega) (by omega) (by omega)) rfl rfl ?_
  rintro _ w1 hw1 ⟨rfl, hB1⟩
  refine s_val (v_assign rfl) rfl ?_
  repeat (first | refine t_seq ?_ | refine t_region ?_ | refine s_nil ?_ | refine p_then ?_ | refine t_ret ?_ | refine p_then_ret ?_ | refine p_block_ret ?_ | refine t_block ?_ | refine t_exit ?_ | refine p_then_exit ?_ | refine p_block_exit ?_ | refine p_block ?_ | refine t_skip ?_)
  refine s_val (v_move rfl) rfl ?_
  refine s_val (v_move rfl) rfl ?_
  refine s_op (o_call rfl (en rfl) (c100 H hH h A c prk w1 (hm.only hw1 (fun i hi => by cases hi) (Nat.le_refl _)) (hp.pure hw1) hc hl (hK.only hw1 (by simp)) (by have := hw1.size; omega))) rfl rfl ?_
  rintro _ w2 hw2 ⟨q, rfl, hM2, hq⟩
  refine s_val (v_assign rfl) rfl ?_
  have hs1 := hB1.lt
  have hs2 := hw2.size
  have hz2 : Only [] w w2 := hw1.trans hw2
  have hqw : ∀ k ∈ q.fp, w.heap.size ≤ k := fun k hk => by have := hq k hk; omega
  have h00 : 0 ∉ q.fI := fun hk => by have := hqw 0 (by simp [HP.fp, hk]); omega
  have h0O : 0 ∉ q.fO := fun hk => by have := hqw 0 (by simp [HP.fp, hk]); omega
  have hown0 : Own w2 (.slice (some ⟨w.heap.size, 0, none⟩) 0 n) [] := Own.zero (c := n) (hB1.only hw2 (by simp)) (by simp) (by simp only [maxLen]; omega)
  have hfrom0 : From w.heap.size (.slice (some ⟨w.heap.size, 0, none⟩) 0 n) := fun k hk => by
    cases hk; exact Nat.le_refl _
  have hnots0 : Nots (.slice (some ⟨w.heap.size, 0, none⟩) 0 n) q.fp := fun k hk hm => by
    cases hk
    have h2 : w1.heap.size ≤ w.heap.size := hq _ hm
    omega
  have hapart0 : Apart (.slice (some ⟨w.heap.size, 0, none⟩) 0 n) (.slice none 0 0) := fun k _ e => by cases e
  repeat (first | refine t_seq ?_ | refine t_region ?_ | refine s_nil ?_ | refine p_then ?_ | refine t_ret ?_ | refine p_then_ret ?_ | refine p_block_ret ?_ | refine t_block ?_ | refine t_exit ?_ | refine p_then_exit ?_ | refine p_block_exit ?_ | refine p_block ?_ | refine t_skip ?_)
  refine s_val (v_assign rfl) rfl ?_
  repeat (first | refine t_seq ?_ | refine t_region ?_ | refine s_nil ?_ | refine p_then ?_ | refine t_ret ?_ | refine p_then_ret ?_ | refine p_block_ret ?_ | refine t_block ?_ | refine t_exit ?_ | refine p_then_exit ?_ | refine p_block_exit ?_ | refine p_block ?_ | refine t_skip ?_)
  refine s_val (v_assign rfl) rfl ?_
  refine s_nil (p_then ?_)
  refine t_cut (fun v : Value => [(9, .ex v)]) (fun v w' => Only [] w w' ∧ Fresh w (expand H prk info n) v w') ?_ ?_
  · repeat (first | refine t_seq ?_ | refine t_region ?_ | refine s_nil ?_ | refine p_then ?_ | refine t_ret ?_ | refine p_then_ret ?_ | refine p_block_ret ?_ | refine t_block ?_ | refine t_exit ?_ | refine p_then_exit ?_ | refine p_block_exit ?_ | refine p_block ?_ | refine t_skip ?_)
    refine t_loop (fun s : ES => [(9, .ex s.o), (10, .ex (pt q.m 0)), (11, .ex (B (UInt8.ofNat s.i))), (12, .ex s.b), (2, .ex (S info)), (3, .ex (I n))])
      (fun s w' => Only [] w w' ∧ Own w' s.o ((tees H prk info s.i).take n) ∧ From w.heap.size s.o ∧ Nots s.o q.fp ∧ Own w' s.b (tee H prk info s.i) ∧ From w.heap.size s.b ∧ Nots s.b q.fp ∧ Apart s.o s.b ∧ s.i ≤ 32 ∧ (s.i = 0 → s.data = []) ∧ s.data.length ≤ 60000 ∧ HmacAt H w' q prk s.data false prk.length)
      (fun s => n - s.i * H.size) ⟨0, .slice (some ⟨w.heap.size, 0, none⟩) 0 n, .slice none 0 0, []⟩ ⟨rfl, rfl, rfl, rfl, rfl, rfl, trivial⟩
      ⟨hz2, by simpa [tees] using hown0, hfrom0, hnots0, Own.nil _, From.nil _, Nots.nil _, hapart0, by simp, fun _ => rfl, by simp, hM2⟩ ?_
    clear hB1 hw1 hw2 hz2 hM2 hown0 hfrom0 hnots0 hapart0
    rintro ⟨i, o, b, data⟩ w3 ⟨hz3, ho3, hof, hoq, hb3, hbf, hbq, hap, hi32, hd0, hdl, hM3⟩
    simp only at ho3 hof hoq hb3 hbf hbq hap hi32 hd0 hdl hM3
    obtain ⟨Ao, co, rfl, hco, hro, hfo⟩ := ho3.slice
    have hol : ((tees H prk info i).take n).length = min n (i * H.size) := by rw [List.length_take, tees_length]
    refine t_weak [(9, .ex (.slice Ao ((tees H prk info i).take n).length co)), (10, .ex (pt q.m 0)), (11, .ex (B (UInt8.ofNat i))), (12, .ex b), (2, .ex (S info)), (3, .ex (I n))] ⟨rfl, rfl, rfl, rfl, rfl, rfl, trivial⟩ ?_
    repeat (first | refine t_seq ?_ | refine t_region ?_ | refine s_nil ?_ | refine p_then ?_ | refine t_ret ?_ | refine p_then_ret ?_ | refine p_block_ret ?_ | refine t_block ?_ | refine t_exit ?_ | refine p_then_exit ?_ | refine p_block_exit ?_ | refine p_block ?_ | refine t_skip ?_)
    refine s_val (v_move rfl) rfl ?_
    refine s_val (v_len rfl (so rfl) rfl) rfl ?_
    refine s_val (v_move rfl) rfl ?_
    refine s_val (v_ltI rfl rfl) rfl ?_
    repeat (first | refine t_seq ?_ | refine t_region ?_ | refine s_nil ?_ | refine p_then ?_ | refine t_ret ?_ | refine p_then_ret ?_ | refine p_block_ret ?_ | refine t_block ?_ | refine t_exit ?_ | refine p_then_exit ?_ | refine p_block_exit ?_ | refine p_block ?_ | refine t_skip ?_)
    refine t_if rfl (fun hb => ?_) (fun hb => ?_)
    · have hin : i * H.size < n := by have := of_decide_eq_true hb; omega
      clear hb
      have hi31 : i < 32 := by
        rcases Nat.lt_or_ge i 32 with h | h
        · exact h
        · have := Nat.le_mul_of_pos_right i hsp; omega
      have htee : (tee H prk info i).length ≤ 32 := by
        cases i with
        | zero => simp [tee]
        | succ j => rw [tee_length]; exact hsl
      repeat (first | refine t_seq ?_ | refine t_region ?_ | refine s_nil ?_ | refine p_then ?_ | refine t_ret ?_ | refine p_then_ret ?_ | refine p_block_ret ?_ | refine t_block ?_ | refine t_exit ?_ | refine p_then_exit ?_ | refine p_block_exit ?_ | refine p_block ?_ | refine t_skip ?_)
      refine s_val (v_move rfl) rfl ?_
      refine s_val (v_addB rfl (opb rfl)) rfl ?_
      refine s_val (v_assign rfl) rfl ?_
      rw [ofNat_succ]
      repeat (first | refine t_seq ?_ | refine t_region ?_ | refine s_nil ?_ | refine p_then ?_ | refine t_ret ?_ | refine p_then_ret ?_ | refine p_block_ret ?_ | refine t_block ?_ | refine t_exit ?_ | refine p_then_exit ?_ | refine p_block_exit ?_ | refine p_block ?_ | refine t_skip ?_)
      refine s_val (v_move rfl) rfl ?_
      refine s_val (v_eqI rfl rfl) rfl ?_
      repeat (first | refine t_seq ?_ | refine t_region ?_ | refine s_nil ?_ | refine p_then ?_ | refine t_ret ?_ | refine p_then_ret ?_ | refine p_block_ret ?_ | refine t_block ?_ | refine t_exit ?_ | refine p_then_exit ?_ | refine p_block_exit ?_ | refine p_block ?_ | refine t_skip ?_)
      refine t_if rfl (fun hb => ?_) (fun hb => ?_)
      · exfalso
        have := eq_of_beq hb
        rw [toNat_ofNat_lt (by omega)] at this
        omega
      clear hb
      refine t_skip (p_then ?_)
      refine t_cut (fun _ : Unit => [(9, .ex (.slice Ao ((tees H prk info i).take n).length co)), (10, .ex (pt q.m 0)), (11, .ex (B (UInt8.ofNat (i + 1)))), (12, .ex b), (2, .ex (S info)), (3, .ex (I n))])
        (fun _ w' => Only q.fI w3 w' ∧ HmacAt H w' q prk [] false prk.length) ?_ ?_
      · repeat (first | refine t_seq ?_ | refine t_region ?_ | refine s_nil ?_ | refine p_then ?_ | refine t_ret ?_ | refine p_then_ret ?_ | refine p_block_ret ?_ | refine t_block ?_ | refine t_exit ?_ | refine p_then_exit ?_ | refine p_block_exit ?_ | refine p_block ?_ | refine t_skip ?_)
        refine s_val (v_move rfl) rfl ?_
        refine s_val (v_cmpK rfl rfl) rfl ?_
        repeat (first | refine t_seq ?_ | refine t_region ?_ | refine s_nil ?_ | refine p_then ?_ | refine t_ret ?_ | refine p_then_ret ?_ | refine p_block_ret ?_ | refine t_block ?_ | refine t_exit ?_ | refine p_then_exit ?_ | refine p_block_exit ?_ | refine p_block ?_ | refine t_skip ?_)
        refine t_if rfl (fun hb => ?_) (fun hb => ?_)
        · have hi1 : 1 ≤ i := by
            have := of_decide_eq_true hb
            rw [toNat_ofNat_lt (by omega)] at this
            omega
          repeat (first | refine t_seq ?_ | refine t_region ?_ | refine s_nil ?_ | refine p_then ?_ | refine t_ret ?_ | refine p_then_ret ?_ | refine p_block_ret ?_ | refine t_block ?_ | refine t_exit ?_ | refine p_then_exit ?_ | refine p_block_exit ?_ | refine p_block ?_ | refine t_skip ?_)
          refine s_val (v_move rfl) rfl ?_
          refine s_op (o_call rfl (en rfl) (c91g hH (once hi1 hin hn) hM3 (hK.only hz3 (by simp)) h00)) rfl rfl ?_
          rintro _ w4 hw4 hM4
          repeat (first | refine t_seq ?_ | refine t_region ?_ | refine s_nil ?_ | refine p_then ?_ | refine t_ret ?_ | refine p_then_ret ?_ | refine p_block_ret ?_ | refine t_block ?_ | refine t_exit ?_ | refine p_then_exit ?_ | refine p_block_exit ?_ | refine p_block ?_ | refine t_skip ?_)
          exact p_cut () ⟨rfl, rfl, rfl, rfl, rfl, rfl, trivial⟩ ⟨hw4, hM4⟩
        · have hi1 : i = 0 := by
            have := of_decide_eq_false hb
            rw [toNat_ofNat_lt (by omega)] at this
            omega
          rw [hd0 hi1] at hM3
          repeat (first | refine t_seq ?_ | refine t_region ?_ | refine s_nil ?_ | refine p_then ?_ | refine t_ret ?_ | refine p_then_ret ?_ | refine p_block_ret ?_ | refine t_block ?_ | refine t_exit ?_ | refine p_then_exit ?_ | refine p_block_exit ?_ | refine p_block ?_ | refine t_skip ?_)
          exact p_cut () ⟨rfl, rfl, rfl, rfl, rfl, rfl, trivial⟩ ⟨Only.refl _ _, hM3⟩
      clear hM3 hd0 hdl
      rintro _ w4 ⟨hw4, hM4⟩
      have hqI : ∀ k ∈ q.fI, k ∈ ([] : List Nat) ∨ w.heap.size ≤ k := fun k hk => .inr (hqw k (by simp [HP.fp, hk]))
      have hqO : ∀ k ∈ q.fO, k ∈ ([] : List Nat) ∨ w.heap.size ≤ k := fun k hk => .inr (hqw k (by simp [HP.fp, hk]))
      have hoI : Nots (.slice Ao ((tees H prk info i).take n).length co) q.fI := fun k hk hm => hoq k hk (by simp [HP.fp, hm])
      have hbI : Nots b q.fI := fun k hk hm => hbq k hk (by simp [HP.fp, hm])
      have ho4 := ho3.only hw4 hoI
      have hb4 := hb3.only hw4 hbI
      have hz4 : Only [] w w4 := hz3.trans_new hw4 hqI
      obtain ⟨Ab, cb, rfl, hcb, hrb, hfb⟩ := hb4.slice
      repeat (first | refine t_seq ?_ | refine t_region ?_ | refine s_nil ?_ | refine p_then ?_ | refine t_ret ?_ | refine p_then_ret ?_ | refine p_block_ret ?_ | refine t_block ?_ | refine t_exit ?_ | refine p_then_exit ?_ | refine p_block_exit ?_ | refine p_block ?_ | refine t_skip ?_)
      refine s_val (v_move rfl) rfl ?_
      refine s_val (v_move rfl) rfl ?_
      refine s_op (o_call rfl (en rfl) (c92 hH hM4 hrb (fun _ => hfb _ hbI) hcb (by simp; omega) (hK.only hz4 (by simp)) h00)) rfl rfl ?_
      rintro _ w5 hw5 hM5
      have ho5 := ho4.only hw5 hoI
      have hb5 := hb4.only hw5 hbI
      have hz5 : Only [] w w5 := hz4.trans_new hw5 hqI
      repeat (first | refine t_seq ?_ | refine t_region ?_ | refine s_nil ?_ | refine p_then ?_ | refine t_ret ?_ | refine p_then_ret ?_ | refine p_block_ret ?_ | refine t_block ?_ | refine t_exit ?_ | refine p_then_exit ?_ | refine p_block_exit ?_ | refine p_block ?_ | refine t_skip ?_)
      refine s_val (v_move rfl) rfl ?_
      refine s_val (v_move rfl) rfl ?_
      refine s_op (o_bytes rfl u9 Tryz.underlying24 u5) rfl rfl ?_
      rintro _ w6 hw6 ⟨c6, rfl, hc6, hr6, hlt6⟩
      refine s_op (o_call rfl (en rfl) (c92 hH (hM5.only hw6 (by simp)) hr6 (fun _ => Off.pt (fun hm => by have := hM5.lt _ (show w5.heap.size ∈ q.fp by simp [HP.fp, hm]); omega)) hc6 (by simp; omega) (hK.only (hz5.trans hw6) (by simp)) h00)) rfl rfl ?_
      rintro _ w7 hw7 hM7
      have ho7 := (ho5.only hw6 (by simp [Nots])).only hw7 hoI
      have hb7 := (hb5.only hw6 (by simp [Nots])).only hw7 hbI
      have hz7 : Only [] w w7 := (hz5.trans hw6).trans_new hw7 hqI
      repeat (first | refine t_seq ?_ | refine t_region ?_ | refine s_nil ?_ | refine p_then ?_ | refine t_ret ?_ | refine p_then_ret ?_ | refine p_block_ret ?_ | refine t_block ?_ | refine t_exit ?_ | refine p_then_exit ?_ | refine p_block_exit ?_ | refine p_block ?_ | refine t_skip ?_)
      refine s_val (v_move rfl) rfl ?_
      refine s_val (v_move rfl) rfl ?_
      refine s_op (o_buildSlice rt24 rfl rfl rfl (by show 0 < 1; decide) (by show 1 ≤ 16777216; decide) (by simp [Value.cells])) rfl rfl ?_
      rintro _ w8 hw8 ⟨rfl, hB8⟩
      refine s_op (o_call rfl (en rfl) (c92 (p := [UInt8.ofNat (i + 1)]) hH (hM7.only hw8 (by simp)) hB8.rd0 (fun _ => Off.pt (fun hm => by have := hM7.lt _ (show w7.heap.size ∈ q.fp by simp [HP.fp, hm]); omega)) (by simp) (by simp; omega) (hK.only (hz7.trans hw8) (by simp)) h00)) rfl rfl ?_
      rintro _ w9 hw9 hM9
      have ho9 := (ho7.only hw8 (by simp [Nots])).only hw9 hoI
      have hb9 := (hb7.only hw8 (by simp [Nots])).only hw9 hbI
      have hz9 : Only [] w w9 := (hz7.trans hw8).trans_new hw9 hqI
      have hbh : Own w9 (.slice Ab 0 cb) [] := Own.head' (l := []) hb9 rfl
      have hbs : (Value.slice Ab 0 cb).ownBlock = (Value.slice Ab (tee H prk info i).length cb).ownBlock := own_same _ _ _ _ _
      repeat (first | refine t_seq ?_ | refine t_region ?_ | refine s_nil ?_ | refine p_then ?_ | refine t_ret ?_ | refine p_then_ret ?_ | refine p_block_ret ?_ | refine t_block ?_ | refine t_exit ?_ | refine p_then_exit ?_ | refine p_block_exit ?_ | refine p_block ?_ | refine t_skip ?_)
      refine s_val (v_move rfl) rfl ?_
      refine s_val (v_move rfl) rfl ?_
      refine s_val (v_sliceHi rfl opc (so rfl) (by omega)) rfl ?_
      refine s_op (o_call rfl (en rfl) (c93 hH hM9 hbh (by unfold Nots; rw [hbs]; exact hbq) (by simp; omega) (by simp) (hK.only hz9 (by simp)) h0O (by unfold Nots; rw [hbs]; intro k hk hm; have := hbf k hk; simp at hm; omega))) rfl rfl ?_
      rintro vb w10 hw10 ⟨⟨hv10, hk10⟩, hM10⟩
      refine s_val (v_assign rfl) rfl ?_
      rw [hbs] at hw10 hk10
      have ho10 := ho9.only hw10 (fun k hk hm => by
        rcases List.mem_append.1 hm with hm | hm
        · exact hoq k hk (by simp [HP.fp, hm])
        · exact hap k hk (of_own hm))
      have hz10 : Only [] w w10 := hz9.trans_new hw10 (fun k hm => by
        rcases List.mem_append.1 hm with hm | hm
        · exact hqO k hm
        · exact .inr (hbf k (of_own hm)))
      rw [List.nil_append, List.nil_append] at hv10
      have hteq : mac H prk (tee H prk info i ++ info ++ [UInt8.ofNat (i + 1)]) = tee H prk info (i + 1) := rfl
      rw [hteq] at hv10
      have hvb : ∀ k, vb.ownBlock = some k → k ∉ (Value.slice Ao ((tees H prk info i).take n).length co).ownBlock.toList := fun k hk hm => by
        rcases hk10 k hk with e | e
        · exact hap k (of_own hm) e
        · have := ho9.lt (of_own hm); omega
      have hvq : Nots vb q.fp := fun k hk hm => by
        rcases hk10 k hk with e | e
        · exact hbq k e hm
        · have := hM9.lt k hm; omega
      have hvf : From w.heap.size vb := fun k hk => by
        rcases hk10 k hk with e | e
        · exact hbf k e
        · exact Nat.le_trans hz9.size e
      have htl := tee_length H prk info i
      obtain ⟨Av, cv, rfl, hcv, hrv, hfv⟩ := hv10.slice
      repeat (first | refine t_seq ?_ | refine t_region ?_ | refine s_nil ?_ | refine p_then ?_ | refine t_ret ?_ | refine p_then_ret ?_ | refine p_block_ret ?_ | refine t_block ?_ | refine t_exit ?_ | refine p_then_exit ?_ | refine p_block_exit ?_ | refine p_block ?_ | refine t_skip ?_)
      refine s_val (v_move rfl) rfl ?_
      refine s_val (v_move rfl) rfl ?_
      refine s_val (v_len rfl (so rfl) rfl) rfl ?_
      refine s_val (v_subI rfl rfl (by omega) (by omega)) rfl ?_
      refine s_val (v_assign rfl) rfl ?_
      repeat (first | refine t_seq ?_ | refine t_region ?_ | refine s_nil ?_ | refine p_then ?_ | refine t_ret ?_ | refine p_then_ret ?_ | refine p_block_ret ?_ | refine t_block ?_ | refine t_exit ?_ | refine p_then_exit ?_ | refine p_block_exit ?_ | refine p_block ?_ | refine t_skip ?_)
      refine s_val (v_move rfl) rfl ?_
      refine s_val (v_move rfl) rfl ?_
      refine s_val (v_len rfl (so rfl) rfl) rfl ?_
      refine s_val (v_min rfl rfl) rfl ?_
      refine s_val (v_assign rfl) rfl ?_
      obtain ⟨r, hr⟩ : ∃ r, r = min (n - ((tees H prk info i).take n).length) (tee H prk info (i + 1)).length := ⟨_, rfl⟩
      rw [← hr]
      have hE : (tees H prk info i).take n ++ (tee H prk info (i + 1)).take r = (tees H prk info (i + 1)).take n := by
        rw [tees_succ H prk info i n hin, List.take_of_length_le (by rw [tees_length]; omega), hr, hol, show min n (i * H.size) = i * H.size by omega]
        congr 1
        rw [← List.take_eq_take_min]
      repeat (first | refine t_seq ?_ | refine t_region ?_ | refine s_nil ?_ | refine p_then ?_ | refine t_ret ?_ | refine p_then_ret ?_ | refine p_block_ret ?_ | refine t_block ?_ | refine t_exit ?_ | refine p_then_exit ?_ | refine p_block_exit ?_ | refine p_block ?_ | refine t_skip ?_)
      refine s_val (v_move rfl) rfl ?_
      refine s_val (v_move rfl) rfl ?_
      refine s_val (v_move rfl) rfl ?_
      refine s_val (v_sliceHi rfl rfl (so rfl) (by omega)) rfl ?_
      refine s_op (o_appB (m := (tee H prk info (i + 1)).take r) rt24 rfl rfl (by rw [List.length_take]; omega) Tryz.underlying24 ho10 (hrv.take r) (by rw [hol, List.length_take]; omega) mem_own) rfl rfl ?_
      rintro vo w11 hw11 ⟨ho11, hk11⟩
      refine s_val (v_assign rfl) rfl ?_
      rw [hE] at ho11
      repeat (first | refine t_seq ?_ | refine t_region ?_ | refine s_nil ?_ | refine p_then ?_ | refine t_ret ?_ | refine p_then_ret ?_ | refine p_block_ret ?_ | refine t_block ?_ | refine t_exit ?_ | refine p_then_exit ?_ | refine p_block_exit ?_ | refine p_block ?_ | refine t_skip ?_)
      refine p_round ⟨i + 1, vo, .slice Av (tee H prk info (i + 1)).length cv, [] ++ tee H prk info i ++ info ++ [UInt8.ofNat (i + 1)]⟩ (by show n - (i + 1) * H.size < n - i * H.size; rw [Nat.succ_mul]; omega) ⟨rfl, rfl, rfl, rfl, rfl, rfl, trivial⟩
        ⟨hz10.trans_new hw11 (fun k hm => .inr (hof k (of_own hm))), ho11, ?_, ?_, hv10.only hw11 hvb, hvf, hvq, ?_, hi31, (fun e => absurd e (Nat.succ_ne_zero i)), (by simp; omega), hM10.only hw11 (fun k hk hm => hoq k (of_own hm) hk)⟩
      · intro k hk
        rcases hk11 k hk with e | e
        · exact hof k e
        · exact Nat.le_trans hz10.size e
      · intro k hk hm
        rcases hk11 k hk with e | e
        · exact hoq k e hm
        · have := hM10.lt k hm; omega
      · intro k hk hm
        rcases hk11 k hk with e | e
        · exact hvb k hm (mem_own k e)
        · have := hv10.lt hm; omega
    · have hin : n ≤ i * H.size := by have := of_decide_eq_false hb; omega
      repeat (first | refine t_seq ?_ | refine t_region ?_ | refine s_nil ?_ | refine p_then ?_ | refine t_ret ?_ | refine p_then_ret ?_ | refine p_block_ret ?_ | refine t_block ?_ | refine t_exit ?_ | refine p_then_exit ?_ | refine p_block_exit ?_ | refine p_block ?_ | refine t_skip ?_)
      refine p_cut _ ⟨rfl, trivial⟩ ⟨hz3, ?_, hof⟩
      rw [expand_eq hH hin]; exact ho3
  · rintro v w3 ⟨hz3, hv3⟩
    repeat (first | refine t_seq ?_ | refine t_region ?_ | refine s_nil ?_ | refine p_then ?_ | refine t_ret ?_ | refine p_then_ret ?_ | refine p_block_ret ?_ | refine t_block ?_ | refine t_exit ?_ | refine p_then_exit ?_ | refine p_block_exit ?_ | refine p_block ?_ | refine t_skip ?_)
    refine s_val (v_move rfl) rfl ?_
    refine s_val (v_assign rfl) rfl ?_
    repeat (first | refine t_seq ?_ | refine t_region ?_ | refine s_nil ?_ | refine p_then ?_ | refine t_ret ?_ | refine p_then_ret ?_ | refine p_block_ret ?_ | refine t_block ?_ | refine t_exit ?_ | refine p_then_exit ?_ | refine p_block_exit ?_ | refine p_block ?_ | refine t_skip ?_)
    exact ret1 rfl rfl ⟨_, rfl, hz3, hv3⟩
end Go.Proofs.YtnaefgnjdmmmcaaGreatDoor
/- hkdf.Extract and tls13's extract in the program, at one of their instances. -/
namespace Go.Proofs.YtnaefgnjdmmmcaaGreatDoor
open Go.RowKit
attribute [local irreducible] ValAt OpAt RunX Tr Post FlowK

set_option maxHeartbeats 1000000 in
/-- hkdf.Extract -/
theorem c97  (hH : HK.sha.ok) (h : Value) (A A' : Option Addr) (c c' : Nat) (secret salt : Bytes) (w : World) (hm : Mk HK.sha h) (hp : Rd w A secret) (hc : secret.length ≤ c) (hl : secret.length ≤ 20000)
    (hp' : Rd w A' salt) (hc' : salt.length ≤ c') (hl' : salt.length ≤ 20000) (hK : KT w) (hw0 : 0 < w.heap.size) :
    Calls Tryz.prog 97 #[h, .slice A secret.length c, .slice A' salt.length c'] w (Ret [] w (Fresh w (mac HK.sha (if A' = none then zeros HK.sha.size else salt) secret))) := by
  have hsl := HK.size_le hH
  have hsp := HK.size_pos hH
  refine enter (Γ := [(0, .ex h), (1, .ex (.slice A secret.length c)), (2, .ex (.slice A' salt.length c'))]) Tryz.func97 rfl rfl rfl ⟨⟨_, rfl, rfl⟩, ⟨_, rfl, rfl⟩, ⟨_, rfl, rfl⟩, trivial⟩ ?_
  repeat (first | refine t_seq ?_ | refine t_region ?_ | refine s_nil ?_ | refine p_then ?_ | refine t_ret ?_ | refine p_then_ret ?_ | refine p_block_ret ?_ | refine t_block ?_ | refine t_exit ?_ | refine p_then_exit ?_ | refine p_block_exit ?_ | refine p_block ?_ | refine t_skip ?_)
  refine s_val (v_assign rfl) rfl ?_
  refine s_nil (p_then ?_)
  refine t_cut (fun s : KS => [(0, .ex h), (1, .ex (.slice A secret.length c)), (2, .ex (.slice s.A s.k.length s.c))])
    (fun s w' => Only [] w w' ∧ s.k = (if A' = none then zeros HK.sha.size else salt) ∧ Rd w' s.A s.k ∧ s.k.length ≤ s.c ∧ s.k.length ≤ 20000) ?_ ?_
  · repeat (first | refine t_seq ?_ | refine t_region ?_ | refine s_nil ?_ | refine p_then ?_ | refine t_ret ?_ | refine p_then_ret ?_ | refine p_block_ret ?_ | refine t_block ?_ | refine t_exit ?_ | refine p_then_exit ?_ | refine p_block_exit ?_ | refine p_block ?_ | refine t_skip ?_)
    refine s_val (v_move rfl) rfl ?_
    refine s_val (v_eqNil rfl rfl (so rfl)) rfl ?_
    repeat (first | refine t_seq ?_ | refine t_region ?_ | refine s_nil ?_ | refine p_then ?_ | refine t_ret ?_ | refine p_then_ret ?_ | refine p_block_ret ?_ | refine t_block ?_ | refine t_exit ?_ | refine p_then_exit ?_ | refine p_block_exit ?_ | refine p_block ?_ | refine t_skip ?_)
    refine t_if rfl (fun hb => ?_) (fun hb => ?_)
    · have hA : A' = none := by cases A' <;> first | rfl | cases hb
      repeat (first | refine t_seq ?_ | refine t_region ?_ | refine s_nil ?_ | refine p_then ?_ | refine t_ret ?_ | refine p_then_ret ?_ | refine p_block_ret ?_ | refine t_block ?_ | refine t_exit ?_ | refine p_then_exit ?_ | refine p_block_exit ?_ | refine p_block ?_ | refine t_skip ?_)
      refine s_val (v_move rfl) rfl ?_
      refine s_op (o_mk (H := HK.sha) (b := w.heap.size) hm rfl (Nat.le_refl _)) rfl rfl ?_
      rintro _ w1 hw1 ⟨g, rfl, fpg, hg, _⟩
      refine s_val (v_makeInterface rfl (co rfl)) rfl ?_
      refine s_op (o_invoke rfl rfl (HK.mez HK.sha _ _) (HK.enz HK.sha) (hSize hg)) rfl rfl ?_
      rintro _ w2 hw2 rfl
      refine s_op (o_makeSlice rt24 rfl rfl (Nat.le_refl _) (by omega) (by omega)) rfl rfl ?_
      rintro _ w3 hw3 ⟨rfl, hB3⟩
      refine s_val (v_assign rfl) rfl ?_
      have hz3 : Only [] w w3 := (hw1.trans hw2).trans hw3
      repeat (first | refine t_seq ?_ | refine t_region ?_ | refine s_nil ?_ | refine p_then ?_ | refine t_ret ?_ | refine p_then_ret ?_ | refine p_block_ret ?_ | refine t_block ?_ | refine t_exit ?_ | refine p_then_exit ?_ | refine p_block_exit ?_ | refine p_block ?_ | refine t_skip ?_)
      have hB3' : Blk w3 w2.heap.size 5 ((zeros HK.sha.size).map B).toArray := by simpa [zeros] using hB3
      refine p_cut ⟨some ⟨w2.heap.size, 0, none⟩, HK.size HK.sha, zeros (HK.size HK.sha)⟩ ⟨rfl, rfl, congrArg (fun n => some (Slot.ex (.slice (some ⟨w2.heap.size, 0, none⟩) n (HK.size HK.sha)))) (show HK.size HK.sha = (zeros (HK.size HK.sha)).length by simp [zeros]), trivial⟩ ⟨hz3, by rw [if_pos hA], hB3'.rd0, by simp [zeros], by simp [zeros]; omega⟩
    · have hA : A' ≠ none := by cases A' <;> first | (intro e; cases e; done) | cases hb
      repeat (first | refine t_seq ?_ | refine t_region ?_ | refine s_nil ?_ | refine p_then ?_ | refine t_ret ?_ | refine p_then_ret ?_ | refine p_block_ret ?_ | refine t_block ?_ | refine t_exit ?_ | refine p_then_exit ?_ | refine p_block_exit ?_ | refine p_block ?_ | refine t_skip ?_)
      exact p_cut ⟨A', c', salt⟩ ⟨rfl, rfl, rfl, trivial⟩ ⟨Only.refl _ _, by rw [if_neg hA], hp', hc', hl'⟩
  clear hp' hc' hl'
  rintro ⟨A1, c1, salt1⟩ w1 ⟨hz1, he, hp1, hc1, hl1⟩
  simp only at he hp1 hc1 hl1
  rw [← he]
  refine t_weak [(0, .ex h), (1, .ex (.slice A secret.length c)), (2, .ex (.slice A1 salt1.length c1))] ⟨rfl, rfl, rfl, trivial⟩ ?_
  have hs1 := hz1.size
  repeat (first | refine t_seq ?_ | refine t_region ?_ | refine s_nil ?_ | refine p_then ?_ | refine t_ret ?_ | refine p_then_ret ?_ | refine p_block_ret ?_ | refine t_block ?_ | refine t_exit ?_ | refine p_then_exit ?_ | refine p_block_exit ?_ | refine p_block ?_ | refine t_skip ?_)
  refine s_val (v_move rfl) rfl ?_
  refine s_val (v_move rfl) rfl ?_
  refine s_op (o_call rfl (en rfl) (c90  hH h A1 c1 salt1 w1 hm hp1 hc1 (by omega) (hK.only hz1 (by simp)) (by omega))) rfl rfl ?_
  rintro _ w2 hw2 ⟨q, rfl, hM2, hq⟩
  refine s_val (v_assign rfl) rfl ?_
  have hs2 := hw2.size
  have hz2 : Only [] w w2 := hz1.trans hw2
  have hqw : ∀ k ∈ q.fp, w.heap.size ≤ k := fun k hk => by have := hq k hk; omega
  have h00 : 0 ∉ q.fI := fun hk => by have := hqw 0 (by simp [HP.fp, hk]); omega
  have h0O : 0 ∉ q.fO := fun hk => by have := hqw 0 (by simp [HP.fp, hk]); omega
  repeat (first | refine t_seq ?_ | refine t_region ?_ | refine s_nil ?_ | refine p_then ?_ | refine t_ret ?_ | refine p_then_ret ?_ | refine p_block_ret ?_ | refine t_block ?_ | refine t_exit ?_ | refine p_then_exit ?_ | refine p_block_exit ?_ | refine p_block ?_ | refine t_skip ?_)
  refine s_val (v_move rfl) rfl ?_
  refine s_op (o_call rfl (en rfl) (c103 hM2)) rfl rfl ?_
  rintro _ w3 hw3 hM3
  have hz3 : Only [] w w3 := hz2.trans_new hw3 (fun k hk => .inr (by simp at hk; rw [hk]; exact hqw _ (by simp [HP.fp])))
  have hoff : secret ≠ [] → Off A q.fI := fun hne => by
    obtain ⟨gA, iA, rfl, hgA, _⟩ := hp hne
    exact Off.pt (fun hk => by have := hqw gA (by simp [HP.fp, hk]); omega)
  repeat (first | refine t_seq ?_ | refine t_region ?_ | refine s_nil ?_ | refine p_then ?_ | refine t_ret ?_ | refine p_then_ret ?_ | refine p_block_ret ?_ | refine t_block ?_ | refine t_exit ?_ | refine p_then_exit ?_ | refine p_block_exit ?_ | refine p_block ?_ | refine t_skip ?_)
  refine s_val (v_move rfl) rfl ?_
  refine s_val (v_move rfl) rfl ?_
  refine s_op (o_call rfl (en rfl) (c92 hH hM3 (hp.pure hz3) hoff hc (by simp; omega) (hK.only hz3 (by simp)) h00)) rfl rfl ?_
  rintro _ w4 hw4 hM4
  have hz4 : Only [] w w4 := hz3.trans_new hw4 (fun k hk => .inr (hqw k (by simp [HP.fp, hk])))
  repeat (first | refine t_seq ?_ | refine t_region ?_ | refine s_nil ?_ | refine p_then ?_ | refine t_ret ?_ | refine p_then_ret ?_ | refine p_block_ret ?_ | refine t_block ?_ | refine t_exit ?_ | refine p_then_exit ?_ | refine p_block_exit ?_ | refine p_block ?_ | refine t_skip ?_)
  refine s_val (v_move rfl) rfl ?_
  refine s_op (o_call rfl (en rfl) (c93 hH hM4 (Own.nil _) (Nots.nil _) (by simp; omega) (by simp) (hK.only hz4 (by simp)) h0O (Nots.nil _))) rfl rfl ?_
  rintro v w5 hw5 ⟨⟨hv, hk⟩, _⟩
  refine s_val (v_assign rfl) rfl ?_
  repeat (first | refine t_seq ?_ | refine t_region ?_ | refine s_nil ?_ | refine p_then ?_ | refine t_ret ?_ | refine p_then_ret ?_ | refine p_block_ret ?_ | refine t_block ?_ | refine t_exit ?_ | refine p_then_exit ?_ | refine p_block_exit ?_ | refine p_block ?_ | refine t_skip ?_)
  rw [List.nil_append, List.nil_append] at hv
  refine ret1 rfl rfl ⟨_, rfl, hz4.trans_new hw5 (fun k hm => ?_), hv, fun k hkk => ?_⟩
  · rcases List.mem_append.1 hm with hm | hm
    · exact .inr (hqw k (by simp [HP.fp, hm]))
    · cases hm
  · rcases hk k hkk with e | e
    · cases e
    · exact Nat.le_trans hz4.size e

set_option maxHeartbeats 1000000 in
/-- tls13's extract -/
theorem c82  (hH : HK.sha.ok) (h : Value) (A A' : Option Addr) (c c' : Nat) (secret salt : Bytes) (w : World) (hm : Mk HK.sha h) (hp : Rd w A secret) (hc : secret.length ≤ c) (hl : secret.length ≤ 20000) (hnil : secret = [] → A = none)
    (hp' : Rd w A' salt) (hc' : salt.length ≤ c') (hl' : salt.length ≤ 20000) (hnil' : salt = [] → A' = none) (hK : KT w) (hw0 : 0 < w.heap.size) :
    Calls Tryz.prog 82 #[h, .slice A secret.length c, .slice A' salt.length c'] w (Ret [] w (Fresh w (extract HK.sha (given HK.sha secret) salt))) := by
  have hsl := HK.size_le hH
  have hsp := HK.size_pos hH
  refine enter (Γ := [(0, .ex h), (1, .ex (.slice A secret.length c)), (2, .ex (.slice A' salt.length c'))]) Tryz.func82 rfl rfl rfl ⟨⟨_, rfl, rfl⟩, ⟨_, rfl, rfl⟩, ⟨_, rfl, rfl⟩, trivial⟩ ?_
  repeat (first | refine t_seq ?_ | refine t_region ?_ | refine s_nil ?_ | refine p_then ?_ | refine t_ret ?_ | refine p_then_ret ?_ | refine p_block_ret ?_ | refine t_block ?_ | refine t_exit ?_ | refine p_then_exit ?_ | refine p_block_exit ?_ | refine p_block ?_ | refine t_skip ?_)
  refine s_val (v_assign rfl) rfl ?_
  refine s_nil (p_then ?_)
  refine t_cut (fun s : KS => [(0, .ex h), (1, .ex (.slice s.A s.k.length s.c)), (2, .ex (.slice A' salt.length c'))])
    (fun s w' => Only [] w w' ∧ s.k = given HK.sha secret ∧ Rd w' s.A s.k ∧ s.k.length ≤ s.c ∧ s.k.length ≤ 20000) ?_ ?_
  · repeat (first | refine t_seq ?_ | refine t_region ?_ | refine s_nil ?_ | refine p_then ?_ | refine t_ret ?_ | refine p_then_ret ?_ | refine p_block_ret ?_ | refine t_block ?_ | refine t_exit ?_ | refine p_then_exit ?_ | refine p_block_exit ?_ | refine p_block ?_ | refine t_skip ?_)
    refine s_val (v_move rfl) rfl ?_
    refine s_val (v_eqNil rfl rfl (so rfl)) rfl ?_
    repeat (first | refine t_seq ?_ | refine t_region ?_ | refine s_nil ?_ | refine p_then ?_ | refine t_ret ?_ | refine p_then_ret ?_ | refine p_block_ret ?_ | refine t_block ?_ | refine t_exit ?_ | refine p_then_exit ?_ | refine p_block_exit ?_ | refine p_block ?_ | refine t_skip ?_)
    refine t_if rfl (fun hb => ?_) (fun hb => ?_)
    · have hA : A = none := by cases A <;> first | rfl | cases hb
      have hs0 : secret = [] := Classical.byContradiction fun hne => by
        obtain ⟨g, i, e, _⟩ := hp hne
        rw [hA] at e; cases e
      repeat (first | refine t_seq ?_ | refine t_region ?_ | refine s_nil ?_ | refine p_then ?_ | refine t_ret ?_ | refine p_then_ret ?_ | refine p_block_ret ?_ | refine t_block ?_ | refine t_exit ?_ | refine p_then_exit ?_ | refine p_block_exit ?_ | refine p_block ?_ | refine t_skip ?_)
      refine s_val (v_move rfl) rfl ?_
      refine s_op (o_mk (H := HK.sha) (b := w.heap.size) hm rfl (Nat.le_refl _)) rfl rfl ?_
      rintro _ w1 hw1 ⟨g, rfl, fpg, hg, _⟩
      refine s_val (v_makeInterface rfl (co rfl)) rfl ?_
      refine s_op (o_invoke rfl rfl (HK.mez HK.sha _ _) (HK.enz HK.sha) (hSize hg)) rfl rfl ?_
      rintro _ w2 hw2 rfl
      refine s_op (o_makeSlice rt24 rfl rfl (Nat.le_refl _) (by omega) (by omega)) rfl rfl ?_
      rintro _ w3 hw3 ⟨rfl, hB3⟩
      refine s_val (v_assign rfl) rfl ?_
      have hz3 : Only [] w w3 := (hw1.trans hw2).trans hw3
      repeat (first | refine t_seq ?_ | refine t_region ?_ | refine s_nil ?_ | refine p_then ?_ | refine t_ret ?_ | refine p_then_ret ?_ | refine p_block_ret ?_ | refine t_block ?_ | refine t_exit ?_ | refine p_then_exit ?_ | refine p_block_exit ?_ | refine p_block ?_ | refine t_skip ?_)
      have hB3' : Blk w3 w2.heap.size 5 ((zeros HK.sha.size).map B).toArray := by simpa [zeros] using hB3
      refine p_cut ⟨some ⟨w2.heap.size, 0, none⟩, HK.size HK.sha, zeros (HK.size HK.sha)⟩ ⟨rfl, congrArg (fun n => some (Slot.ex (.slice (some ⟨w2.heap.size, 0, none⟩) n (HK.size HK.sha)))) (show HK.size HK.sha = (zeros (HK.size HK.sha)).length by simp [zeros]), rfl, trivial⟩ ⟨hz3, by rw [given, if_pos hs0], hB3'.rd0, by simp [zeros], by simp [zeros]; omega⟩
    · have hA : A ≠ none := by cases A <;> first | (intro e; cases e; done) | cases hb
      have hs0 : secret ≠ [] := fun e => hA (hnil e)
      repeat (first | refine t_seq ?_ | refine t_region ?_ | refine s_nil ?_ | refine p_then ?_ | refine t_ret ?_ | refine p_then_ret ?_ | refine p_block_ret ?_ | refine t_block ?_ | refine t_exit ?_ | refine p_then_exit ?_ | refine p_block_exit ?_ | refine p_block ?_ | refine t_skip ?_)
      exact p_cut ⟨A, c, secret⟩ ⟨rfl, rfl, rfl, trivial⟩ ⟨Only.refl _ _, by rw [given, if_neg hs0], hp, hc, hl⟩
  clear hp hc hl hnil
  rintro ⟨A1, c1, sec1⟩ w1 ⟨hz1, he, hp1, hc1, hl1⟩
  simp only at he hp1 hc1 hl1
  rw [← he]
  refine t_weak [(0, .ex h), (1, .ex (.slice A1 sec1.length c1)), (2, .ex (.slice A' salt.length c'))] ⟨rfl, rfl, rfl, trivial⟩ ?_
  have hs1 := hz1.size
  have hsalt : (if A' = none then zeros HK.sha.size else salt) = given HK.sha salt := by
    unfold given
    by_cases hs : salt = []
    · rw [if_pos hs, if_pos (hnil' hs)]
    · have hA : A' ≠ none := by
        obtain ⟨g, i, e, _⟩ := hp' hs
        rw [e]; intro e'; cases e'
      rw [if_neg hs, if_neg hA]
  have hcall := c97  hH h A1 A' c1 c' sec1 salt w1 hm hp1 hc1 hl1 (hp'.pure hz1) hc' hl' (hK.only hz1 (by simp)) (by omega)
  rw [hsalt] at hcall
  repeat (first | refine t_seq ?_ | refine t_region ?_ | refine s_nil ?_ | refine p_then ?_ | refine t_ret ?_ | refine p_then_ret ?_ | refine p_block_ret ?_ | refine t_block ?_ | refine t_exit ?_ | refine p_then_exit ?_ | refine p_block_exit ?_ | refine p_block ?_ | refine t_skip ?_)
  refine s_val (v_move rfl) rfl ?_
  refine s_val (v_move rfl) rfl ?_
  refine s_val (v_move rfl) rfl ?_
  refine s_op (o_call rfl (en rfl) hcall) rfl rfl ?_
  rintro v w2 hw2 ⟨hv2, hf2⟩
  refine s_val (v_assign rfl) rfl ?_
  repeat (first | refine t_seq ?_ | refine t_region ?_ | refine s_nil ?_ | refine p_then ?_ | refine t_ret ?_ | refine p_then_ret ?_ | refine p_block_ret ?_ | refine t_block ?_ | refine t_exit ?_ | refine p_then_exit ?_ | refine p_block_exit ?_ | refine p_block ?_ | refine t_skip ?_)
  exact ret1 rfl rfl ⟨_, rfl, hz1.trans hw2, hv2, hf2.mono hs1⟩
end Go.Proofs.YtnaefgnjdmmmcaaGreatDoor
/- hkdf.Extract and tls13's extract in the program, at one of their instances. -/
namespace Go.Proofs.YtnaefgnjdmmmcaaGreatDoor
open Go.RowKit
attribute [local irreducible] ValAt OpAt RunX Tr Post FlowK

set_option maxHeartbeats 1000000 in
/-- hkdf.Extract -/
theorem c98 (sz bk : Nat) (hH : (HK.own sz bk).ok) (h : Value) (A A' : Option Addr) (c c' : Nat) (secret salt : Bytes) (w : World) (hm : Mk (HK.own sz bk) h) (hp : Rd w A secret) (hc : secret.length ≤ c) (hl : secret.length ≤ 20000)
    (hp' : Rd w A' salt) (hc' : salt.length ≤ c') (hl' : salt.length ≤ 20000) (hK : KT w) (hw0 : 0 < w.heap.size) :
    Calls Tryz.prog 98 #[h, .slice A secret.length c, .slice A' salt.length c'] w (Ret [] w (Fresh w (mac (HK.own sz bk) (if A' = none then zeros (HK.own sz bk).size else salt) secret))) := by
  have hsl := HK.size_le hH
  have hsp := HK.size_pos hH
  refine enter (Γ := [(0, .ex h), (1, .ex (.slice A secret.length c)), (2, .ex (.slice A' salt.length c'))]) Tryz.func98 rfl rfl rfl ⟨⟨_, rfl, rfl⟩, ⟨_, rfl, rfl⟩, ⟨_, rfl, rfl⟩, trivial⟩ ?_
  repeat (first | refine t_seq ?_ | refine t_region ?_ | refine s_nil ?_ | refine p_then ?_ | refine t_ret ?_ | refine p_then_ret ?_ | refine p_block_ret ?_ | refine t_block ?_ | refine t_exit ?_ | refine p_then_exit ?_ | refine p_block_exit ?_ | refine p_block ?_ | refine t_skip ?_)
  refine s_val (v_assign rfl) rfl ?_
  refine s_nil (p_then ?_)
  refine t_cut (fun s : KS => [(0, .ex h), (1, .ex (.slice A secret.length c)), (2, .ex (.slice s.A s.k.length s.c))])
    (fun s w' => Only [] w w' ∧ s.k = (if A' = none then zeros (HK.own sz bk).size else salt) ∧ Rd w' s.A s.k ∧ s.k.length ≤ s.c ∧ s.k.length ≤ 20000) ?_ ?_
  · repeat (first | refine t_seq ?_ | refine t_region ?_ | refine s_nil ?_ | refine p_then ?_ | refine t_ret ?_ | refine p_then_ret ?_ | refine p_block_ret ?_ | refine t_block ?_ | refine t_exit ?_ | refine p_then_exit ?_ | refine p_block_exit ?_ | refine p_block ?_ | refine t_skip ?_)
    refine s_val (v_move rfl) rfl ?_
    refine s_val (v_eqNil rfl rfl (so rfl)) rfl ?_
    repeat (first | refine t_seq ?_ | refine t_region ?_ | refine s_nil ?_ | refine p_then ?_ | refine t_ret ?_ | refine p_then_ret ?_ | refine p_block_ret ?_ | refine t_block ?_ | refine t_exit ?_ | refine p_then_exit ?_ | refine p_block_exit ?_ | refine p_block ?_ | refine t_skip ?_)
    refine t_if rfl (fun hb => ?_) (fun hb => ?_)
    · have hA : A' = none := by cases A' <;> first | rfl | cases hb
      repeat (first | refine t_seq ?_ | refine t_region ?_ | refine s_nil ?_ | refine p_then ?_ | refine t_ret ?_ | refine p_then_ret ?_ | refine p_block_ret ?_ | refine t_block ?_ | refine t_exit ?_ | refine p_then_exit ?_ | refine p_block_exit ?_ | refine p_block ?_ | refine t_skip ?_)
      refine s_val (v_move rfl) rfl ?_
      refine s_op (o_mk (H := (HK.own sz bk)) (b := w.heap.size) hm rfl (Nat.le_refl _)) rfl rfl ?_
      rintro _ w1 hw1 ⟨g, rfl, fpg, hg, _⟩
      refine s_val (v_makeInterface rfl (co rfl)) rfl ?_
      refine s_op (o_invoke rfl rfl (HK.mez (HK.own sz bk) _ _) (HK.enz (HK.own sz bk)) (hSize hg)) rfl rfl ?_
      rintro _ w2 hw2 rfl
      refine s_op (o_makeSlice rt24 rfl rfl (Nat.le_refl _) (by omega) (by omega)) rfl rfl ?_
      rintro _ w3 hw3 ⟨rfl, hB3⟩
      refine s_val (v_assign rfl) rfl ?_
      have hz3 : Only [] w w3 := (hw1.trans hw2).trans hw3
      repeat (first | refine t_seq ?_ | refine t_region ?_ | refine s_nil ?_ | refine p_then ?_ | refine t_ret ?_ | refine p_then_ret ?_ | refine p_block_ret ?_ | refine t_block ?_ | refine t_exit ?_ | refine p_then_exit ?_ | refine p_block_exit ?_ | refine p_block ?_ | refine t_skip ?_)
      have hB3' : Blk w3 w2.heap.size 5 ((zeros (HK.own sz bk).size).map B).toArray := by simpa [zeros] using hB3
      refine p_cut ⟨some ⟨w2.heap.size, 0, none⟩, HK.size (HK.own sz bk), zeros (HK.size (HK.own sz bk))⟩ ⟨rfl, rfl, congrArg (fun n => some (Slot.ex (.slice (some ⟨w2.heap.size, 0, none⟩) n (HK.size (HK.own sz bk))))) (show HK.size (HK.own sz bk) = (zeros (HK.size (HK.own sz bk))).length by simp [zeros]), trivial⟩ ⟨hz3, by rw [if_pos hA], hB3'.rd0, by simp [zeros], by simp [zeros]; omega⟩
    · have hA : A' ≠ none := by cases A' <;> first | (intro e; cases e; done) | cases hb
      repeat (first | refine t_seq ?_ | refine t_region ?_ | refine s_nil ?_ | refine p_then ?_ | refine t_ret ?_ | refine p_then_ret ?_ | refine p_block_ret ?_ | refine t_block ?_ | refine t_exit ?_ | refine p_then_exit ?_ | refine p_block_exit ?_ | refine p_block ?_ | refine t_skip ?_)
      exact p_cut ⟨A', c', salt⟩ ⟨rfl, rfl, rfl, trivial⟩ ⟨Only.refl _ _, by rw [if_neg hA], hp', hc', hl'⟩
  clear hp' hc' hl'
  rintro ⟨A1, c1, salt1⟩ w1 ⟨hz1, he, hp1, hc1, hl1⟩
  simp only at he hp1 hc1 hl1
  rw [← he]
  refine t_weak [(0, .ex h), (1, .ex (.slice A secret.length c)), (2, .ex (.slice A1 salt1.length c1))] ⟨rfl, rfl, rfl, trivial⟩ ?_
  have hs1 := hz1.size
  repeat (first | refine t_seq ?_ | refine t_region ?_ | refine s_nil ?_ | refine p_then ?_ | refine t_ret ?_ | refine p_then_ret ?_ | refine p_block_ret ?_ | refine t_block ?_ | refine t_exit ?_ | refine p_then_exit ?_ | refine p_block_exit ?_ | refine p_block ?_ | refine t_skip ?_)
  refine s_val (v_move rfl) rfl ?_
  refine s_val (v_move rfl) rfl ?_
  refine s_op (o_call rfl (en rfl) (c94 sz bk hH h A1 c1 salt1 w1 hm hp1 hc1 (by omega) (hK.only hz1 (by simp)) (by omega))) rfl rfl ?_
  rintro _ w2 hw2 ⟨q, rfl, hM2, hq⟩
  refine s_val (v_assign rfl) rfl ?_
  have hs2 := hw2.size
  have hz2 : Only [] w w2 := hz1.trans hw2
  have hqw : ∀ k ∈ q.fp, w.heap.size ≤ k := fun k hk => by have := hq k hk; omega
  have h00 : 0 ∉ q.fI := fun hk => by have := hqw 0 (by simp [HP.fp, hk]); omega
  have h0O : 0 ∉ q.fO := fun hk => by have := hqw 0 (by simp [HP.fp, hk]); omega
  repeat (first | refine t_seq ?_ | refine t_region ?_ | refine s_nil ?_ | refine p_then ?_ | refine t_ret ?_ | refine p_then_ret ?_ | refine p_block_ret ?_ | refine t_block ?_ | refine t_exit ?_ | refine p_then_exit ?_ | refine p_block_exit ?_ | refine p_block ?_ | refine t_skip ?_)
  refine s_val (v_move rfl) rfl ?_
  refine s_op (o_call rfl (en rfl) (c103 hM2)) rfl rfl ?_
  rintro _ w3 hw3 hM3
  have hz3 : Only [] w w3 := hz2.trans_new hw3 (fun k hk => .inr (by simp at hk; rw [hk]; exact hqw _ (by simp [HP.fp])))
  have hoff : secret ≠ [] → Off A q.fI := fun hne => by
    obtain ⟨gA, iA, rfl, hgA, _⟩ := hp hne
    exact Off.pt (fun hk => by have := hqw gA (by simp [HP.fp, hk]); omega)
  repeat (first | refine t_seq ?_ | refine t_region ?_ | refine s_nil ?_ | refine p_then ?_ | refine t_ret ?_ | refine p_then_ret ?_ | refine p_block_ret ?_ | refine t_block ?_ | refine t_exit ?_ | refine p_then_exit ?_ | refine p_block_exit ?_ | refine p_block ?_ | refine t_skip ?_)
  refine s_val (v_move rfl) rfl ?_
  refine s_val (v_move rfl) rfl ?_
  refine s_op (o_call rfl (en rfl) (c92 hH hM3 (hp.pure hz3) hoff hc (by simp; omega) (hK.only hz3 (by simp)) h00)) rfl rfl ?_
  rintro _ w4 hw4 hM4
  have hz4 : Only [] w w4 := hz3.trans_new hw4 (fun k hk => .inr (hqw k (by simp [HP.fp, hk])))
  repeat (first | refine t_seq ?_ | refine t_region ?_ | refine s_nil ?_ | refine p_then ?_ | refine t_ret ?_ | refine p_then_ret ?_ | refine p_block_ret ?_ | refine t_block ?_ | refine t_exit ?_ | refine p_then_exit ?_ | refine p_block_exit ?_ | refine p_block ?_ | refine t_skip ?_)
  refine s_val (v_move rfl) rfl ?_
  refine s_op (o_call rfl (en rfl) (c93 hH hM4 (Own.nil _) (Nots.nil _) (by simp; omega) (by simp) (hK.only hz4 (by simp)) h0O (Nots.nil _))) rfl rfl ?_
  rintro v w5 hw5 ⟨⟨hv, hk⟩, _⟩
  refine s_val (v_assign rfl) rfl ?_
  repeat (first | refine t_seq ?_ | refine t_region ?_ | refine s_nil ?_ | refine p_then ?_ | refine t_ret ?_ | refine p_then_ret ?_ | refine p_block_ret ?_ | refine t_block ?_ | refine t_exit ?_ | refine p_then_exit ?_ | refine p_block_exit ?_ | refine p_block ?_ | refine t_skip ?_)
  rw [List.nil_append, List.nil_append] at hv
  refine ret1 rfl rfl ⟨_, rfl, hz4.trans_new hw5 (fun k hm => ?_), hv, fun k hkk => ?_⟩
  · rcases List.mem_append.1 hm with hm | hm
    · exact .inr (hqw k (by simp [HP.fp, hm]))
    · cases hm
  · rcases hk k hkk with e | e
    · cases e
    · exact Nat.le_trans hz4.size e

set_option maxHeartbeats 1000000 in
/-- tls13's extract -/
theorem c84 (sz bk : Nat) (hH : (HK.own sz bk).ok) (h : Value) (A A' : Option Addr) (c c' : Nat) (secret salt : Bytes) (w : World) (hm : Mk (HK.own sz bk) h) (hp : Rd w A secret) (hc : secret.length ≤ c) (hl : secret.length ≤ 20000) (hnil : secret = [] → A = none)
    (hp' : Rd w A' salt) (hc' : salt.length ≤ c') (hl' : salt.length ≤ 20000) (hnil' : salt = [] → A' = none) (hK : KT w) (hw0 : 0 < w.heap.size) :
    Calls Tryz.prog 84 #[h, .slice A secret.length c, .slice A' salt.length c'] w (Ret [] w (Fresh w (extract (HK.own sz bk) (given (HK.own sz bk) secret) salt))) := by
  have hsl := HK.size_le hH
  have hsp := HK.size_pos hH
  refine enter (Γ := [(0, .ex h), (1, .ex (.slice A secret.length c)), (2, .ex (.slice A' salt.length c'))]) Tryz.func84 rfl rfl rfl ⟨⟨_, rfl, rfl⟩, ⟨_, rfl, rfl⟩, ⟨_, rfl, rfl⟩, trivial⟩ ?_
  repeat (first | refine t_seq ?_ | refine t_region ?_ | refine s_nil ?_ | refine p_then ?_ | refine t_ret ?_ | refine p_then_ret ?_ | refine p_block_ret ?_ | refine t_block ?_ | refine t_exit ?_ | refine p_then_exit ?_ | refine p_block_exit ?_ | refine p_block ?_ | refine t_skip ?_)
  refine s_val (v_assign rfl) rfl ?_
  refine s_nil (p_then ?_)
  refine t_cut (fun s : KS => [(0, .ex h), (1, .ex (.slice s.A s.k.length s.c)), (2, .ex (.slice A' salt.length c'))])
    (fun s w' => Only [] w w' ∧ s.k = given (HK.own sz bk) secret ∧ Rd w' s.A s.k ∧ s.k.length ≤ s.c ∧ s.k.length ≤ 20000) ?_ ?_
  · repeat (first | refine t_seq ?_ | refine t_region ?_ | refine s_nil ?_ | refine p_then ?_ | refine t_ret ?_ | refine p_then_ret ?_ | refine p_block_ret ?_ | refine t_block ?_ | refine t_exit ?_ | refine p_then_exit ?_ | refine p_block_exit ?_ | refine p_block ?_ | refine t_skip ?_)
    refine s_val (v_move rfl) rfl ?_
    refine s_val (v_eqNil rfl rfl (so rfl)) rfl ?_
    repeat (first | refine t_seq ?_ | refine t_region ?_ | refine s_nil ?_ | refine p_then ?_ | refine t_ret ?_ | refine p_then_ret ?_ | refine p_block_ret ?_ | refine t_block ?_ | refine t_exit ?_ | refine p_then_exit ?_ | refine p_block_exit ?_ | refine p_block ?_ | refine t_skip ?_)
    refine t_if rfl (fun hb => ?_) (fun hb => ?_)
    · have hA : A = none := by cases A <;> first | rfl | cases hb
      have hs0 : secret = [] := Classical.byContradiction fun hne => by
        obtain ⟨g, i, e, _⟩ := hp hne
        rw [hA] at e; cases e
      repeat (first | refine t_seq ?_ | refine t_region ?_ | refine s_nil ?_ | refine p_then ?_ | refine t_ret ?_ | refine p_then_ret ?_ | refine p_block_ret ?_ | refine t_block ?_ | refine t_exit ?_ | refine p_then_exit ?_ | refine p_block_exit ?_ | refine p_block ?_ | refine t_skip ?_)
      refine s_val (v_move rfl) rfl ?_
      refine s_op (o_mk (H := (HK.own sz bk)) (b := w.heap.size) hm rfl (Nat.le_refl _)) rfl rfl ?_
      rintro _ w1 hw1 ⟨g, rfl, fpg, hg, _⟩
      refine s_val (v_makeInterface rfl (co rfl)) rfl ?_
      refine s_op (o_invoke rfl rfl (HK.mez (HK.own sz bk) _ _) (HK.enz (HK.own sz bk)) (hSize hg)) rfl rfl ?_
      rintro _ w2 hw2 rfl
      refine s_op (o_makeSlice rt24 rfl rfl (Nat.le_refl _) (by omega) (by omega)) rfl rfl ?_
      rintro _ w3 hw3 ⟨rfl, hB3⟩
      refine s_val (v_assign rfl) rfl ?_
      have hz3 : Only [] w w3 := (hw1.trans hw2).trans hw3
      repeat (first | refine t_seq ?_ | refine t_region ?_ | refine s_nil ?_ | refine p_then ?_ | refine t_ret ?_ | refine p_then_ret ?_ | refine p_block_ret ?_ | refine t_block ?_ | refine t_exit ?_ | refine p_then_exit ?_ | refine p_block_exit ?_ | refine p_block ?_ | refine t_skip ?_)
      have hB3' : Blk w3 w2.heap.size 5 ((zeros (HK.own sz bk).size).map B).toArray := by simpa [zeros] using hB3
      refine p_cut ⟨some ⟨w2.heap.size, 0, none⟩, HK.size (HK.own sz bk), zeros (HK.size (HK.own sz bk))⟩ ⟨rfl, congrArg (fun n => some (Slot.ex (.slice (some ⟨w2.heap.size, 0, none⟩) n (HK.size (HK.own sz bk))))) (show HK.size (HK.own sz bk) = (zeros (HK.size (HK.own sz bk))).length by simp [zeros]), rfl, trivial⟩ ⟨hz3, by rw [given, if_pos hs0], hB3'.rd0, by simp [zeros], by simp [zeros]; omega⟩
    · have hA : A ≠ none := by cases A <;> first | (intro e; cases e; done) | cases hb
      have hs0 : secret ≠ [] := fun e => hA (hnil e)
      repeat (first | refine t_seq ?_ | refine t_region ?_ | refine s_nil ?_ | refine p_then ?_ | refine t_ret ?_ | refine p_then_ret ?_ | refine p_block_ret ?_ | refine t_block ?_ | refine t_exit ?_ | refine p_then_exit ?_ | refine p_block_exit ?_ | refine p_block ?_ | refine t_skip ?_)
      exact p_cut ⟨A, c, secret⟩ ⟨rfl, rfl, rfl, trivial⟩ ⟨Only.refl _ _, by rw [given, if_neg hs0], hp, hc, hl⟩
  clear hp hc hl hnil
  rintro ⟨A1, c1, sec1⟩ w1 ⟨hz1, he, hp1, hc1, hl1⟩
  simp only at he hp1 hc1 hl1
  rw [← he]
  refine t_weak [(0, .ex h), (1, .ex (.slice A1 sec1.length c1)), (2, .ex (.slice A' salt.length c'))] ⟨rfl, rfl, rfl, trivial⟩ ?_
  have hs1 := hz1.size
  have hsalt : (if A' = none then zeros (HK.own sz bk).size else salt) = given (HK.own sz bk) salt := by
    unfold given
    by_cases hs : salt = []
    · rw [if_pos hs, if_pos (hnil' hs)]
    · have hA : A' ≠ none := by
        obtain ⟨g, i, e, _⟩ := hp' hs
        rw [e]; intro e'; cases e'
      rw [if_neg hs, if_neg hA]
  have hcall := c98 sz bk hH h A1 A' c1 c' sec1 salt w1 hm hp1 hc1 hl1 (hp'.pure hz1) hc' hl' (hK.only hz1 (by simp)) (by omega)
  rw [hsalt] at hcall
  repeat (first | refine t_seq ?_ | refine t_region ?_ | refine s_nil ?_ | refine p_then ?_ | refine t_ret ?_ | refine p_then_ret ?_ | refine p_block_ret ?_ | refine t_block ?_ | refine t_exit ?_ | refine p_then_exit ?_ | refine p_block_exit ?_ | refine p_block ?_ | refine t_skip ?_)
  refine s_val (v_move rfl) rfl ?_
  refine s_val (v_move rfl) rfl ?_
  refine s_val (v_move rfl) rfl ?_
  refine s_op (o_call rfl (en rfl) hcall) rfl rfl ?_
  rintro v w2 hw2 ⟨hv2, hf2⟩
  refine s_val (v_assign rfl) rfl ?_
  repeat (first | refine t_seq ?_ | refine t_region ?_ | refine s_nil ?_ | refine p_then ?_ | refine t_ret ?_ | refine p_then_ret ?_ | refine p_block_ret ?_ | refine t_block ?_ | refine t_exit ?_ | refine p_then_exit ?_ | refine p_block_exit ?_ | refine p_block ?_ | refine t_skip ?_)
  exact ret1 rfl rfl ⟨_, rfl, hz1.trans hw2, hv2, hf2.mono hs1⟩
end Go.Proofs.YtnaefgnjdmmmcaaGreatDoor
/- hkdf.Extract and tls13's extract in the program, at one of their instances. -/
namespace Go.Proofs.YtnaefgnjdmmmcaaGreatDoor
open Go.RowKit
attribute [local irreducible] ValAt OpAt RunX Tr Post FlowK

set_option maxHeartbeats 1000000 in
/-- hkdf.Extract -/
theorem c89 (H : HK) (hH : H.ok) (h : Value) (A A' : Option Addr) (c c' : Nat) (secret salt : Bytes) (w : World) (hm : MkI H w h) (hp : Rd w A secret) (hc : secret.length ≤ c) (hl : secret.length ≤ 20000)
    (hp' : Rd w A' salt) (hc' : salt.length ≤ c') (hl' : salt.length ≤ 20000) (hK : KT w) (hw0 : 0 < w.heap.size) :
    Calls Tryz.prog 89 #[h, .slice A secret.length c, .slice A' salt.length c'] w (Ret [] w (Fresh w (mac H (if A' = none then zeros H.size else salt) secret))) := by
  have hsl := HK.size_le hH
  have hsp := HK.size_pos hH
  refine enter (Γ := [(0, .ex h), (1, .ex (.slice A secret.length c)), (2, .ex (.slice A' salt.length c'))]) Tryz.func89 rfl rfl rfl ⟨⟨_, rfl, rfl⟩, ⟨_, rfl, rfl⟩, ⟨_, rfl, rfl⟩, trivial⟩ ?_
  repeat (first | refine t_seq ?_ | refine t_region ?_ | refine s_nil ?_ | refine p_then ?_ | refine t_ret ?_ | refine p_then_ret ?_ | refine p_block_ret ?_ | refine t_block ?_ | refine t_exit ?_ | refine p_then_exit ?_ | refine p_block_exit ?_ | refine p_block ?_ | refine t_skip ?_)
  refine s_val (v_assign rfl) rfl ?_
  refine s_nil (p_then ?_)
  refine t_cut (fun s : KS => [(0, .ex h), (1, .ex (.slice A secret.length c)), (2, .ex (.slice s.A s.k.length s.c))])
    (fun s w' => Only [] w w' ∧ s.k = (if A' = none then zeros H.size else salt) ∧ Rd w' s.A s.k ∧ s.k.length ≤ s.c ∧ s.k.length ≤ 20000) ?_ ?_
  · repeat (first | refine t_seq ?_ | refine t_region ?_ | refine s_nil ?_ | refine p_then ?_ | refine t_ret ?_ | refine p_then_ret ?_ | refine p_block_ret ?_ | refine t_block ?_ | refine t_exit ?_ | refine p_then_exit ?_ | refine p_block_exit ?_ | refine p_block ?_ | refine t_skip ?_)
    refine s_val (v_move rfl) rfl ?_
    refine s_val (v_eqNil rfl rfl (so rfl)) rfl ?_
    repeat (first | refine t_seq ?_ | refine t_region ?_ | refine s_nil ?_ | refine p_then ?_ | refine t_ret ?_ | refine p_then_ret ?_ | refine p_block_ret ?_ | refine t_block ?_ | refine t_exit ?_ | refine p_then_exit ?_ | refine p_block_exit ?_ | refine p_block ?_ | refine t_skip ?_)
    refine t_if rfl (fun hb => ?_) (fun hb => ?_)
    · have hA : A' = none := by cases A' <;> first | rfl | cases hb
      repeat (first | refine t_seq ?_ | refine t_region ?_ | refine s_nil ?_ | refine p_then ?_ | refine t_ret ?_ | refine p_then_ret ?_ | refine p_block_ret ?_ | refine t_block ?_ | refine t_exit ?_ | refine p_then_exit ?_ | refine p_block_exit ?_ | refine p_block ?_ | refine t_skip ?_)
      refine s_val (v_move rfl) rfl ?_
      refine s_op (o_mkI (H := H) (b := w.heap.size) hm rfl (Nat.le_refl _)) rfl rfl ?_
      rintro _ w1 hw1 ⟨g, rfl, fpg, hg, _⟩
      refine s_op (o_invoke rfl rfl (HK.mez H _ _) (HK.enz H) (hSize hg)) rfl rfl ?_
      rintro _ w2 hw2 rfl
      refine s_op (o_makeSlice rt24 rfl rfl (Nat.le_refl _) (by omega) (by omega)) rfl rfl ?_
      rintro _ w3 hw3 ⟨rfl, hB3⟩
      refine s_val (v_assign rfl) rfl ?_
      have hz3 : Only [] w w3 := (hw1.trans hw2).trans hw3
      repeat (first | refine t_seq ?_ | refine t_region ?_ | refine s_nil ?_ | refine p_then ?_ | refine t_ret ?_ | refine p_then_ret ?_ | refine p_block_ret ?_ | refine t_block ?_ | refine t_exit ?_ | refine p_then_exit ?_ | refine p_block_exit ?_ | refine p_block ?_ | refine t_skip ?_)
      have hB3' : Blk w3 w2.heap.size 5 ((zeros H.size).map B).toArray := by simpa [zeros] using hB3
      refine p_cut ⟨some ⟨w2.heap.size, 0, none⟩, HK.size H, zeros (HK.size H)⟩ ⟨rfl, rfl, congrArg (fun n => some (Slot.ex (.slice (some ⟨w2.heap.size, 0, none⟩) n (HK.size H)))) (show HK.size H = (zeros (HK.size H)).length by simp [zeros]), trivial⟩ ⟨hz3, by rw [if_pos hA], hB3'.rd0, by simp [zeros], by simp [zeros]; omega⟩
    · have hA : A' ≠ none := by cases A' <;> first | (intro e; cases e; done) | cases hb
      repeat (first | refine t_seq ?_ | refine t_region ?_ | refine s_nil ?_ | refine p_then ?_ | refine t_ret ?_ | refine p_then_ret ?_ | refine p_block_ret ?_ | refine t_block ?_ | refine t_exit ?_ | refine p_then_exit ?_ | refine p_block_exit ?_ | refine p_block ?_ | refine t_skip ?_)
      exact p_cut ⟨A', c', salt⟩ ⟨rfl, rfl, rfl, trivial⟩ ⟨Only.refl _ _, by rw [if_neg hA], hp', hc', hl'⟩
  clear hp' hc' hl'
  rintro ⟨A1, c1, salt1⟩ w1 ⟨hz1, he, hp1, hc1, hl1⟩
  simp only at he hp1 hc1 hl1
  rw [← he]
  refine t_weak [(0, .ex h), (1, .ex (.slice A secret.length c)), (2, .ex (.slice A1 salt1.length c1))] ⟨rfl, rfl, rfl, trivial⟩ ?_
  have hs1 := hz1.size
  repeat (first | refine t_seq ?_ | refine t_region ?_ | refine s_nil ?_ | refine p_then ?_ | refine t_ret ?_ | refine p_then_ret ?_ | refine p_block_ret ?_ | refine t_block ?_ | refine t_exit ?_ | refine p_then_exit ?_ | refine p_block_exit ?_ | refine p_block ?_ | refine t_skip ?_)
  refine s_val (v_move rfl) rfl ?_
  refine s_val (v_move rfl) rfl ?_
  refine s_op (o_call rfl (en rfl) (c100 H hH h A1 c1 salt1 w1 (hm.only hz1 (fun i hi => by cases hi) (Nat.le_refl _)) hp1 hc1 (by omega) (hK.only hz1 (by simp)) (by omega))) rfl rfl ?_
  rintro _ w2 hw2 ⟨q, rfl, hM2, hq⟩
  refine s_val (v_assign rfl) rfl ?_
  have hs2 := hw2.size
  have hz2 : Only [] w w2 := hz1.trans hw2
  have hqw : ∀ k ∈ q.fp, w.heap.size ≤ k := fun k hk => by have := hq k hk; omega
  have h00 : 0 ∉ q.fI := fun hk => by have := hqw 0 (by simp [HP.fp, hk]); omega
  have h0O : 0 ∉ q.fO := fun hk => by have := hqw 0 (by simp [HP.fp, hk]); omega
  repeat (first | refine t_seq ?_ | refine t_region ?_ | refine s_nil ?_ | refine p_then ?_ | refine t_ret ?_ | refine p_then_ret ?_ | refine p_block_ret ?_ | refine t_block ?_ | refine t_exit ?_ | refine p_then_exit ?_ | refine p_block_exit ?_ | refine p_block ?_ | refine t_skip ?_)
  refine s_val (v_move rfl) rfl ?_
  refine s_op (o_call rfl (en rfl) (c103 hM2)) rfl rfl ?_
  rintro _ w3 hw3 hM3
  have hz3 : Only [] w w3 := hz2.trans_new hw3 (fun k hk => .inr (by simp at hk; rw [hk]; exact hqw _ (by simp [HP.fp])))
  have hoff : secret ≠ [] → Off A q.fI := fun hne => by
    obtain ⟨gA, iA, rfl, hgA, _⟩ := hp hne
    exact Off.pt (fun hk => by have := hqw gA (by simp [HP.fp, hk]); omega)
  repeat (first | refine t_seq ?_ | refine t_region ?_ | refine s_nil ?_ | refine p_then ?_ | refine t_ret ?_ | refine p_then_ret ?_ | refine p_block_ret ?_ | refine t_block ?_ | refine t_exit ?_ | refine p_then_exit ?_ | refine p_block_exit ?_ | refine p_block ?_ | refine t_skip ?_)
  refine s_val (v_move rfl) rfl ?_
  refine s_val (v_move rfl) rfl ?_
  refine s_op (o_call rfl (en rfl) (c92 hH hM3 (hp.pure hz3) hoff hc (by simp; omega) (hK.only hz3 (by simp)) h00)) rfl rfl ?_
  rintro _ w4 hw4 hM4
  have hz4 : Only [] w w4 := hz3.trans_new hw4 (fun k hk => .inr (hqw k (by simp [HP.fp, hk])))
  repeat (first | refine t_seq ?_ | refine t_region ?_ | refine s_nil ?_ | refine p_then ?_ | refine t_ret ?_ | refine p_then_ret ?_ | refine p_block_ret ?_ | refine t_block ?_ | refine t_exit ?_ | refine p_then_exit ?_ | refine p_block_exit ?_ | refine p_block ?_ | refine t_skip ?_)
  refine s_val (v_move rfl) rfl ?_
  refine s_op (o_call rfl (en rfl) (c93 hH hM4 (Own.nil _) (Nots.nil _) (by simp; omega) (by simp) (hK.only hz4 (by simp)) h0O (Nots.nil _))) rfl rfl ?_
  rintro v w5 hw5 ⟨⟨hv, hk⟩, _⟩
  refine s_val (v_assign rfl) rfl ?_
  repeat (first | refine t_seq ?_ | refine t_region ?_ | refine s_nil ?_ | refine p_then ?_ | refine t_ret ?_ | refine p_then_ret ?_ | refine p_block_ret ?_ | refine t_block ?_ | refine t_exit ?_ | refine p_then_exit ?_ | refine p_block_exit ?_ | refine p_block ?_ | refine t_skip ?_)
  rw [List.nil_append, List.nil_append] at hv
  refine ret1 rfl rfl ⟨_, rfl, hz4.trans_new hw5 (fun k hm => ?_), hv, fun k hkk => ?_⟩
  · rcases List.mem_append.1 hm with hm | hm
    · exact .inr (hqw k (by simp [HP.fp, hm]))
    · cases hm
  · rcases hk k hkk with e | e
    · cases e
    · exact Nat.le_trans hz4.size e

set_option maxHeartbeats 1000000 in
/-- tls13's extract -/
theorem c74 (H : HK) (hH : H.ok) (h : Value) (A A' : Option Addr) (c c' : Nat) (secret salt : Bytes) (w : World) (hm : MkI H w h) (hp : Rd w A secret) (hc : secret.length ≤ c) (hl : secret.length ≤ 20000) (hnil : secret = [] → A = none)
    (hp' : Rd w A' salt) (hc' : salt.length ≤ c') (hl' : salt.length ≤ 20000) (hnil' : salt = [] → A' = none) (hK : KT w) (hw0 : 0 < w.heap.size) :
    Calls Tryz.prog 74 #[h, .slice A secret.length c, .slice A' salt.length c'] w (Ret [] w (Fresh w (extract H (given H secret) salt))) := by
  have hsl := HK.size_le hH
  have hsp := HK.size_pos hH
  refine enter (Γ := [(0, .ex h), (1, .ex (.slice A secret.length c)), (2, .ex (.slice A' salt.length c'))]) Tryz.func74 rfl rfl rfl ⟨⟨_, rfl, rfl⟩, ⟨_, rfl, rfl⟩, ⟨_, rfl, rfl⟩, trivial⟩ ?_
  repeat (first | refine t_seq ?_ | refine t_region ?_ | refine s_nil ?_ | refine p_then ?_ | refine t_ret ?_ | refine p_then_ret ?_ | refine p_block_ret ?_ | refine t_block ?_ | refine t_exit ?_ | refine p_then_exit ?_ | refine p_block_exit ?_ | refine p_block ?_ | refine t_skip ?_)
  refine s_val (v_assign rfl) rfl ?_
  refine s_nil (p_then ?_)
  refine t_cut (fun s : KS => [(0, .ex h), (1, .ex (.slice s.A s.k.length s.c)), (2, .ex (.slice A' salt.length c'))])
    (fun s w' => Only [] w w' ∧ s.k = given H secret ∧ Rd w' s.A s.k ∧ s.k.length ≤ s.c ∧ s.k.length ≤ 20000) ?_ ?_
  · repeat (first | refine t_seq ?_ | refine t_region ?_ | refine s_nil ?_ | refine p_then ?_ | refine t_ret ?_ | refine p_then_ret ?_ | refine p_block_ret ?_ | refine t_block ?_ | refine t_exit ?_ | refine p_then_exit ?_ | refine p_block_exit ?_ | refine p_block ?_ | refine t_skip ?_)
    refine s_val (v_move rfl) rfl ?_
    refine s_val (v_eqNil rfl rfl (so rfl)) rfl ?_
    repeat (first | refine t_seq ?_ | refine t_region ?_ | refine s_nil ?_ | refine p_then ?_ | refine t_ret ?_ | refine p_then_ret ?_ | refine p_block_ret ?_ | refine t_block ?_ | refine t_exit ?_ | refine p_then_exit ?_ | refine p_block_exit ?_ | refine p_block ?_ | refine t_skip ?_)
    refine t_if rfl (fun hb => ?_) (fun hb => ?_)
    · have hA : A = none := by cases A <;> first | rfl | cases hb
      have hs0 : secret = [] := Classical.byContradiction fun hne => by
        obtain ⟨g, i, e, _⟩ := hp hne
        rw [hA] at e; cases e
      repeat (first | refine t_seq ?_ | refine t_region ?_ | refine s_nil ?_ | refine p_then ?_ | refine t_ret ?_ | refine p_then_ret ?_ | refine p_block_ret ?_ | refine t_block ?_ | refine t_exit ?_ | refine p_then_exit ?_ | refine p_block_exit ?_ | refine p_block ?_ | refine t_skip ?_)
      refine s_val (v_move rfl) rfl ?_
      refine s_op (o_mkI (H := H) (b := w.heap.size) hm rfl (Nat.le_refl _)) rfl rfl ?_
      rintro _ w1 hw1 ⟨g, rfl, fpg, hg, _⟩
      refine s_op (o_invoke rfl rfl (HK.mez H _ _) (HK.enz H) (hSize hg)) rfl rfl ?_
      rintro _ w2 hw2 rfl
      refine s_op (o_makeSlice rt24 rfl rfl (Nat.le_refl _) (by omega) (by omega)) rfl rfl ?_
      rintro _ w3 hw3 ⟨rfl, hB3⟩
      refine s_val (v_assign rfl) rfl ?_
      have hz3 : Only [] w w3 := (hw1.trans hw2).trans hw3
      repeat (first | refine t_seq ?_ | refine t_region ?_ | refine s_nil ?_ | refine p_then ?_ | refine t_ret ?_ | refine p_then_ret ?_ | refine p_block_ret ?_ | refine t_block ?_ | refine t_exit ?_ | refine p_then_exit ?_ | refine p_block_exit ?_ | refine p_block ?_ | refine t_skip ?_)
      have hB3' : Blk w3 w2.heap.size 5 ((zeros H.size).map B).toArray := by simpa [zeros] using hB3
      refine p_cut ⟨some ⟨w2.heap.size, 0, none⟩, HK.size H, zeros (HK.size H)⟩ ⟨rfl, congrArg (fun n => some (Slot.ex (.slice (some ⟨w2.heap.size, 0, none⟩) n (HK.size H)))) (show HK.size H = (zeros (HK.size H)).length by simp [zeros]), rfl, trivial⟩ ⟨hz3, by rw [given, if_pos hs0], hB3'.rd0, by simp [zeros], by simp [zeros]; omega⟩
    · have hA : A ≠ none := by cases A <;> first | (intro e; cases e; done) | cases hb
      have hs0 : secret ≠ [] := fun e => hA (hnil e)
      repeat (first | refine t_seq ?_ | refine t_region ?_ | refine s_nil ?_ | refine p_then ?_ | refine t_ret ?_ | refine p_then_ret ?_ | refine p_block_ret ?_ | refine t_block ?_ | refine t_exit ?_ | refine p_then_exit ?_ | refine p_block_exit ?_ | refine p_block ?_ | refine t_skip ?_)
      exact p_cut ⟨A, c, secret⟩ ⟨rfl, rfl, rfl, trivial⟩ ⟨Only.refl _ _, by rw [given, if_neg hs0], hp, hc, hl⟩
  clear hp hc hl hnil
  rintro ⟨A1, c1, sec1⟩ w1 ⟨hz1, he, hp1, hc1, hl1⟩
  simp only at he hp1 hc1 hl1
  rw [← he]
  refine t_weak [(0, .ex h), (1, .ex (.slice A1 sec1.length c1)), (2, .ex (.slice A' salt.length c'))] ⟨rfl, rfl, rfl, trivial⟩ ?_
  have hs1 := hz1.size
  have hsalt : (if A' = none then zeros H.size else salt) = given H salt := by
    unfold given
    by_cases hs : salt = []
    · rw [if_pos hs, if_pos (hnil' hs)]
    · have hA : A' ≠ none := by
        obtain ⟨g, i, e, _⟩ := hp' hs
        rw [e]; intro e'; cases e'
      rw [if_neg hs, if_neg hA]
  have hcall := c89 H hH h A1 A' c1 c' sec1 salt w1 (hm.only hz1 (fun i hi => by cases hi) (Nat.le_refl _)) hp1 hc1 hl1 (hp'.pure hz1) hc' hl' (hK.only hz1 (by simp)) (by omega)
  rw [hsalt] at hcall
  repeat (first | refine t_seq ?_ | refine t_region ?_ | refine s_nil ?_ | refine p_then ?_ | refine t_ret ?_ | refine p_then_ret ?_ | refine p_block_ret ?_ | refine t_block ?_ | refine t_exit ?_ | refine p_then_exit ?_ | refine p_block_exit ?_ | refine p_block ?_ | refine t_skip ?_)
  refine s_val (v_move rfl) rfl ?_
  refine s_val (v_move rfl) rfl ?_
  refine s_val (v_move rfl) rfl ?_
  refine s_op (o_call rfl (en rfl) hcall) rfl rfl ?_
  rintro v w2 hw2 ⟨hv2, hf2⟩
  refine s_val (v_assign rfl) rfl ?_
  repeat (first | refine t_seq ?_ | refine t_region ?_ | refine s_nil ?_ | refine p_then ?_ | refine t_ret ?_ | refine p_then_ret ?_ | refine p_block_ret ?_ | refine t_block ?_ | refine t_exit ?_ | refine p_then_exit ?_ | refine p_block_exit ?_ | refine p_block ?_ | refine t_skip ?_)
  exact ret1 rfl rfl ⟨_, rfl, hz1.trans hw2, hv2, hf2.mono hs1⟩
end Go.Proofs.YtnaefgnjdmmmcaaGreatDoor
/- Words for tls13.ExpandLabel; beAppendUint16. -/
namespace Go.Proofs.YtnaefgnjdmmmcaaGreatDoor
open Go.RowKit
theorem grow {w w1 w2 : World} {v v' : Value} {l : Bytes} (hf : From w.heap.size v) (hz : Only [] w w1) (hw : Only v.ownBlock.toList w1 w2) (ha : App w1 v l v' w2) : Own w2 v' l ∧ From w.heap.size v' ∧ Only [] w w2 :=
  ⟨ha.1, fun k hk => (ha.2 k hk).elim (fun e => hf k e) (fun e => Nat.le_trans hz.size e), hz.trans_new hw (fun k hk => .inr (hf k (of_own hk)))⟩
section
attribute [local irreducible] ValAt OpAt RunX Tr Post FlowK
/-- tls13's beAppendUint16 -/
theorem c75 (v : Value) (l : Bytes) (n : Nat) (w : World) (hv : Own w v l) (hl : l.length ≤ 60000) : Calls Tryz.prog 75 #[v, .int .u16 (n : Int)] w (Ret v.ownBlock.toList w (App w v (l ++ [UInt8.ofNat (n / 256), UInt8.ofNat n]))) := by
  refine enter (Γ := [(0, .ex v), (1, .ex (.int .u16 (n : Int)))]) Tryz.func75 rfl rfl rfl ⟨⟨_, rfl, rfl⟩, ⟨_, rfl, rfl⟩, trivial⟩ ?_
  repeat (first | refine t_seq ?_ | refine t_region ?_ | refine s_nil ?_ | refine p_then ?_ | refine t_ret ?_ | refine p_then_ret ?_ | refine p_block_ret ?_ | refine t_block ?_ | refine t_exit ?_ | refine p_then_exit ?_ | refine p_block_exit ?_ | refine p_block ?_ | refine t_skip ?_)
  refine s_val (v_assign rfl) rfl ?_
  repeat (first | refine t_seq ?_ | refine t_region ?_ | refine s_nil ?_ | refine p_then ?_ | refine t_ret ?_ | refine p_then_ret ?_ | refine p_block_ret ?_ | refine t_block ?_ | refine t_exit ?_ | refine p_then_exit ?_ | refine p_block_exit ?_ | refine p_block ?_ | refine t_skip ?_)
  refine s_val (v_move rfl) rfl ?_
  refine s_val (v_move rfl) rfl ?_
  refine s_val (v_shrL rfl opc (by show 8 ≤ 16; decide)) rfl ?_
  refine s_val (v_convIB rfl (ko rfl) (ko rfl)) rfl ?_
  refine s_val (v_move rfl) rfl ?_
  refine s_val (v_convIB rfl (ko rfl) (ko rfl)) rfl ?_
  refine s_op (o_buildSlice rt24 rfl rfl rfl (by show 0 < 2; decide) (by show 2 ≤ 16777216; decide) (by simp [Value.cells])) rfl rfl ?_
  rintro _ w1 hw1 ⟨rfl, hB1⟩
  refine s_op (o_appB (m := [UInt8.ofNat (n / 2 ^ 8), UInt8.ofNat n]) rt24 rfl rfl rfl Tryz.underlying24 (hv.only hw1 (by simp [Nots])) hB1.rd0 (by simp; omega) mem_own) rfl rfl ?_
  rintro v2 w2 hw2 ⟨hv2, hk2⟩
  refine s_val (v_assign rfl) rfl ?_
  repeat (first | refine t_seq ?_ | refine t_region ?_ | refine s_nil ?_ | refine p_then ?_ | refine t_ret ?_ | refine p_then_ret ?_ | refine p_block_ret ?_ | refine t_block ?_ | refine t_exit ?_ | refine p_then_exit ?_ | refine p_block_exit ?_ | refine p_block ?_ | refine t_skip ?_)
  exact ret1 rfl rfl ⟨_, rfl, (hw1.mono (by simp)).trans hw2, hv2, fun k hk => (hk2 k hk).imp id (fun e => Nat.le_trans hw1.size e)⟩
end
theorem u16_wrap {n : Nat} (h : n < 65536) : (Value.int .u16 (IntKind.u16.wrap (n : Int))) = .int .u16 (n : Int) := by
  rw [IntKind.wrap_u16]; congr 1; omega
end Go.Proofs.YtnaefgnjdmmmcaaGreatDoor
