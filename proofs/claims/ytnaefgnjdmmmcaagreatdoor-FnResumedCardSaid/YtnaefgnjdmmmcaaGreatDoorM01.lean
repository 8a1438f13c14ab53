/-
  What is proved here, of the given program in the given model, of every input, with no condition but those that each theorem states ahead of its conclusion: THE PLAIN FUNCTIONS: hashes, HMAC, HKDF, the key schedule on lists of bytes. No Go, no program. A CALCULUS OVER 'Code.wp': what the slots hold is an environment; a region is gone through operation by operation; a region that draws its order by its dependencies, whatever the order. A REGION THAT DRAWS ITS ORDER, by its dependencies: each operation is proved once, of every state in which it can stand; the last ones, which wait for all others, in their order. WORDS FOR MEMORY: a block that is known whole; a world that has turned at most the blocks of a list; a slice that reads as a list of bytes. ONE RULE AN OPERATION: what it gives, out of what is known of its operands.
-/
import Derived.Calls
import Derived.WalkKit
import Derived.Deep.LoopGhost
/- THE PLAIN FUNCTIONS: hashes, HMAC, HKDF, the key schedule on lists of bytes. No Go, no program. -/
namespace Go.Proofs.YtnaefgnjdmmmcaaGreatDoor

abbrev Bytes := List UInt8

/-! ## The hash of the thin package -/
def ownAt (size : Nat) (st : Bytes) (n : Nat) (b : UInt8) : Bytes :=
  let s1 := st.set (n % size) (31 * st.getD (n % size) 0 + b + UInt8.ofNat n)
  s1.set ((n + 1) % size) (s1.getD ((n + 1) % size) 0 ^^^ s1.getD (n % size) 0)
def ownFrom (size : Nat) : Bytes → Nat → Bytes → Bytes
  | st, _, [] => st
  | st, n, b :: l => ownFrom size (ownAt size st n b) (n + 1) l
def ownInit (size : Nat) : Bytes := (List.range size).map UInt8.ofNat
def ownState (size : Nat) (l : Bytes) : Bytes := ownFrom size (ownInit size) 0 l
def ownHash (size : Nat) (l : Bytes) : Bytes := (ownState size l).map (· + UInt8.ofNat l.length)

theorem ownAt_length (size : Nat) (st : Bytes) (n : Nat) (b : UInt8) : (ownAt size st n b).length = st.length := by simp [ownAt]
theorem ownFrom_length (size : Nat) (l : Bytes) : ∀ (st : Bytes) (n : Nat), (ownFrom size st n l).length = st.length := by
  induction l with
  | nil => intro st n; rfl
  | cons b l ih => intro st n; rw [ownFrom, ih, ownAt_length]
theorem ownFrom_append (size : Nat) (l m : Bytes) : ∀ (st : Bytes) (n : Nat), ownFrom size st n (l ++ m) = ownFrom size (ownFrom size st n l) (n + l.length) m := by
  induction l with
  | nil => intro st n; rfl
  | cons b l ih => intro st n; rw [List.cons_append, ownFrom, ih, ownFrom, List.length_cons, Nat.add_assoc, Nat.add_comm 1]
theorem ownState_length (size : Nat) (l : Bytes) : (ownState size l).length = size := by simp [ownState, ownFrom_length, ownInit]
theorem ownHash_length (size : Nat) (l : Bytes) : (ownHash size l).length = size := by simp [ownHash, ownState_length]
theorem ownState_append (size : Nat) (l m : Bytes) : ownState size (l ++ m) = ownFrom size (ownState size l) l.length m := by
  rw [ownState, ownFrom_append, Nat.zero_add]; rfl
theorem ownState_snoc (size : Nat) (l : Bytes) (b : UInt8) : ownState size (l ++ [b]) = ownAt size (ownState size l) l.length b := by
  rw [ownState_append]; rfl

/-! ## SHA-256 -/
def ror (x : UInt32) (n : UInt32) : UInt32 := x >>> n ||| x <<< (32 - n)
def shaK : List UInt32 := [
  0x428a2f98, 0x71374491, 0xb5c0fbcf, 0xe9b5dba5, 0x3956c25b, 0x59f111f1, 0x923f82a4, 0xab1c5ed5,
  0xd807aa98, 0x12835b01, 0x243185be, 0x550c7dc3, 0x72be5d74, 0x80deb1fe, 0x9bdc06a7, 0xc19bf174,
  0xe49b69c1, 0xefbe4786, 0x0fc19dc6, 0x240ca1cc, 0x2de92c6f, 0x4a7484aa, 0x5cb0a9dc, 0x76f988da,
  0x983e5152, 0xa831c66d, 0xb00327c8, 0xbf597fc7, 0xc6e00bf3, 0xd5a79147, 0x06ca6351, 0x14292967,
  0x27b70a85, 0x2e1b2138, 0x4d2c6dfc, 0x53380d13, 0x650a7354, 0x766a0abb, 0x81c2c92e, 0x92722c85,
  0xa2bfe8a1, 0xa81a664b, 0xc24b8b70, 0xc76c51a3, 0xd192e819, 0xd6990624, 0xf40e3585, 0x106aa070,
  0x19a4c116, 0x1e376c08, 0x2748774c, 0x34b0bcb5, 0x391c0cb3, 0x4ed8aa4a, 0x5b9cca4f, 0x682e6ff3,
  0x748f82ee, 0x78a5636f, 0x84c87814, 0x8cc70208, 0x90befffa, 0xa4506ceb, 0xbef9a3f7, 0xc67178f2]
structure Regs where
  a : UInt32
  b : UInt32
  c : UInt32
  d : UInt32
  e : UInt32
  f : UInt32
  g : UInt32
  h : UInt32
def shaIV : Regs := ⟨0x6a09e667, 0xbb67ae85, 0x3c6ef372, 0xa54ff53a, 0x510e527f, 0x9b05688c, 0x1f83d9ab, 0x5be0cd19⟩
/-- Four bytes as a word, the great end first. -/
def word (b0 b1 b2 b3 : UInt8) : UInt32 := b0.toUInt32 <<< 24 ||| b1.toUInt32 <<< 16 ||| b2.toUInt32 <<< 8 ||| b3.toUInt32
def wordAt (p : Bytes) (i : Nat) : UInt32 := word (p.getD (4 * i) 0) (p.getD (4 * i + 1) 0) (p.getD (4 * i + 2) 0) (p.getD (4 * i + 3) 0)
def sig0 (x : UInt32) : UInt32 := ror x 7 ^^^ ror x 18 ^^^ x >>> 3
def sig1 (x : UInt32) : UInt32 := ror x 17 ^^^ ror x 19 ^^^ x >>> 10
/-- The words of the message schedule. -/
def sched (p : Bytes) (t : Nat) : UInt32 :=
  if t < 16 then wordAt p t
  else sig1 (sched p (t - 2)) + sched p (t - 7) + sig0 (sched p (t - 15)) + sched p (t - 16)
theorem sched_lo (p : Bytes) {t : Nat} (h : t < 16) : sched p t = wordAt p t := by rw [sched, if_pos h]
theorem sched_hi (p : Bytes) {t : Nat} (h : 16 ≤ t) : sched p t = sig1 (sched p (t - 2)) + sched p (t - 7) + sig0 (sched p (t - 15)) + sched p (t - 16) := by
  rw [sched, if_neg (by omega)]
def t1Of (v : Regs) (k w : UInt32) : UInt32 := v.h + (ror v.e 6 ^^^ ror v.e 11 ^^^ ror v.e 25) + (v.e &&& v.f ^^^ ~~~ v.e &&& v.g) + k + w
def t2Of (v : Regs) : UInt32 := (ror v.a 2 ^^^ ror v.a 13 ^^^ ror v.a 22) + (v.a &&& v.b ^^^ v.a &&& v.c ^^^ v.b &&& v.c)
def roundOf (v : Regs) (k w : UInt32) : Regs := ⟨t1Of v k w + t2Of v, v.a, v.b, v.c, v.d + t1Of v k w, v.e, v.f, v.g⟩
def rounds (p : Bytes) (v : Regs) : Nat → Regs
  | 0 => v
  | n + 1 => roundOf (rounds p v n) (shaK.getD n 0) (sched p n)
def Regs.plus (x y : Regs) : Regs := ⟨x.a + y.a, x.b + y.b, x.c + y.c, x.d + y.d, x.e + y.e, x.f + y.f, x.g + y.g, x.h + y.h⟩
def compress (v : Regs) (p : Bytes) : Regs := v.plus (rounds p v 64)
/-- All whole blocks of l taken in. -/
def blocks (v : Regs) (l : Bytes) : Regs :=
  if _h : 64 ≤ l.length then blocks (compress v (l.take 64)) (l.drop 64) else v
termination_by l.length
decreasing_by simp; omega
theorem blocks_short (v : Regs) {l : Bytes} (h : l.length < 64) : blocks v l = v := by rw [blocks, dif_neg (by omega)]
theorem blocks_step (v : Regs) {l : Bytes} (h : 64 ≤ l.length) : blocks v l = blocks (compress v (l.take 64)) (l.drop 64) := by rw [blocks, dif_pos h]
def be32 (x : UInt32) : Bytes := [(x >>> 24).toUInt8, (x >>> 16).toUInt8, (x >>> 8).toUInt8, x.toUInt8]
def be64 (n : Nat) : Bytes := [UInt8.ofNat (n / 2 ^ 56), UInt8.ofNat (n / 2 ^ 48), UInt8.ofNat (n / 2 ^ 40), UInt8.ofNat (n / 2 ^ 32), UInt8.ofNat (n / 2 ^ 24), UInt8.ofNat (n / 2 ^ 16), UInt8.ofNat (n / 2 ^ 8), UInt8.ofNat n]
def zeros (n : Nat) : Bytes := List.replicate n 0
/-- How many noughts stand behind the one bit. -/
def padZeros (n : Nat) : Nat := if n % 64 < 56 then 55 - n % 64 else 119 - n % 64
def padding (n : Nat) : Bytes := 0x80 :: (zeros (padZeros n) ++ be64 (8 * n))
def Regs.bytes (v : Regs) : Bytes := be32 v.a ++ be32 v.b ++ be32 v.c ++ be32 v.d ++ be32 v.e ++ be32 v.f ++ be32 v.g ++ be32 v.h
def sha (l : Bytes) : Bytes := (blocks shaIV (l ++ padding l.length)).bytes

theorem blocks_append (l m : Bytes) : ∀ (v : Regs), 64 ∣ l.length → blocks v (l ++ m) = blocks (blocks v l) m := by
  induction h : l.length using Nat.strongRecOn generalizing l with
  | _ n ih =>
    intro v hd
    by_cases h64 : 64 ≤ l.length
    · rw [blocks_step v h64, blocks_step v (by simp; omega)]
      have e1 : (l ++ m).take 64 = l.take 64 := by rw [List.take_append_of_le_length h64]
      have e2 : (l ++ m).drop 64 = l.drop 64 ++ m := by rw [List.drop_append_of_le_length h64]
      rw [e1, e2]
      exact ih (l.drop 64).length (by simp; omega) _ rfl _ (by simp; omega)
    · have : l = [] := List.eq_nil_of_length_eq_zero (by omega)
      subst this
      rw [List.nil_append, blocks_short v (l := []) (by decide)]
theorem bytes_length (v : Regs) : v.bytes.length = 32 := by simp [Regs.bytes, be32]
theorem sha_length (l : Bytes) : (sha l).length = 32 := bytes_length _
theorem padding_length (n : Nat) : (n + (padding n).length) % 64 = 0 := by
  simp only [padding, zeros, be64, List.length_cons, List.length_append, List.length_replicate, List.length_nil, padZeros]
  split <;> omega

/-! ## A hash, whichever -/
inductive HK where
  | sha
  | own (size block : Nat)
def HK.size : HK → Nat
  | .sha => 32
  | .own s _ => s
def HK.block : HK → Nat
  | .sha => 64
  | .own _ b => b
def HK.hash : HK → Bytes → Bytes
  | .sha, l => YtnaefgnjdmmmcaaGreatDoor.sha l
  | .own s _, l => ownHash s l
def HK.ok : HK → Prop
  | .sha => True
  | .own s b => 1 ≤ s ∧ s ≤ 16 ∧ s ≤ b ∧ b ≤ 32
def hkOf (k s b : Int) : HK := if k = 1 then .sha else if s < 1 ∨ s > 16 ∨ b < s ∨ b > 32 then .own 1 16 else .own s.toNat b.toNat
theorem hkOf_ok (k s b : Int) : (hkOf k s b).ok := by
  unfold hkOf; split
  · trivial
  · split <;> simp only [HK.ok] <;> omega
theorem HK.hash_length (H : HK) (l : Bytes) : (H.hash l).length = H.size := by cases H <;> simp [HK.hash, HK.size, sha_length, ownHash_length]
theorem HK.size_pos {H : HK} (h : H.ok) : 1 ≤ H.size := by cases H <;> simp [HK.ok, HK.size] at * <;> omega
theorem HK.size_le {H : HK} (h : H.ok) : H.size ≤ 32 := by cases H <;> simp [HK.ok, HK.size] at * <;> omega
theorem HK.size_le_block {H : HK} (h : H.ok) : H.size ≤ H.block := by cases H <;> simp [HK.ok, HK.size, HK.block] at * <;> omega
theorem HK.block_le {H : HK} (h : H.ok) : H.block ≤ 64 := by cases H <;> simp [HK.ok, HK.block] at * <;> omega

/-! ## HMAC, HKDF -/
def shortKey (H : HK) (key : Bytes) : Bytes := if H.block < key.length then H.hash key else key
def padded (H : HK) (key : Bytes) (x : UInt8) : Bytes := ((shortKey H key) ++ zeros (H.block - (shortKey H key).length)).map (· ^^^ x)
def mac (H : HK) (key data : Bytes) : Bytes := H.hash (padded H key 0x5c ++ H.hash (padded H key 0x36 ++ data))
theorem shortKey_length {H : HK} (h : H.ok) (key : Bytes) : (shortKey H key).length ≤ H.block := by
  unfold shortKey; split
  · rw [H.hash_length]; exact HK.size_le_block h
  · omega
theorem padded_length {H : HK} (h : H.ok) (key : Bytes) (x : UInt8) : (padded H key x).length = H.block := by
  have := shortKey_length h key
  simp [padded, zeros]; omega
theorem mac_length (H : HK) (key data : Bytes) : (mac H key data).length = H.size := H.hash_length _
/-- A secret; as many noughts as the hash has bytes, if there is none. -/
def given (H : HK) (s : Bytes) : Bytes := if s = [] then zeros H.size else s
def extract (H : HK) (secret salt : Bytes) : Bytes := mac H (given H salt) secret
/-- T(i) -/
def tee (H : HK) (prk info : Bytes) : Nat → Bytes
  | 0 => []
  | i + 1 => mac H prk (tee H prk info i ++ info ++ [UInt8.ofNat (i + 1)])
/-- T(1), T(2), .., T(i) -/
def tees (H : HK) (prk info : Bytes) : Nat → Bytes
  | 0 => []
  | i + 1 => tees H prk info i ++ tee H prk info (i + 1)
def expand (H : HK) (prk info : Bytes) (n : Nat) : Bytes := (tees H prk info n).take n
theorem tee_length (H : HK) (prk info : Bytes) (i : Nat) : (tee H prk info (i + 1)).length = H.size := mac_length _ _ _
theorem tees_length (H : HK) (prk info : Bytes) (i : Nat) : (tees H prk info i).length = i * H.size := by
  induction i with
  | zero => simp [tees]
  | succ i ih => rw [tees, List.length_append, ih, tee_length, Nat.succ_mul]
theorem tees_prefix (H : HK) (prk info : Bytes) (i j : Nat) : ∃ r, tees H prk info (i + j) = tees H prk info i ++ r := by
  induction j with
  | zero => exact ⟨[], by simp⟩
  | succ j ih => obtain ⟨r, h⟩ := ih; exact ⟨r ++ tee H prk info (i + j + 1), by rw [← Nat.add_assoc, tees, h, List.append_assoc]⟩
theorem tees_take {H : HK} {prk info : Bytes} {i j n : Nat} (hi : n ≤ i * H.size) (hj : n ≤ j * H.size) : (tees H prk info i).take n = (tees H prk info j).take n := by
  rcases Nat.le_total i j with h | h
  · obtain ⟨r, e⟩ := tees_prefix H prk info i (j - i)
    rw [Nat.add_sub_cancel' h] at e
    rw [e, List.take_append_of_le_length (by rw [tees_length]; exact hi)]
  · obtain ⟨r, e⟩ := tees_prefix H prk info j (i - j)
    rw [Nat.add_sub_cancel' h] at e
    rw [e, List.take_append_of_le_length (by rw [tees_length]; exact hj)]
theorem expand_eq {H : HK} (h : H.ok) {prk info : Bytes} {n i : Nat} (hi : n ≤ i * H.size) : expand H prk info n = (tees H prk info i).take n :=
  tees_take (Nat.le_mul_of_pos_right n (HK.size_pos h)) hi
theorem expand_length {H : HK} (h : H.ok) (prk info : Bytes) (n : Nat) : (expand H prk info n).length = n := by
  have := HK.size_pos h
  rw [expand, List.length_take, tees_length]
  exact Nat.min_eq_left (Nat.le_mul_of_pos_right n this)

/-! ## The key schedule -/
def str (s : String) : Bytes := s.toUTF8.data.toList
/-- HkdfLabel -/
def labelOf (label ctx : Bytes) (n : Nat) : Bytes :=
  [UInt8.ofNat (n / 256), UInt8.ofNat n, UInt8.ofNat (6 + label.length)] ++ ([0x74, 0x6c, 0x73, 0x31, 0x33, 0x20] ++ label) ++ [UInt8.ofNat ctx.length] ++ ctx
def expandLabel (H : HK) (secret label ctx : Bytes) (n : Nat) : Bytes := expand H secret (labelOf label ctx n) n
def derive (H : HK) (secret label messages : Bytes) : Bytes := expandLabel H secret label (H.hash messages) H.size
def early (H : HK) (psk : Bytes) : Bytes := extract H (given H psk) []
def derived : Bytes := [0x64, 0x65, 0x72, 0x69, 0x76, 0x65, 0x64]
def handshake (H : HK) (psk shared : Bytes) : Bytes := extract H (given H shared) (derive H (early H psk) derived [])
def master (H : HK) (psk shared : Bytes) : Bytes := extract H (given H []) (derive H (handshake H psk shared) derived [])
end Go.Proofs.YtnaefgnjdmmmcaaGreatDoor
/- A CALCULUS OVER 'Code.wp': what the slots hold is an environment; a region is gone through operation by operation; a region that draws its order by its dependencies, whatever the order. -/
namespace Go.Proofs.YtnaefgnjdmmmcaaGreatDoor

abbrev Pred := Value → World → Prop
/-- What is known of a slot: its value, or a predicate. -/
inductive Slot where
  | ex (v : Value)
  | ab (p : Pred)
def Slot.has : Slot → Value → World → Prop
  | .ex v, u, _ => u = v
  | .ab p, u, w => p u w
def Slot.stable (R : World → World → Prop) (s : Slot) : Prop := ∀ u w w', s.has u w → R w w' → s.has u w'
theorem Slot.stable_ex (R : World → World → Prop) (v : Value) : (Slot.ex v).stable R := fun _ _ _ h _ => h
abbrev Env := List (Nat × Slot)
def Env.find : Env → Nat → Option Slot
  | [], _ => none
  | (k, s) :: r, t => bif Nat.beq k t then some s else Env.find r t
def Env.exact : Env → Bool
  | [] => true
  | (_, .ex _) :: r => Env.exact r
  | (_, .ab _) :: _ => false
def look (a : Act) (t : Nat) : Value := a.tmps.getD t undef
def Env.op (Γ : Env) : Operand → Option Slot
  | .tmp t => Γ.find t
  | .const v => some (.ex v)
  | .global g => some (.ex (.pointer (some ⟨g, 0, none⟩)))
  | .func f => some (.ex (.func (.func f) #[] #[]))

structure Sat (N : Nat) (Γ : Env) (a : Act) (w : World) : Prop where
  size : a.tmps.size = N
  defers : a.defers = []
  get : ∀ t s, Γ.find t = some s → s.has (look a t) w
/-- What an operation may ask: its own operands. -/
structure SatOn (N : Nat) (Γ : Env) (o : Oper) (a : Act) (w : World) : Prop where
  size : a.tmps.size = N
  defers : a.defers = []
  get : ∀ x, x ∈ o.op.operands → ∀ s, Γ.op x = some s → s.has (a.eval x) w

section
variable {N : Nat} {Γ : Env} {a : Act} {w w' : World} {P : Program}
theorem Env.find_cons_same (d : Nat) (s : Slot) : Env.find ((d, s) :: Γ) d = some s := by simp [Env.find]
theorem Env.find_cons_ne {d t : Nat} (s : Slot) (h : d ≠ t) : Env.find ((d, s) :: Γ) t = Γ.find t := by
  have : Nat.beq d t = false := by
    cases hb : Nat.beq d t with
    | false => rfl
    | true => exact absurd (Nat.eq_of_beq_eq_true hb) h
  simp [Env.find, this]
theorem Env.exact_stable (R : World → World → Prop) : ∀ {Γ : Env}, Γ.exact = true → ∀ t s, Γ.find t = some s → s.stable R
  | [], _, _, _, h => by cases h
  | (k, .ex v) :: r, he, t, s, h => by
    by_cases hk : k = t
    · subst hk
      rw [Env.find_cons_same] at h
      cases h
      exact Slot.stable_ex R v
    · rw [Env.find_cons_ne _ hk] at h
      exact Env.exact_stable R (Γ := r) he t s h
  | (_, .ab _) :: _, he, _, _, _ => by cases he
theorem look_put_same {d : Nat} (h : d < a.tmps.size) (v : Value) : look (a.put (some d) v) d = v := by simp [look, Act.put, h]
theorem look_put_ne {d t : Nat} (h : d ≠ t) (v : Value) : look (a.put (some d) v) t = look a t := by
  simp [look, Act.put, Array.getElem?_setIfInBounds_ne h]
theorem size_put (d : Option Tmp) (v : Value) : (a.put d v).tmps.size = a.tmps.size := by cases d <;> simp [Act.put]
theorem defers_put (d : Option Tmp) (v : Value) : (a.put d v).defers = a.defers := by cases d <;> rfl
theorem Sat.op (h : Sat N Γ a w) {x : Operand} {s : Slot} (hx : Γ.op x = some s) : s.has (a.eval x) w := by
  cases x with
  | tmp t => exact h.get t s hx
  | const v => cases hx; rfl
  | global g => cases hx; rfl
  | func f => cases hx; rfl
theorem Sat.on (h : Sat N Γ a w) (o : Oper) : SatOn N Γ o a w := ⟨h.size, h.defers, fun _ _ _ hx => h.op hx⟩
theorem SatOn.val {o : Oper} (h : SatOn N Γ o a w) {x : Operand} {v : Value} (hm : x ∈ o.op.operands) (hx : Γ.op x = some (.ex v)) : a.eval x = v := h.get x hm _ hx
theorem Sat.put (h : Sat N Γ a w) {d : Nat} {s : Slot} {v : Value} (hd : d < N) (hst : ∀ t s, Γ.find t = some s → ∀ u, s.has u w → s.has u w') (hv : s.has v w') : Sat N ((d, s) :: Γ) (a.put (some d) v) w' := by
  refine ⟨by rw [size_put, h.size], by rw [defers_put, h.defers], fun t s' ht => ?_⟩
  by_cases hdt : d = t
  · subst hdt
    rw [Env.find_cons_same] at ht
    cases ht
    rw [look_put_same (by rw [h.size]; exact hd)]
    exact hv
  · rw [Env.find_cons_ne _ hdt] at ht
    rw [look_put_ne hdt]
    exact hst t s' ht _ (h.get t s' ht)

/-! ## One operation -/
/-- It gives a value, and turns nothing. -/
def ValAt (P : Program) (N : Nat) (Γ : Env) (w : World) (o : Oper) (v : Value) : Prop :=
  ∀ a, SatOn N Γ o a w → (execOp a.eval o).run P w = .ok (.value v) w
/-- It gives a value of which S holds; the world moves by R. -/
def OpAt (P : Program) (N : Nat) (Γ : Env) (w : World) (o : Oper) (R : World → World → Prop) (S : Pred) : Prop :=
  ∀ a, SatOn N Γ o a w → ∀ (K : Act → World → Prop) (Q : Exit → Act → World → Prop), (∀ v w', R w w' → S v w' → K (a.put o.dst v) w') → o.wp P a w K Q

theorem ValAt.opAt {o : Oper} {v : Value} {R : World → World → Prop} (h : ValAt P N Γ w o v) (hR : R w w) : OpAt P N Γ w o R (Slot.ex v).has := by
  intro a ha K Q hK
  unfold Oper.wp
  rw [h a ha]
  exact hK v w hR rfl
theorem opAt_val {o : Oper} {R : World → World → Prop} {S : Pred} (h : ∀ a, SatOn N Γ o a w → ∃ v w', (execOp a.eval o).run P w = .ok (.value v) w' ∧ R w w' ∧ S v w') : OpAt P N Γ w o R S := by
  intro a ha K Q hK
  obtain ⟨v, w', hr, h1, h2⟩ := h a ha
  unfold Oper.wp
  rw [hr]
  exact hK v w' h1 h2
theorem opAt_enter {o : Oper} {R : World → World → Prop} {S : Pred} (h : ∀ a, SatOn N Γ o a w → ∃ f args, (execOp a.eval o).run P w = .ok (.enter f args) w ∧ Calls P f args w (fun e w' => ∃ v, e = .returned v ∧ R w w' ∧ S v w')) : OpAt P N Γ w o R S := by
  intro a ha K Q hK
  obtain ⟨f, args, hr, hc⟩ := h a ha
  unfold Oper.wp
  rw [hr]
  refine Calls.mono hc ?_
  rintro e w' ⟨v, rfl, h1, h2⟩
  exact hK v w' h1 h2

/-! ## A list of operations, in their order -/
def RunX (P : Program) (N : Nat) (ops : Array Oper) (Q : Exit → Act → World → Prop) (Γ : Env) (l : List Oper) (w : World) : Prop :=
  ∀ a, Sat N Γ a w → wpList P ops Q l a w
variable {ops : Array Oper} {Q : Exit → Act → World → Prop} {rest : List Oper}

theorem wpList_plain' {o : Oper} (hg : o.guard = none) (h : o.wp P a w (wpList P ops Q rest) Q) : wpList P ops Q (o :: rest) a w := by
  simp only [wpList, Region.wanted, hg, if_true]
  exact .inl h
theorem s_val {d : Nat} {op : Op} {ty : TypeId} {pos : String} {af : Array Edge} {v : Value} (h : ValAt P N Γ w ⟨some d, op, ty, pos, af, none⟩ v) (hd : Nat.blt d N = true)
    (K : RunX P N ops Q ((d, .ex v) :: Γ) rest w) : RunX P N ops Q Γ (⟨some d, op, ty, pos, af, none⟩ :: rest) w := fun a ha =>
  wpList_plain' rfl (by
    unfold Oper.wp
    rw [h a (ha.on _)]
    exact K _ (ha.put (Nat.le_of_ble_eq_true hd) (fun _ _ _ _ h => h) rfl))
theorem s_op {d : Nat} {op : Op} {ty : TypeId} {pos : String} {af : Array Edge} {R : World → World → Prop} {S : Pred} (h : OpAt P N Γ w ⟨some d, op, ty, pos, af, none⟩ R S) (hd : Nat.blt d N = true) (hΓ : Γ.exact = true)
    (K : ∀ v w', R w w' → S v w' → RunX P N ops Q ((d, .ex v) :: Γ) rest w') : RunX P N ops Q Γ (⟨some d, op, ty, pos, af, none⟩ :: rest) w := fun a ha =>
  wpList_plain' rfl (h a (ha.on _) _ _ fun v w' h1 h2 => K v w' h1 h2 _ (ha.put (Nat.le_of_ble_eq_true hd) (fun t s ht u hu => Env.exact_stable (fun _ _ => True) hΓ t s ht u _ _ hu trivial) rfl))
theorem s_none {op : Op} {ty : TypeId} {pos : String} {af : Array Edge} (w' : World) (h : ∀ a, SatOn N Γ ⟨none, op, ty, pos, af, none⟩ a w → (execOp a.eval ⟨none, op, ty, pos, af, none⟩).run P w = .ok .skip w') (hΓ : Γ.exact = true)
    (K : RunX P N ops Q Γ rest w') : RunX P N ops Q Γ (⟨none, op, ty, pos, af, none⟩ :: rest) w := fun a ha =>
  wpList_plain' rfl (by
    unfold Oper.wp
    rw [h a (ha.on _)]
    exact K _ ⟨ha.size, ha.defers, fun t s ht => Env.exact_stable (fun _ _ => True) hΓ t s ht _ _ _ (ha.get t s ht) trivial⟩)
theorem yielded_of {l : List Oper} {j t : Nat} {b : Bool} (ha : Sat N Γ a w) (hj : ((l.toArray)[j]?).bind (·.dst) = some t) (ht : Γ.find t = some (.ex (.bool b))) : yielded l.toArray a.tmps j = some b := by
  have h : look a t = .bool b := ha.get t _ ht
  unfold yielded
  rw [hj]
  unfold look at h
  cases hx : a.tmps[t]? with
  | none => simp [hx, undef] at h
  | some u => simp [hx] at h; subst h; simp [hx]
theorem yielded_undef {l : List Oper} {j t : Nat} (ha : Sat N Γ a w) (hj : ((l.toArray)[j]?).bind (·.dst) = some t) (ht : Γ.find t = some (.ex undef)) : yielded l.toArray a.tmps j = none := by
  have h : look a t = undef := ha.get t _ ht
  unfold yielded
  rw [hj]
  unfold look at h
  cases hx : a.tmps[t]? with
  | none => simp [hx]
  | some u => simp [hx] at h; subst h; simp [hx, undef]
/-- A guarded operation whose guard says yes. -/
theorem s_yes {l : List Oper} {d j t : Nat} {b : Bool} {op : Op} {ty : TypeId} {pos : String} {af : Array Edge} {v : Value} (hj : ((l.toArray)[j]?).bind (·.dst) = some t) (ht : Γ.find t = some (.ex (.bool b)))
    (h : ValAt P N Γ w ⟨some d, op, ty, pos, af, some (j, b)⟩ v) (hd : Nat.blt d N = true)
    (K : RunX P N l.toArray Q ((d, .ex v) :: Γ) rest w) : RunX P N l.toArray Q Γ (⟨some d, op, ty, pos, af, some (j, b)⟩ :: rest) w := fun a ha => by
  have hy := yielded_of ha hj ht
  simp only [wpList, Region.wanted, hy, beq_self_eq_true, if_true]
  refine .inl ?_
  unfold Oper.wp
  rw [h a (ha.on _)]
  exact K _ (ha.put (Nat.le_of_ble_eq_true hd) (fun _ _ _ _ h => h) rfl)
/-- A guarded operation whose guard says no. -/
theorem s_no {l : List Oper} {d j t : Nat} {b c : Bool} {op : Op} {ty : TypeId} {pos : String} {af : Array Edge} (hj : ((l.toArray)[j]?).bind (·.dst) = some t) (ht : Γ.find t = some (.ex (.bool c))) (hbc : (c == b) = false)
    (hd : Nat.blt d N = true) (K : RunX P N l.toArray Q ((d, .ex undef) :: Γ) rest w) : RunX P N l.toArray Q Γ (⟨some d, op, ty, pos, af, some (j, b)⟩ :: rest) w := fun a ha => by
  have hy := yielded_of ha hj ht
  have : (some c == some b) = false := by cases c <;> cases b <;> simp_all
  simp only [wpList, Region.wanted, hy, this, Bool.false_eq_true, if_false]
  exact K _ (ha.put (Nat.le_of_ble_eq_true hd) (fun _ _ _ _ h => h) rfl)
theorem s_no_undef {l : List Oper} {d j t : Nat} {b : Bool} {op : Op} {ty : TypeId} {pos : String} {af : Array Edge} (hj : ((l.toArray)[j]?).bind (·.dst) = some t) (ht : Γ.find t = some (.ex undef))
    (hd : Nat.blt d N = true) (K : RunX P N l.toArray Q ((d, .ex undef) :: Γ) rest w) : RunX P N l.toArray Q Γ (⟨some d, op, ty, pos, af, some (j, b)⟩ :: rest) w := fun a ha => by
  have hy := yielded_undef ha hj ht
  have : ((none : Option Bool) == some b) = false := rfl
  simp only [wpList, Region.wanted, hy, this, Bool.false_eq_true, if_false]
  exact K _ (ha.put (Nat.le_of_ble_eq_true hd) (fun _ _ _ _ h => h) rfl)

/-! ## Code -/
/-- What holds where an exit is met. -/
def Post (N : Nat) (Q : Exit → Act → World → Prop) (e : Exit) (Γ : Env) (w : World) : Prop := ∀ a, Sat N Γ a w → Q e a w
def Tr (P : Program) (N : Nat) (c : Code) (Q : Exit → Act → World → Prop) (Γ : Env) (w : World) : Prop := ∀ a, Sat N Γ a w → c.wp P Q a w
theorem s_nil (h : Post N Q .normal Γ w) : RunX P N ops Q Γ [] w := fun a ha => h a ha
theorem p_then {y : Code} (h : Tr P N y Q Γ w) : Post N (Exit.then (y.wp P Q) Q) .normal Γ w := fun a ha => h a ha
theorem p_then_exit {K : Act → World → Prop} {i : Nat} (h : Post N Q (.exit i) Γ w) : Post N (Exit.then K Q) (.exit i) Γ w := fun a ha => h a ha
theorem p_then_ret {K : Act → World → Prop} (h : Post N Q .ret Γ w) : Post N (Exit.then K Q) .ret Γ w := fun a ha => h a ha
theorem p_block {i : Nat} (h : Post N Q .normal Γ w) : Post N (Exit.inBlock i Q) .normal Γ w := fun a ha => h a ha
theorem p_block_ret {i : Nat} (h : Post N Q .ret Γ w) : Post N (Exit.inBlock i Q) .ret Γ w := fun a ha => h a ha
theorem p_block_exit {i : Nat} (h : Post N Q .normal Γ w) : Post N (Exit.inBlock i Q) (.exit i) Γ w := fun a ha => by
  simp only [Exit.inBlock, if_true]; exact h a ha
theorem p_block_pass {i j : Nat} (hij : j ≠ i) (h : Post N Q (.exit j) Γ w) : Post N (Exit.inBlock i Q) (.exit j) Γ w := fun a ha => by
  simp only [Exit.inBlock, hij, if_false]; exact h a ha
theorem t_seq {x y : Code} (h : Tr P N x (Exit.then (y.wp P Q) Q) Γ w) : Tr P N (.seq x y) Q Γ w := fun a ha => wp_seq (h a ha)
theorem t_block {i : Nat} {c : Code} (h : Tr P N c (Exit.inBlock i Q) Γ w) : Tr P N (.block i c) Q Γ w := fun a ha => wp_block (h a ha)
theorem t_skip (h : Post N Q .normal Γ w) : Tr P N .skip Q Γ w := fun a ha => wp_skip (h a ha)
theorem t_ret (h : Post N Q .ret Γ w) : Tr P N .ret Q Γ w := fun a ha => wp_ret (h a ha)
theorem t_exit {i : Nat} (h : Post N Q (.exit i) Γ w) : Tr P N (.exit i) Q Γ w := fun a ha => wp_exit (h a ha)
theorem t_region {i : Nat} {l : List Oper} (h : RunX P N l.toArray Q Γ l w) : Tr P N (.region i l.toArray false) Q Γ w := fun a ha => wp_region_lit (h a ha)
theorem t_true {c : Operand} {x y : Code} (hc : Γ.op c = some (.ex (.bool true))) (h : Tr P N x Q Γ w) : Tr P N (.cond c x y) Q Γ w := fun a ha => wp_cond_true (ha.op hc) (h a ha)
theorem t_false {c : Operand} {x y : Code} (hc : Γ.op c = some (.ex (.bool false))) (h : Tr P N y Q Γ w) : Tr P N (.cond c x y) Q Γ w := fun a ha => wp_cond_false (ha.op hc) (h a ha)
theorem t_if {c : Operand} {x y : Code} {b : Bool} (hc : Γ.op c = some (.ex (.bool b))) (ht : b = true → Tr P N x Q Γ w) (hf : b = false → Tr P N y Q Γ w) : Tr P N (.cond c x y) Q Γ w :=
  fun a ha => wp_cond_split (ha.op hc) (fun hb => ht hb a ha) (fun hb => hf hb a ha)
/-- What is known of fewer slots. -/
def Env.sub : Env → Env → Prop
  | [], _ => True
  | (t, s) :: r, Γ => Γ.find t = some s ∧ Env.sub r Γ
theorem Env.sub_find : ∀ {Γ' Γ : Env}, Γ'.sub Γ → ∀ t s, Γ'.find t = some s → Γ.find t = some s
  | [], _, _, _, _, h => by cases h
  | (k, s') :: r, Γ, hs, t, s, h => by
    by_cases hk : k = t
    · subst hk
      rw [Env.find_cons_same] at h
      cases h
      exact hs.1
    · rw [Env.find_cons_ne _ hk] at h
      exact Env.sub_find hs.2 t s h
theorem Sat.weak {Γ' : Env} (h : Sat N Γ a w) (hs : Γ'.sub Γ) : Sat N Γ' a w := ⟨h.size, h.defers, fun t s ht => h.get t s (Env.sub_find hs t s ht)⟩
theorem t_weak {c : Code} (Γ' : Env) (hs : Γ'.sub Γ) (h : Tr P N c Q Γ' w) : Tr P N c Q Γ w := fun a ha => h a (ha.weak hs)
theorem p_weak {e : Exit} (Γ' : Env) (hs : Γ'.sub Γ) (h : Post N Q e Γ' w) : Post N Q e Γ w := fun a ha => h a (ha.weak hs)
/-- A loop: an invariant by a ghost of whatever type, with a measure. -/
def Round (N : Nat) {ι : Type} (G : ι → Env) (F : ι → World → Prop) (m : ι → Nat) (i : ι) (a : Act) (w : World) : Prop := ∃ n', n' < m i ∧ ∃ j, m j = n' ∧ Sat N (G j) a w ∧ F j w
theorem t_loop {c : Code} {ι : Type} (G : ι → Env) (F : ι → World → Prop) (m : ι → Nat) (i : ι) (hG : (G i).sub Γ) (hF : F i w)
    (round : ∀ i w, F i w → Tr P N c (Exit.then (Round N G F m i) Q) (G i) w) : Tr P N (.loop c) Q Γ w := fun a ha => by
  refine wp_loop_ghost (fun n a w => ∃ i, m i = n ∧ Sat N (G i) a w ∧ F i w) (m i) ⟨i, rfl, ha.weak hG, hF⟩ ?_
  rintro n a w ⟨i, rfl, hs, hf⟩
  exact round i w hf a hs
theorem p_round {ι : Type} {G : ι → Env} {F : ι → World → Prop} {m : ι → Nat} {i : ι} (j : ι) (hm : m j < m i) (hG : (G j).sub Γ) (hF : F j w) :
    Post N (Exit.then (Round N G F m i) Q) .normal Γ w := fun _ ha => ⟨m j, hm, j, rfl, ha.weak hG, hF⟩
/-- Ways that meet again. -/
def Meet (N : Nat) {ι : Type} (G : ι → Env) (F : ι → World → Prop) (a : Act) (w : World) : Prop := ∃ i, Sat N (G i) a w ∧ F i w
theorem t_cut {x y : Code} {ι : Type} (G : ι → Env) (F : ι → World → Prop) (hx : Tr P N x (Exit.then (Meet N G F) Q) Γ w) (hy : ∀ i w, F i w → Tr P N y Q (G i) w) : Tr P N (.seq x y) Q Γ w := fun a ha =>
  wp_seq (wp_mono (hx a ha) fun e a' w' h => by
    cases e with
    | normal => obtain ⟨i, h1, h2⟩ := h; exact hy i w' h2 a' h1
    | exit i => exact h
    | goto l => exact h
    | ret => exact h
    | panic c => exact h
    | outgrown => exact h)
theorem p_cut {ι : Type} {G : ι → Env} {F : ι → World → Prop} (i : ι) (hG : (G i).sub Γ) (hF : F i w) : Post N (Exit.then (Meet N G F) Q) .normal Γ w := fun _ ha => ⟨i, ha.weak hG, hF⟩
end

/-! ## A function -/
section
variable {P : Program} {f : FuncId} {fn : Func} {c : Code} {w : World} {R : Ending → World → Prop} {Γ : Env}
/-- What the arguments' slots hold. -/
def Env.args (Γ : Env) (args : Array Value) : Prop := match Γ with
  | [] => True
  | (t, s) :: r => (∃ v, args[t]? = some v ∧ s = .ex v) ∧ Env.args r args
theorem Env.args_find : ∀ {Γ : Env} {args : Array Value}, Γ.args args → ∀ t s, Γ.find t = some s → ∃ v, args[t]? = some v ∧ s = .ex v
  | [], _, _, _, _, h => by cases h
  | (k, s') :: r, _, hs, t, s, h => by
    by_cases hk : k = t
    · subst hk
      rw [Env.find_cons_same] at h
      cases h
      exact hs.1
    · rw [Env.find_cons_ne _ hk] at h
      exact Env.args_find hs.2 t s h
theorem enter {args : Array Value} {N : Nat} (hf : P.funcs[f]? = some fn) (hb : fn.body = some c) (hN : fn.ntmps = N) (hle : Nat.ble args.size N = true) (hΓ : Γ.args args) (h : Tr P N c (bodyPost P fn R) Γ w) : Calls P f args w R := by
  subst hN
  refine calls_of_wp hf hb (h _ ⟨?_, rfl, fun t s ht => ?_⟩)
  · have := Nat.le_of_ble_eq_true hle
    simp; omega
  · obtain ⟨v, hv, rfl⟩ := Env.args_find hΓ t s ht
    show look _ t = v
    have hlt : t < args.size := (Array.getElem?_eq_some_iff.1 hv).1
    simp only [look]
    rw [Array.getD_eq_getD_getElem?, Array.getElem?_append_left hlt, hv]
    rfl
theorem ret1 {N t : Nat} {v : Value} (hr : fn.results = #[.tmp t]) (ht : Γ.find t = some (.ex v)) (hR : R (.returned v) w) : Post N (bodyPost P fn R) .ret Γ w := fun a ha =>
  ⟨ha.defers, v, by rw [results_tmp hr]; exact congrArg (Result.ok · w) (ha.get t _ ht), hR⟩
theorem ret2 {N t u : Nat} {v v' : Value} (hr : fn.results = #[.tmp t, .tmp u]) (ht : Γ.find t = some (.ex v)) (hu : Γ.find u = some (.ex v')) (hR : R (.returned (.tuple #[v, v'])) w) : Post N (bodyPost P fn R) .ret Γ w := fun a ha =>
  ⟨ha.defers, .tuple #[v, v'], by
    rw [results_tmp2 hr]
    have h1 : look a t = v := ha.get t _ ht
    have h2 : look a u = v' := ha.get u _ hu
    unfold look at h1 h2
    rw [h1, h2], hR⟩
theorem ret0 {N : Nat} (hr : fn.results = #[]) (hR : R (.returned (.tuple #[])) w) : Post N (bodyPost P fn R) .ret Γ w := fun _ ha =>
  ⟨ha.defers, _, results_none hr _ _ _, hR⟩
theorem end0 {N : Nat} (hr : fn.results = #[]) (hR : R (.returned (.tuple #[])) w) : Post N (bodyPost P fn R) .normal Γ w := fun _ ha =>
  ⟨ha.defers, _, results_none hr _ _ _, hR⟩
end
end Go.Proofs.YtnaefgnjdmmmcaaGreatDoor
/- A REGION THAT DRAWS ITS ORDER, by its dependencies: each operation is proved once, of every state in which it can stand; the last ones, which wait for all others, in their order. -/
namespace Go.Proofs.YtnaefgnjdmmmcaaGreatDoor

/-- Does operation i wait for operation j? -/
def waits (l : List Oper) : Nat → Nat → Nat → Bool
  | 0, _, _ => false
  | fuel + 1, i, j => ((l[i]?).map fun o => o.after.any fun e => Region.binds .any e && (e.on == j || waits l fuel e.on j)).getD false

/-- Of the first m operations: each writes a slot of its own, below N; what it asks was written by one that it waits for, or is written by none, or only by one that waits for it; the others wait for all ahead of them. -/
def flowOk (N m : Nat) (l : List Oper) : Bool :=
  (Region.noSelect l.toArray) &&
  (Nat.ble m l.length) &&
  ((List.range l.length).all fun i => match l[i]? with
    | none => false
    | some o => (o.after.all fun e => !Region.binds .any e || Nat.blt e.on i) &&
      if Nat.blt i m then
        (match o.dst with | none => o.guard.isNone | some d => Nat.blt d N && (List.range m).all fun k => k == i || (((l[k]?).bind (·.dst)) != some d)) &&
        ((o.looksAt l.toArray).all fun t => (List.range m).all fun k => (((l[k]?).bind (·.dst)) != some t) || (if Nat.blt k i then waits l l.length i k else (k == i || waits l l.length k i)))
      else (List.range i).all fun k => waits l l.length i k)

section
variable {P : Program} {N : Nat} {l : List Oper} {R : World → World → Prop} {w0 : World}

/-- The operations from some place on, each with what it leaves. -/
inductive Flow (P : Program) (N : Nat) (l : List Oper) (R : World → World → Prop) (w0 : World) : List Oper → Env → Env → List (World → Prop) → Prop
  | nil {Γ : Env} : Flow P N l R w0 [] Γ Γ []
  | none {o : Oper} {rest : List Oper} {Γ Γ' : Env} {Fs : List (World → Prop)} (hd : o.dst = none) (hg : o.guard = none) (F : World → Prop) (hs : ∀ w w', F w → R w w' → F w')
      (h : ∀ w, R w0 w → ∀ a, SatOn N Γ o a w → ∃ w', (execOp a.eval o).run P w = .ok .skip w' ∧ R w w' ∧ F w') (K : Flow P N l R w0 rest Γ Γ' Fs) : Flow P N l R w0 (o :: rest) Γ Γ' (F :: Fs)
  | op {o : Oper} {rest : List Oper} {Γ Γ' : Env} {Fs : List (World → Prop)} {d : Nat} {s : Slot} (hd : o.dst = some d) (hg : o.guard = none) (hs : s.stable R) (h : ∀ w, R w0 w → OpAt P N Γ w o R s.has) (K : Flow P N l R w0 rest ((d, s) :: Γ) Γ' Fs) : Flow P N l R w0 (o :: rest) Γ Γ' Fs
  | yes {o : Oper} {rest : List Oper} {Γ Γ' : Env} {Fs : List (World → Prop)} {d j t : Nat} {b : Bool} {s : Slot} (hd : o.dst = some d) (hg : o.guard = some (j, b)) (hj : ((l.toArray)[j]?).bind (·.dst) = some t) (ht : Γ.find t = some (.ex (.bool b)))
      (hs : s.stable R) (h : ∀ w, R w0 w → OpAt P N Γ w o R s.has) (K : Flow P N l R w0 rest ((d, s) :: Γ) Γ' Fs) : Flow P N l R w0 (o :: rest) Γ Γ' Fs
  | no {o : Oper} {rest : List Oper} {Γ Γ' : Env} {Fs : List (World → Prop)} {d j t : Nat} {b c : Bool} (hd : o.dst = some d) (hg : o.guard = some (j, b)) (hj : ((l.toArray)[j]?).bind (·.dst) = some t) (ht : Γ.find t = some (.ex (.bool c))) (hbc : (c == b) = false)
      (K : Flow P N l R w0 rest ((d, .ex undef) :: Γ) Γ' Fs) : Flow P N l R w0 (o :: rest) Γ Γ' Fs
  | no_undef {o : Oper} {rest : List Oper} {Γ Γ' : Env} {Fs : List (World → Prop)} {d j t : Nat} {b : Bool} (hd : o.dst = some d) (hg : o.guard = some (j, b)) (hj : ((l.toArray)[j]?).bind (·.dst) = some t) (ht : Γ.find t = some (.ex undef))
      (K : Flow P N l R w0 rest ((d, .ex undef) :: Γ) Γ' Fs) : Flow P N l R w0 (o :: rest) Γ Γ' Fs

/-- One operation's step, out of a state in which its slots (and its guard's) are known. -/
def StepAt (P : Program) (N : Nat) (l : List Oper) (R : World → World → Prop) (w0 : World) (Γ : Env) (o : Oper) (s : Slot) : Prop :=
  ∀ a w, R w0 w → SatOn N Γ o a w → (∀ j b t, o.guard = some (j, b) → ((l.toArray)[j]?).bind (·.dst) = some t → ∀ s, Γ.find t = some s → s.has (look a t) w) →
    ∀ (K : Act → World → Prop) (Q : Exit → Act → World → Prop), (∀ v w', R w w' → s.has v w' → K (a.put o.dst v) w') →
      if Region.wanted o (yielded l.toArray a.tmps) then o.wp P a w K Q else K (a.put o.dst undef) w

def envOf : List Oper → List Slot → Env → Env
  | o :: l, s :: ss, Γ => envOf l ss (match o.dst with | some d => (d, s) :: Γ | none => Γ)
  | _, _, Γ => Γ

theorem yielded_look {a : Act} {j t : Nat} {b : Bool} (hj : ((l.toArray)[j]?).bind (·.dst) = some t) (h : look a t = .bool b) : yielded l.toArray a.tmps j = some b := by
  unfold yielded
  rw [hj]
  unfold look at h
  cases hx : a.tmps[t]? with
  | none => simp [hx, undef] at h
  | some u => simp [hx] at h; subst h; simp [hx]
theorem yielded_look_undef {a : Act} {j t : Nat} (hj : ((l.toArray)[j]?).bind (·.dst) = some t) (h : look a t = undef) : yielded l.toArray a.tmps j = none := by
  unfold yielded
  rw [hj]
  unfold look at h
  cases hx : a.tmps[t]? with
  | none => simp [hx]
  | some u => simp [hx] at h; subst h; simp [hx, undef]

theorem flow_parts (hR : ∀ w, R w w) {ls : List Oper} {Γ Γ' : Env} {Fs : List (World → Prop)} (h : Flow P N l R w0 ls Γ Γ' Fs) :
    ∃ ss : List Slot, ss.length = ls.length ∧ (∀ s ∈ ss, s.stable R) ∧ Γ' = envOf ls ss Γ ∧ (∀ F ∈ Fs, ∃ (k : Nat) (o : Oper), ls[k]? = some o ∧ o.dst = none ∧ ss[k]? = some (Slot.ab fun _ w => F w)) ∧
      ∀ i o s, ls[i]? = some o → ss[i]? = some s → StepAt P N l R w0 (envOf (ls.take i) (ss.take i) Γ) o s := by
  induction h with
  | nil => exact ⟨[], rfl, by simp, rfl, by simp, by simp⟩
  | @none o rest Γ Γ' Fs hd hg F hs h K ih =>
    obtain ⟨ss, h1, h2, h3, h5, h4⟩ := ih
    refine ⟨(.ab fun _ w => F w) :: ss, by simp [h1], ?_, by simp [envOf, hd, h3], ?_, ?_⟩
    · intro s hs'
      rcases List.mem_cons.1 hs' with rfl | hs'
      · exact fun _ w w' hF hRw => hs w w' hF hRw
      · exact h2 s hs'
    · intro G hG
      rcases List.mem_cons.1 hG with rfl | hG
      · exact ⟨0, o, rfl, hd, rfl⟩
      · obtain ⟨k, o', a1, a2, a3⟩ := h5 G hG
        exact ⟨k + 1, o', by simpa using a1, a2, by simpa using a3⟩
    · intro i o' s' ho hs'
      cases i with
      | zero =>
        simp at ho hs'; subst ho; subst hs'
        intro a w hw ha _ K' Q hK
        simp only [Region.wanted, hg, if_true]
        obtain ⟨w', hr, h6, h7⟩ := h w hw a ha
        unfold Oper.wp
        rw [hr]
        exact hK undef w' h6 h7
      | succ i => simp at ho hs'; simpa [envOf, hd] using h4 i o' s' ho hs'
  | @op o rest Γ Γ' Fs d s hd hg hs h K ih =>
    obtain ⟨ss, h1, h2, h3, h5, h4⟩ := ih
    refine ⟨s :: ss, by simp [h1], by simpa using ⟨hs, h2⟩, by simp [envOf, hd, h3], ?_, ?_⟩
    · intro G hG
      obtain ⟨k, o', a1, a2, a3⟩ := h5 G hG
      exact ⟨k + 1, o', by simpa using a1, a2, by simpa using a3⟩
    · intro i o' s' ho hs'
      cases i with
      | zero =>
        simp at ho hs'; subst ho; subst hs'
        intro a w hw ha _ K' Q hK
        simp only [Region.wanted, hg, if_true]
        exact h w hw a ha K' Q hK
      | succ i => simp at ho hs'; simpa [envOf, hd] using h4 i o' s' ho hs'
  | @yes o rest Γ Γ' Fs d j t b s hd hg hj ht hs h K ih =>
    obtain ⟨ss, h1, h2, h3, h5, h4⟩ := ih
    refine ⟨s :: ss, by simp [h1], by simpa using ⟨hs, h2⟩, by simp [envOf, hd, h3], ?_, ?_⟩
    · intro G hG
      obtain ⟨k, o', a1, a2, a3⟩ := h5 G hG
      exact ⟨k + 1, o', by simpa using a1, a2, by simpa using a3⟩
    · intro i o' s' ho hs'
      cases i with
      | zero =>
        simp at ho hs'; subst ho; subst hs'
        intro a w hw ha hgd K' Q hK
        have hy := yielded_look hj (hgd j b t hg hj _ ht)
        simp only [Region.wanted, hg, hy, beq_self_eq_true, if_true]
        exact h w hw a ha K' Q hK
      | succ i => simp at ho hs'; simpa [envOf, hd] using h4 i o' s' ho hs'
  | @no o rest Γ Γ' Fs d j t b c hd hg hj ht hbc K ih =>
    obtain ⟨ss, h1, h2, h3, h5, h4⟩ := ih
    refine ⟨.ex undef :: ss, by simp [h1], by simpa using ⟨Slot.stable_ex R undef, h2⟩, by simp [envOf, hd, h3], ?_, ?_⟩
    · intro G hG
      obtain ⟨k, o', a1, a2, a3⟩ := h5 G hG
      exact ⟨k + 1, o', by simpa using a1, a2, by simpa using a3⟩
    · intro i o' s' ho hs'
      cases i with
      | zero =>
        simp at ho hs'; subst ho; subst hs'
        intro a w hw ha hgd K' Q hK
        have hy := yielded_look hj (hgd j b t hg hj _ ht)
        have : (some c == some b) = false := by cases c <;> cases b <;> simp_all
        simp only [Region.wanted, hg, hy, this, Bool.false_eq_true, if_false]
        exact hK undef w (hR w) rfl
      | succ i => simp at ho hs'; simpa [envOf, hd] using h4 i o' s' ho hs'
  | @no_undef o rest Γ Γ' Fs d j t b hd hg hj ht K ih =>
    obtain ⟨ss, h1, h2, h3, h5, h4⟩ := ih
    refine ⟨.ex undef :: ss, by simp [h1], by simpa using ⟨Slot.stable_ex R undef, h2⟩, by simp [envOf, hd, h3], ?_, ?_⟩
    · intro G hG
      obtain ⟨k, o', a1, a2, a3⟩ := h5 G hG
      exact ⟨k + 1, o', by simpa using a1, a2, by simpa using a3⟩
    · intro i o' s' ho hs'
      cases i with
      | zero =>
        simp at ho hs'; subst ho; subst hs'
        intro a w hw ha hgd K' Q hK
        have hy := yielded_look_undef hj (hgd j b t hg hj _ ht)
        have : ((none : Option Bool) == some b) = false := rfl
        simp only [Region.wanted, hg, hy, this, Bool.false_eq_true, if_false]
        exact hK undef w (hR w) rfl
      | succ i => simp at ho hs'; simpa [envOf, hd] using h4 i o' s' ho hs'

theorem envOf_skip : ∀ (ls : List Oper) (ss : List Slot) (Γ : Env) (t : Nat), (∀ o ∈ ls, o.dst ≠ some t) → (envOf ls ss Γ).find t = Γ.find t
  | [], _, _, _, _ => by simp [envOf]
  | _ :: _, [], _, _, _ => by simp [envOf]
  | o :: ls, s :: ss, Γ, t, hn => by
    rw [envOf, envOf_skip ls ss _ t (fun o ho => hn o (by simp [ho]))]
    cases hd : o.dst with
    | none => rfl
    | some d =>
      refine Env.find_cons_ne _ ?_
      rintro rfl
      exact hn o (by simp) hd
theorem envOf_at : ∀ (ls : List Oper) (ss : List Slot) (Γ : Env) (k : Nat) (o : Oper) (s : Slot) (t : Nat), ls[k]? = some o → ss[k]? = some s → o.dst = some t →
    (∀ k' o', k < k' → ls[k']? = some o' → o'.dst ≠ some t) → (envOf ls ss Γ).find t = some s
  | [], _, _, _, _, _, _, h, _, _, _ => by simp at h
  | _ :: _, [], _, _, _, _, _, _, h, _, _ => by simp at h
  | o :: ls, s :: ss, Γ, k, o', s', t, ho, hs, ht, hn => by
    cases k with
    | zero =>
      simp at ho hs; subst ho; subst hs
      rw [envOf, envOf_skip ls ss _ t]
      · rw [ht]; exact Env.find_cons_same _ _
      · intro o'' ho''
        obtain ⟨i, hi⟩ := List.getElem?_of_mem ho''
        exact hn (i + 1) o'' (by omega) (by simpa using hi)
    | succ k =>
      simp at ho hs
      rw [envOf]
      exact envOf_at ls ss _ k o' s' t ho hs ht (fun k' o'' hk ho'' => hn (k' + 1) o'' (by omega) (by simpa using ho''))

theorem waits_listed {listed : Array Bool} (hc : ∀ i o, l[i]? = some o → listed.getD i false = true → ∀ e ∈ o.after, Region.binds .any e = true → listed.getD e.on false = true) :
    ∀ (fuel i j : Nat) (o : Oper), l[i]? = some o → (∀ e ∈ o.after, Region.binds .any e = true → listed.getD e.on false = true) → waits l fuel i j = true → listed.getD j false = true := by
  intro fuel
  induction fuel with
  | zero => intro i j o _ _ h; simp [waits] at h
  | succ fuel ih =>
    intro i j o ho hall h
    simp only [waits, ho, Option.map_some, Option.getD_some] at h
    obtain ⟨e, he, hb⟩ := Array.any_eq_true'.1 h
    simp only [Bool.and_eq_true, Bool.or_eq_true, beq_iff_eq] at hb
    have hl := hall e he hb.1
    rcases hb.2 with heq | hw
    · rw [← heq]; exact hl
    · cases ho' : l[e.on]? with
      | none => cases fuel <;> simp [waits, ho'] at hw
      | some o' => exact ih e.on j o' ho' (hc e.on o' ho' hl) hw
end

section
variable {P : Program} {N m : Nat} {l : List Oper} {R : World → World → Prop} {Q : Exit → Act → World → Prop}

theorem countP_lt {p q : Nat → Bool} : ∀ (xs : List Nat), (∀ x, p x = true → q x = true) → (∃ x ∈ xs, q x = true ∧ p x = false) → xs.countP p < xs.countP q
  | [], _, ⟨x, hx, _⟩ => by cases hx
  | y :: ys, hpq, ⟨x, hx, hq, hp⟩ => by
    have hle : ys.countP p ≤ ys.countP q := List.countP_mono_left fun x _ h => hpq x h
    rcases List.mem_cons.1 hx with rfl | hx
    · simp only [List.countP_cons, hq, hp, if_true, Bool.false_eq_true, if_false]; omega
    · have := countP_lt ys hpq ⟨x, hx, hq, hp⟩
      simp only [List.countP_cons]
      cases hpy : p y with
      | true => simp [hpq y hpy]; omega
      | false => simp; omega

def left (n : Nat) (listed : Array Bool) : Nat := (List.range n).countP fun i => !listed.getD i false

theorem getD_of_size {listed : Array Bool} {i : Nat} (h : i < listed.size) (d d' : Bool) : listed.getD i d = listed.getD i d' := by simp [h]
theorem getD_set_same {listed : Array Bool} {i : Nat} (h : i < listed.size) (d : Bool) : (listed.setIfInBounds i true).getD i d = true := by simp [h]

/-- The last operations, which wait for all ahead of them. -/
theorem wpAny_tail (hw : ∀ i, m ≤ i → i < l.length → ∀ k, k < i → waits l l.length i k = true) (hb : ∀ i o, l[i]? = some o → ∀ e ∈ o.after, Region.binds .any e = true → e.on < i) :
    ∀ (r p fuel : Nat) (listed : Array Bool) (a : Act) (w : World), m ≤ p → p + r = l.length → listed.size = l.length → (∀ i, i < l.length → (listed.getD i false = true ↔ i < p)) → r ≤ fuel →
      wpOps P l.toArray Q (List.range' p r) a w → wpAny P .any l.toArray Q fuel listed a w := by
  intro r
  induction r with
  | zero =>
    intro p fuel listed a w _ hp hs hl _ h
    refine wpAny_done ?_ (by simpa [wpOps] using h) fuel
    refine List.eq_nil_iff_forall_not_mem.2 fun i hi => ?_
    obtain ⟨h0, o, ho, _⟩ := mem_ready.1 hi
    have hi' : i < l.length := by
      have := (Array.getElem?_eq_some_iff.1 ho).1; simpa using this
    rw [getD_of_size (by omega) true false] at h0
    have := (hl i hi').2 (by omega)
    rw [h0] at this; cases this
  | succ r ih =>
    intro p fuel listed a w hmp hp hs hl hf h
    obtain ⟨fuel, rfl⟩ : ∃ k, fuel = k + 1 := ⟨fuel - 1, by omega⟩
    have hpl : p < l.length := by omega
    have hmem : p ∈ Region.ready .any l.toArray listed := by
      refine mem_ready.2 ⟨?_, l[p], by simp [hpl], fun e he hbd => ?_⟩
      · rw [getD_of_size (by omega) true false]
        cases hx : listed.getD p false with
        | false => rfl
        | true => exact absurd ((hl p hpl).1 hx) (by omega)
      · have := hb p l[p] (List.getElem?_eq_getElem hpl) e he hbd
        exact (hl e.on (by omega)).2 this
    refine ⟨fun h0 => (by rw [h0] at hmem; cases hmem), fun i hi => ?_⟩
    obtain ⟨h0, o, ho, hall⟩ := mem_ready.1 hi
    have hi' : i < l.length := by
      have := (Array.getElem?_eq_some_iff.1 ho).1; simpa using this
    rw [getD_of_size (by omega) true false] at h0
    have hip : i = p := by
      have h1 : ¬ i < p := fun hlt => by have := (hl i hi').2 hlt; rw [h0] at this; cases this
      by_cases h2 : p < i
      · have hwt := hw i (by omega) hi' p h2
        have hcl : ∀ i o, l[i]? = some o → listed.getD i false = true → ∀ e ∈ o.after, Region.binds .any e = true → listed.getD e.on false = true := by
          intro i o ho hli e he hbd
          have hil : i < l.length := (List.getElem?_eq_some_iff.1 ho).1
          have h3 := (hl i hil).1 hli
          have h4 := hb i o ho e he hbd
          exact (hl e.on (by omega)).2 (by omega)
        have := waits_listed hcl l.length i p o (by simpa using ho) hall hwt
        exact absurd ((hl p hpl).1 this) (by omega)
      · omega
    subst hip
    rw [List.range'_succ, wpOps_cons] at h
    refine wpOp_mono (fun a w h => ?_) h
    refine ih (i + 1) fuel (listed.setIfInBounds i true) a w (by omega) (by omega) (by simpa using hs) (fun k hk => ?_) (by omega) h
    by_cases hki : i = k
    · subst hki
      rw [getD_set_same (by omega)]; simp
    · rw [getD_set_ne false hki, hl k hk]; omega

theorem flowOk_spec (h : flowOk N m l = true) :
    Region.noSelect l.toArray = true ∧ m ≤ l.length ∧
    (∀ i o, l[i]? = some o → ∀ e ∈ o.after, Region.binds .any e = true → e.on < i) ∧
    (∀ i o d, i < m → l[i]? = some o → o.dst = some d → d < N ∧ ∀ k o', k < m → l[k]? = some o' → k ≠ i → o'.dst ≠ some d) ∧
    (∀ i o, i < m → l[i]? = some o → ∀ t ∈ o.looksAt l.toArray, ∀ k o', k < m → l[k]? = some o' → o'.dst = some t → (k < i ∧ waits l l.length i k = true) ∨ (¬ k < i ∧ (k = i ∨ waits l l.length k i = true))) ∧
    (∀ i, m ≤ i → i < l.length → ∀ k, k < i → waits l l.length i k = true) := by
  simp only [flowOk, Bool.and_eq_true, List.all_eq_true, List.mem_range] at h
  obtain ⟨⟨h1, h2⟩, h3⟩ := h
  refine ⟨h1, Nat.le_of_ble_eq_true h2, ?_, ?_, ?_, ?_⟩
  · intro i o ho e he hb
    have hi := (List.getElem?_eq_some_iff.1 ho).1
    have h4 := h3 i hi
    rw [ho] at h4
    simp only [Bool.and_eq_true] at h4
    have h5 := Array.all_eq_true_iff_forall_mem.1 h4.1 e he
    simp only [hb, Bool.not_true, Bool.false_or] at h5
    exact Nat.le_of_ble_eq_true h5
  · intro i o d him ho hd
    have hi := (List.getElem?_eq_some_iff.1 ho).1
    have h4 := h3 i hi
    have hlt : Nat.blt i m = true := Nat.ble_eq_true_of_le him
    rw [ho] at h4
    simp only [hlt, if_true, Bool.and_eq_true] at h4
    obtain ⟨_, h5, _⟩ := h4
    rw [hd] at h5
    simp only [Bool.and_eq_true, List.all_eq_true, List.mem_range] at h5
    refine ⟨Nat.le_of_ble_eq_true h5.1, fun k o' hk ho' hne => ?_⟩
    have h6 := h5.2 k hk
    rw [ho'] at h6
    simp only [Bool.or_eq_true, beq_iff_eq, hne, false_or, Option.bind_some, bne_iff_ne] at h6
    exact h6
  · intro i o him ho t ht k o' hk ho' hd'
    have hi := (List.getElem?_eq_some_iff.1 ho).1
    have h4 := h3 i hi
    have hlt : Nat.blt i m = true := Nat.ble_eq_true_of_le him
    rw [ho] at h4
    simp only [hlt, if_true, Bool.and_eq_true] at h4
    obtain ⟨_, _, h5⟩ := h4
    have h6 := List.all_eq_true.1 h5 t ht
    have h7 := List.all_eq_true.1 h6 k (List.mem_range.2 hk)
    rw [ho'] at h7
    simp only [Option.bind_some, hd', bne_self_eq_false, Bool.false_or] at h7
    by_cases hki : k < i
    · have : Nat.blt k i = true := Nat.ble_eq_true_of_le hki
      rw [this] at h7
      exact .inl ⟨hki, by simpa using h7⟩
    · have : Nat.blt k i = false := by
        cases hb : Nat.blt k i with
        | false => rfl
        | true => exact absurd (Nat.le_of_ble_eq_true hb) hki
      rw [this] at h7
      simp only [Bool.false_eq_true, if_false, Bool.or_eq_true, beq_iff_eq] at h7
      exact .inr ⟨hki, h7⟩
  · intro i hmi hi k hk
    have h4 := h3 i hi
    have hlt : Nat.blt i m = false := by
      cases hb : Nat.blt i m with
      | false => rfl
      | true => exact absurd (Nat.le_of_ble_eq_true hb) (by omega)
    cases ho : l[i]? with
    | none => rw [ho] at h4; simp at h4
    | some o =>
      rw [ho] at h4
      simp only [hlt, Bool.false_eq_true, if_false, Bool.and_eq_true] at h4
      exact List.all_eq_true.1 h4.2 k (List.mem_range.2 hk)

/-- What holds in the midst of the region. -/
structure Mid (N m : Nat) (l : List Oper) (R : World → World → Prop) (Γ : Env) (ss : List Slot) (a0 : Act) (w0 : World) (listed : Array Bool) (a : Act) (w : World) : Prop where
  len : listed.size = l.length
  size : a.tmps.size = N
  defers : a.defers = []
  world : R w0 w
  closed : ∀ i o, l[i]? = some o → listed.getD i false = true → ∀ e ∈ o.after, Region.binds .any e = true → listed.getD e.on false = true
  ahead : ∀ i, m ≤ i → listed.getD i false = false
  done : ∀ k o d s, l[k]? = some o → o.dst = some d → ss[k]? = some s → listed.getD k false = true → s.has (look a d) w
  said : ∀ k o s, l[k]? = some o → o.dst = none → ss[k]? = some s → listed.getD k false = true → ∃ u, s.has u w
  kept : ∀ t, (∀ k o, l[k]? = some o → listed.getD k false = true → o.dst ≠ some t) → look a t = look a0 t

theorem take_getElem? {i k : Nat} {x : Oper} (h : (l.take i)[k]? = some x) : k < i ∧ l[k]? = some x := by
  rw [List.getElem?_take] at h
  split at h
  · exact ⟨by assumption, h⟩
  · cases h

/-- What a slot holds when operation i's turn has come. -/
theorem Mid.slot {Γ : Env} {ss : List Slot} {a0 : Act} {w0 : World} {listed : Array Bool} {a : Act} {w : World} (M : Mid N m l R Γ ss a0 w0 listed a w) (hc : flowOk N m l = true)
    (hss : ss.length = m) (hΓ : ∀ t s, Γ.find t = some s → s.stable R) (h0 : Sat N Γ a0 w0) {i : Nat} {o : Oper} (him : i < m) (ho : l[i]? = some o) (hun : listed.getD i false = false)
    (hall : ∀ e ∈ o.after, Region.binds .any e = true → listed.getD e.on false = true) {t : Nat} (ht : t ∈ o.looksAt l.toArray) {s : Slot} (hs : (envOf (l.take i) (ss.take i) Γ).find t = some s) : s.has (look a t) w := by
  obtain ⟨_, hml, hb, hd, hlk, _⟩ := flowOk_spec hc
  by_cases hex : ∃ k o', k < i ∧ l[k]? = some o' ∧ o'.dst = some t
  · obtain ⟨k, o', hki, hk, hdk⟩ := hex
    have hsk : ss[k]? = some (ss[k]'(by omega)) := List.getElem?_eq_getElem (by omega)
    have hfind : (envOf (l.take i) (ss.take i) Γ).find t = some (ss[k]'(by omega)) := by
      refine envOf_at (l.take i) (ss.take i) Γ k o' _ t (by rw [List.getElem?_take, if_pos hki]; exact hk) (by rw [List.getElem?_take, if_pos hki]; exact hsk) hdk ?_
      intro k' o'' hkk ho''
      obtain ⟨hk'i, hk''⟩ := take_getElem? ho''
      exact (hd k o' t (by omega) hk hdk).2 k' o'' (by omega) hk'' (by omega)
    rw [hfind] at hs
    cases hs
    have hl : listed.getD k false = true := by
      rcases hlk i o him ho t ht k o' (by omega) hk hdk with ⟨_, hw⟩ | ⟨hn, _⟩
      · exact waits_listed M.closed l.length i k o ho hall hw
      · omega
    exact M.done k o' t _ hk hdk hsk hl
  · have hfind : (envOf (l.take i) (ss.take i) Γ).find t = Γ.find t := envOf_skip _ _ _ t fun o' ho' hd' => by
      obtain ⟨k, hk⟩ := List.getElem?_of_mem ho'
      obtain ⟨hki, hk'⟩ := take_getElem? hk
      exact hex ⟨k, o', hki, hk', hd'⟩
    rw [hfind] at hs
    have hlook : look a t = look a0 t := M.kept t fun k o' hk hl hd' => by
      have hkm : k < m := by
        rcases Nat.lt_or_ge k m with h | h
        · exact h
        · have := M.ahead k h; rw [hl] at this; cases this
      have hki : ¬ k < i := fun h => hex ⟨k, o', h, hk, hd'⟩
      rcases hlk i o him ho t ht k o' hkm hk hd' with ⟨h, _⟩ | ⟨_, rfl | hw⟩
      · exact hki h
      · rw [hl] at hun; cases hun
      · have := waits_listed M.closed l.length k i o' hk (M.closed k o' hk hl) hw
        rw [this] at hun; cases hun
    rw [hlook]
    exact hΓ t s hs _ _ _ (h0.get t s hs) M.world

/-- ONE STEP: operation i, whose turn it may be. -/
theorem Mid.step {Γ : Env} {ss : List Slot} {a0 : Act} {w0 : World} {listed : Array Bool} {a : Act} {w : World} (M : Mid N m l R Γ ss a0 w0 listed a w) (hc : flowOk N m l = true) (hT : ∀ a b c, R a b → R b c → R a c)
    (hss : ss.length = m) (hst : ∀ s ∈ ss, s.stable R) {i : Nat} {o : Oper} {s : Slot} (him : i < m) (ho : l[i]? = some o) (hs : ss[i]? = some s)
    (hall : ∀ e ∈ o.after, Region.binds .any e = true → listed.getD e.on false = true) {v : Value} {w' : World} (hR : R w w') (hv : s.has v w') :
    Mid N m l R Γ ss a0 w0 (listed.setIfInBounds i true) (a.put o.dst v) w' := by
  obtain ⟨_, hml, hb, hdst, _, _⟩ := flowOk_spec hc
  have hlk : ∀ t, o.dst ≠ some t → look (a.put o.dst v) t = look a t := fun t ht => by
    cases hd : o.dst with
    | none => rfl
    | some d => exact look_put_ne (fun e => ht (by rw [hd, e])) v
  refine ⟨by simpa using M.len, by rw [size_put, M.size], by rw [defers_put, M.defers], hT _ _ _ M.world hR, ?_, ?_, ?_, ?_, ?_⟩
  · intro k o' hk hl e he hbd
    by_cases hki : i = k
    · subst hki
      rw [ho] at hk; cases hk
      exact getD_set_true (hall e he hbd)
    · rw [getD_set_ne false hki] at hl
      exact getD_set_true (M.closed k o' hk hl e he hbd)
  · intro k hk
    rw [getD_set_ne false (by omega)]
    exact M.ahead k hk
  · intro k o' d' s' hk hdk hsk hl
    by_cases hki : i = k
    · subst hki
      rw [ho] at hk; cases hk
      rw [hs] at hsk; cases hsk
      rw [hdk, look_put_same (by rw [M.size]; exact (hdst i o d' him ho hdk).1)]
      exact hv
    · rw [getD_set_ne false hki] at hl
      have hkm : k < m := by have := (List.getElem?_eq_some_iff.1 hsk).1; omega
      rw [hlk d' fun hd => (hdst i o d' him ho hd).2 k o' hkm hk (fun h => hki h.symm) hdk]
      exact hst s' (List.mem_of_getElem? hsk) _ _ _ (M.done k o' d' s' hk hdk hsk hl) hR
  · intro k o' s' hk hdk hsk hl
    by_cases hki : i = k
    · subst hki
      rw [hs] at hsk; cases hsk
      exact ⟨v, hv⟩
    · rw [getD_set_ne false hki] at hl
      obtain ⟨u, hu⟩ := M.said k o' s' hk hdk hsk hl
      exact ⟨u, hst s' (List.mem_of_getElem? hsk) _ _ _ hu hR⟩
  · intro t hk
    rw [hlk t (hk i o ho (by rw [getD_set_same]; rw [M.len]; omega))]
    refine M.kept t fun k o' hko hl => hk k o' hko ?_
    exact getD_set_true hl

/-- All of the first m are done: the environment behind them. -/
theorem sat_end {Γ : Env} {ss : List Slot} {a0 : Act} {w0 : World} {listed : Array Bool} {a : Act} {w : World} (M : Mid N m l R Γ ss a0 w0 listed a w) (hc : flowOk N m l = true)
    (hss : ss.length = m) (hΓ : ∀ t s, Γ.find t = some s → s.stable R) (h0 : Sat N Γ a0 w0) (hall : ∀ k, k < m → listed.getD k false = true) {t : Nat} {s : Slot} (hs : (envOf (l.take m) ss Γ).find t = some s) : s.has (look a t) w := by
  obtain ⟨_, hml, hb, hd, hlk, _⟩ := flowOk_spec hc
  by_cases hex : ∃ k o', k < m ∧ l[k]? = some o' ∧ o'.dst = some t
  · obtain ⟨k, o', hki, hk, hdk⟩ := hex
    have hsk : ss[k]? = some (ss[k]'(by omega)) := List.getElem?_eq_getElem (by omega)
    have hfind : (envOf (l.take m) ss Γ).find t = some (ss[k]'(by omega)) := by
      refine envOf_at (l.take m) ss Γ k o' _ t (by rw [List.getElem?_take, if_pos hki]; exact hk) hsk hdk ?_
      intro k' o'' hkk ho''
      obtain ⟨hk'i, hk''⟩ := take_getElem? ho''
      exact (hd k o' t hki hk hdk).2 k' o'' hk'i hk'' (by omega)
    rw [hfind] at hs
    cases hs
    exact M.done k o' t _ hk hdk hsk (hall k hki)
  · have hfind : (envOf (l.take m) ss Γ).find t = Γ.find t := envOf_skip _ _ _ t fun o' ho' hd' => by
      obtain ⟨k, hk⟩ := List.getElem?_of_mem ho'
      obtain ⟨hki, hk'⟩ := take_getElem? hk
      exact hex ⟨k, o', hki, hk', hd'⟩
    rw [hfind] at hs
    have hlook : look a t = look a0 t := M.kept t fun k o' hk hl hd' => by
      rcases Nat.lt_or_ge k m with h | h
      · exact hex ⟨k, o', h, hk, hd'⟩
      · have := M.ahead k h; rw [hl] at this; cases this
    rw [hlook]
    exact hΓ t s hs _ _ _ (h0.get t s hs) M.world

/-- A REGION THAT DRAWS ITS ORDER. -/
theorem wp_region_flow {id : Nat} {Γ Γ' : Env} {Fs : List (World → Prop)} {a : Act} {w : World} (hm : P.follows .mixedOrders = true) (hc : flowOk N m l = true) (hR : ∀ w, R w w) (hT : ∀ a b c, R a b → R b c → R a c) (hD : ∀ w, R w w.drew)
    (hΓ : ∀ t s, Γ.find t = some s → s.stable R) (ha : Sat N Γ a w) (hF : Flow P N l R w (l.take m) Γ Γ' Fs) (K : ∀ a w', R w w' → (∀ F ∈ Fs, F w') → Sat N Γ' a w' → wpList P l.toArray Q (l.drop m) a w') :
    (Code.region id l.toArray true).wp P Q a w := by
  obtain ⟨ss, hlen, hst, hΓ', hFs, hstep⟩ := flow_parts hR hF
  obtain ⟨hsel, hml, hb, hd, hlk, htl⟩ := flowOk_spec hc
  have hss : ss.length = m := by rw [hlen, List.length_take]; omega
  have said : ∀ (listed : Array Bool) (a' : Act) (w' : World), Mid N m l R Γ ss a w listed a' w' → (∀ k, k < m → listed.getD k false = true) → ∀ F ∈ Fs, F w' := by
    intro listed a' w' M hall F hFm
    obtain ⟨k, o, h1, h2, h3⟩ := hFs F hFm
    obtain ⟨hkm, h4⟩ := take_getElem? h1
    obtain ⟨u, hu⟩ := M.said k o _ h4 h2 h3 (hall k hkm)
    exact hu
  refine wp_region_any hm ?_
  have main : ∀ (fuel : Nat) (listed : Array Bool) (a' : Act) (w' : World), Mid N m l R Γ ss a w listed a' w' → left l.length listed ≤ fuel → wpAny P .any l.toArray Q fuel listed a' w' := by
    intro fuel
    induction fuel with
    | zero =>
      intro listed a' w' M hf
      have hnone : ∀ i, i < l.length → listed.getD i false = true := by
        intro i hi
        have h0 : left l.length listed = 0 := by omega
        have := List.countP_eq_zero.1 h0 i (List.mem_range.2 hi)
        simpa using this
      have hmn : m = l.length := by
        rcases Nat.lt_or_ge m l.length with h | h
        · have h1 := hnone m h; rw [M.ahead m (Nat.le_refl _)] at h1; cases h1
        · omega
      refine wpAny_tail (m := m) htl hb 0 l.length 0 listed a' w' (by omega) (by omega) M.len (fun i hi => ⟨fun _ => hi, fun _ => hnone i hi⟩) (Nat.le_refl _) ?_
      refine (show wpList P l.toArray Q (l.drop m) a' w' → wpOps P l.toArray Q (List.range' l.length 0) a' w' from ?_) (K a' w' M.world (said _ _ _ M fun k hk => hnone k (by omega)) ?_)
      · rw [hmn]; simp [wpOps, wpList]
      · refine ⟨M.size, M.defers, fun t s hs => ?_⟩
        rw [hΓ'] at hs
        exact sat_end M hc hss hΓ ha (fun k hk => hnone k (by omega)) hs
    | succ fuel ih =>
      intro listed a' w' M hf
      by_cases hallm : ∀ k, k < m → listed.getD k false = true
      · refine wpAny_tail (m := m) htl hb (l.length - m) m (fuel + 1) listed a' w' (Nat.le_refl _) (by omega) M.len (fun i hi => ⟨fun h => ?_, fun h => hallm i h⟩) ?_ ?_
        · rcases Nat.lt_or_ge i m with h' | h'
          · exact h'
          · rw [M.ahead i h'] at h; cases h
        · refine Nat.le_trans ?_ hf
          unfold left
          have hsplit : List.range l.length = List.range m ++ List.range' m (l.length - m) := by
            rw [List.range_eq_range', List.range_eq_range']
            have := @List.range'_append 0 m (l.length - m) 1
            simp only [Nat.one_mul, Nat.zero_add] at this
            rw [this]; congr 1; omega
          rw [hsplit, List.countP_append]
          have : (List.range' m (l.length - m)).countP (fun i => !listed.getD i false) = l.length - m := by
            rw [List.countP_eq_length.2]
            · simp
            · intro i hi
              rw [M.ahead i (by simp [List.mem_range'_1] at hi; omega)]; rfl
          omega
        · have he := wpOps_eq_wpList (P := P) (ops := l.toArray) (Q := Q) (l.drop m) m (fun j => by simp)
          have : (l.drop m).length = l.length - m := by simp
          rw [← this, he]
          refine K a' w' M.world (said _ _ _ M hallm) ⟨M.size, M.defers, fun t s hs => ?_⟩
          rw [hΓ'] at hs
          exact sat_end M hc hss hΓ ha hallm hs
      · have hex : ∃ k, k < m ∧ listed.getD k false = false := by
          refine Classical.byContradiction fun hn => hallm fun k hk => ?_
          cases hx : listed.getD k false with
          | true => rfl
          | false => exact absurd ⟨k, hk, hx⟩ hn
        obtain ⟨k, ⟨hkm, hkl⟩, hmin⟩ := exists_least hex
        have hready : k ∈ Region.ready .any l.toArray listed := by
          refine mem_ready.2 ⟨?_, l[k]'(by omega), by simp, fun e he hbd => ?_⟩
          · rw [getD_of_size (by rw [M.len]; omega) true false]; exact hkl
          · have hlt := hb k _ (List.getElem?_eq_getElem (by omega)) e he hbd
            cases hx : listed.getD e.on false with
            | true => rfl
            | false => exact absurd (hmin e.on ⟨by omega, hx⟩) (by omega)
        refine ⟨fun h0 => (by rw [h0] at hready; cases hready), fun i hi => ?_⟩
        obtain ⟨hi0, o, ho, hall⟩ := mem_ready.1 hi
        have ho' : l[i]? = some o := by simpa using ho
        have hil : i < l.length := (List.getElem?_eq_some_iff.1 ho').1
        rw [getD_of_size (by rw [M.len]; omega) true false] at hi0
        have him : i < m := by
          rcases Nat.lt_or_ge i m with h | h
          · exact h
          · have hw := htl i h hil k (by omega)
            have := waits_listed M.closed l.length i k o ho' hall hw
            rw [hkl] at this; cases this
        have hsi : ss[i]? = some (ss[i]'(by omega)) := List.getElem?_eq_getElem (by omega)
        have hst' := hstep i o _ (by rw [List.getElem?_take, if_pos him]; exact ho') hsi
        have htt : (l.take m).take i = l.take i := by rw [List.take_take]; congr 1; omega
        rw [htt] at hst'
        have hlook : ∀ t ∈ o.looksAt l.toArray, ∀ s, (envOf (l.take i) (ss.take i) Γ).find t = some s → s.has (look a' t) w' :=
          fun t ht s hs => M.slot hc hss hΓ ha him ho' hi0 hall ht hs
        have hon : SatOn N (envOf (l.take i) (ss.take i) Γ) o a' w' := by
          refine ⟨M.size, M.defers, fun x hx s hs => ?_⟩
          cases x with
          | tmp t => exact hlook t (List.mem_append_left _ (List.mem_filterMap.2 ⟨.tmp t, by simpa using hx, rfl⟩)) s hs
          | const v => cases hs; rfl
          | global g => cases hs; rfl
          | func f => cases hs; rfl
        have hgd : ∀ j b t, o.guard = some (j, b) → ((l.toArray)[j]?).bind (·.dst) = some t → ∀ s, (envOf (l.take i) (ss.take i) Γ).find t = some s → s.has (look a' t) w' := by
          intro j b t hg hj s hs
          refine hlook t (List.mem_append_right _ ?_) s hs
          simp only [hg, hj]
          simp
        have hfin := hst' a' w' M.world hon hgd (fun a'' w'' => wpAny P .any l.toArray Q fuel (listed.setIfInBounds i true) a'' w'') Q (by
          intro v w'' h1 h2
          refine ih _ _ _ (M.step hc hT hss hst him ho' hsi hall h1 h2) ?_
          have : left l.length (listed.setIfInBounds i true) < left l.length listed := by
            refine countP_lt _ (fun x hx => ?_) ⟨i, List.mem_range.2 hil, by simp only [hi0]; rfl, by rw [getD_set_same (by rw [M.len]; exact hil)]; rfl⟩
            by_cases hxi : i = x
            · subst hxi; rw [hi0]; rfl
            · rw [getD_set_ne false hxi] at hx; exact hx
          omega)
        unfold wpOp
        simp only [ho]
        split
        · rename_i hwt
          rw [if_pos hwt] at hfin
          exact .inl hfin
        · rename_i hwt
          rw [if_neg hwt] at hfin
          exact hfin
  refine main l.toArray.size _ a _ ?_ ?_
  · refine ⟨by simp, ha.size, ha.defers, hD w, ?_, ?_, ?_, ?_, fun _ _ => rfl⟩
    · intro i o ho hl
      simp [Array.getD_eq_getD_getElem?, Array.getElem?_replicate] at hl
      split at hl <;> simp_all
    · intro i _
      simp [Array.getD_eq_getD_getElem?, Array.getElem?_replicate]
      split <;> rfl
    · intro k o d s _ _ _ hl
      simp [Array.getD_eq_getD_getElem?, Array.getElem?_replicate] at hl
      split at hl <;> simp_all
    · intro k o s _ _ _ hl
      simp [Array.getD_eq_getD_getElem?, Array.getElem?_replicate] at hl
      split at hl <;> simp_all
  · unfold left
    refine Nat.le_trans List.countP_le_length ?_
    simp

theorem t_draw {id : Nat} {Γ Γ' : Env} {Fs : List (World → Prop)} {w : World} (m : Nat) (R : World → World → Prop) (hm : P.follows .mixedOrders = true) (hc : flowOk N m l = true) (hR : ∀ w, R w w) (hT : ∀ a b c, R a b → R b c → R a c) (hD : ∀ w, R w w.drew)
    (hΓ : Γ.exact = true) (hF : Flow P N l R w (l.take m) Γ Γ' Fs) (K : ∀ w', R w w' → (∀ F ∈ Fs, F w') → RunX P N l.toArray Q Γ' (l.drop m) w') : Tr P N (.region id l.toArray true) Q Γ w := fun _ ha =>
  wp_region_flow hm hc hR hT hD (Env.exact_stable R hΓ) ha hF fun a w' h1 h3 h2 => K w' h1 h3 a h2
/-- The operations from some place on, and then K. -/
def FlowK (P : Program) (N : Nat) (l : List Oper) (R : World → World → Prop) (w0 : World) (rest : List Oper) (Γ : Env) (K : Env → List (World → Prop) → Prop) : Prop := ∃ Γ' Fs, Flow P N l R w0 rest Γ Γ' Fs ∧ K Γ' Fs
section
variable {w0 : World} {rest : List Oper} {Γ : Env} {K : Env → List (World → Prop) → Prop} {d : Nat} {op : Op} {ty : TypeId} {pos : String} {af : Array Edge}
theorem fk_nil (h : K Γ []) : FlowK P N l R w0 [] Γ K := ⟨Γ, [], .nil, h⟩
theorem fk_none (F : World → Prop) (hs : ∀ w w', F w → R w w' → F w') (h : ∀ w, R w0 w → ∀ a, SatOn N Γ ⟨none, op, ty, pos, af, none⟩ a w → ∃ w', (execOp a.eval ⟨none, op, ty, pos, af, none⟩).run P w = .ok .skip w' ∧ R w w' ∧ F w')
    (k : FlowK P N l R w0 rest Γ fun Γ' Fs => K Γ' (F :: Fs)) : FlowK P N l R w0 (⟨none, op, ty, pos, af, none⟩ :: rest) Γ K :=
  let ⟨Γ', Fs, hf, hk⟩ := k; ⟨Γ', F :: Fs, .none rfl rfl F hs h hf, hk⟩
theorem fk_val {v : Value} (hR : ∀ w, R w w) (h : ∀ w, R w0 w → ValAt P N Γ w ⟨some d, op, ty, pos, af, none⟩ v) (k : FlowK P N l R w0 rest ((d, .ex v) :: Γ) K) : FlowK P N l R w0 (⟨some d, op, ty, pos, af, none⟩ :: rest) Γ K :=
  let ⟨Γ', Fs, hf, hk⟩ := k; ⟨Γ', Fs, .op rfl rfl (Slot.stable_ex R v) (fun w hw => (h w hw).opAt (hR w)) hf, hk⟩
theorem fk_op {p : Pred} (hs : ∀ u w w', p u w → R w w' → p u w') (h : ∀ w, R w0 w → OpAt P N Γ w ⟨some d, op, ty, pos, af, none⟩ R p) (k : FlowK P N l R w0 rest ((d, .ab p) :: Γ) K) : FlowK P N l R w0 (⟨some d, op, ty, pos, af, none⟩ :: rest) Γ K :=
  let ⟨Γ', Fs, hf, hk⟩ := k; ⟨Γ', Fs, .op rfl rfl (s := .ab p) hs h hf, hk⟩
theorem fk_move {x : Operand} {s : Slot} (hR : ∀ w, R w w) (hs : s.stable R) (hx : Γ.op x = some s) (k : FlowK P N l R w0 rest ((d, s) :: Γ) K) : FlowK P N l R w0 (⟨some d, .move x, ty, pos, af, none⟩ :: rest) Γ K :=
  let ⟨Γ', Fs, hf, hk⟩ := k; ⟨Γ', Fs, .op rfl rfl hs (fun w _ => opAt_val fun a ha => ⟨a.eval x, w, rfl, hR w, ha.get x (by simp [Op.operands]) s hx⟩) hf, hk⟩
theorem fk_assign {x : Operand} {s : Slot} (hR : ∀ w, R w w) (hs : s.stable R) (hx : Γ.op x = some s) (k : FlowK P N l R w0 rest ((d, s) :: Γ) K) : FlowK P N l R w0 (⟨some d, .assign x, ty, pos, af, none⟩ :: rest) Γ K :=
  let ⟨Γ', Fs, hf, hk⟩ := k; ⟨Γ', Fs, .op rfl rfl hs (fun w _ => opAt_val fun a ha => ⟨a.eval x, w, rfl, hR w, ha.get x (by simp [Op.operands]) s hx⟩) hf, hk⟩
theorem fk_yes {v : Value} {j t : Nat} {b : Bool} (hR : ∀ w, R w w) (hj : ((l.toArray)[j]?).bind (·.dst) = some t) (ht : Γ.find t = some (.ex (.bool b))) (h : ∀ w, R w0 w → ValAt P N Γ w ⟨some d, op, ty, pos, af, some (j, b)⟩ v)
    (k : FlowK P N l R w0 rest ((d, .ex v) :: Γ) K) : FlowK P N l R w0 (⟨some d, op, ty, pos, af, some (j, b)⟩ :: rest) Γ K :=
  let ⟨Γ', Fs, hf, hk⟩ := k; ⟨Γ', Fs, .yes rfl rfl hj ht (Slot.stable_ex R v) (fun w hw => (h w hw).opAt (hR w)) hf, hk⟩
theorem fk_yes_op {p : Pred} {j t : Nat} {b : Bool} (hj : ((l.toArray)[j]?).bind (·.dst) = some t) (ht : Γ.find t = some (.ex (.bool b))) (hs : ∀ u w w', p u w → R w w' → p u w') (h : ∀ w, R w0 w → OpAt P N Γ w ⟨some d, op, ty, pos, af, some (j, b)⟩ R p)
    (k : FlowK P N l R w0 rest ((d, .ab p) :: Γ) K) : FlowK P N l R w0 (⟨some d, op, ty, pos, af, some (j, b)⟩ :: rest) Γ K :=
  let ⟨Γ', Fs, hf, hk⟩ := k; ⟨Γ', Fs, .yes rfl rfl hj ht (s := .ab p) hs h hf, hk⟩
theorem fk_no {j t : Nat} {b c : Bool} (hj : ((l.toArray)[j]?).bind (·.dst) = some t) (ht : Γ.find t = some (.ex (.bool c))) (hbc : (c == b) = false)
    (k : FlowK P N l R w0 rest ((d, .ex undef) :: Γ) K) : FlowK P N l R w0 (⟨some d, op, ty, pos, af, some (j, b)⟩ :: rest) Γ K :=
  let ⟨Γ', Fs, hf, hk⟩ := k; ⟨Γ', Fs, .no rfl rfl hj ht hbc hf, hk⟩
theorem fk_no_undef {j t : Nat} {b : Bool} (hj : ((l.toArray)[j]?).bind (·.dst) = some t) (ht : Γ.find t = some (.ex undef))
    (k : FlowK P N l R w0 rest ((d, .ex undef) :: Γ) K) : FlowK P N l R w0 (⟨some d, op, ty, pos, af, some (j, b)⟩ :: rest) Γ K :=
  let ⟨Γ', Fs, hf, hk⟩ := k; ⟨Γ', Fs, .no_undef rfl rfl hj ht hf, hk⟩
end
theorem t_drawK {id : Nat} {Γ : Env} {w : World} (m : Nat) (R : World → World → Prop) (hm : P.follows .mixedOrders = true) (hc : flowOk N m l = true) (hR : ∀ w, R w w) (hT : ∀ a b c, R a b → R b c → R a c) (hD : ∀ w, R w w.drew)
    (hΓ : Γ.exact = true) (hF : FlowK P N l R w (l.take m) Γ fun Γ' Fs => ∀ w', R w w' → (∀ F ∈ Fs, F w') → RunX P N l.toArray Q Γ' (l.drop m) w') : Tr P N (.region id l.toArray true) Q Γ w :=
  let ⟨_, _, hf, hk⟩ := hF; t_draw m R hm hc hR hT hD hΓ hf hk
theorem x_open {Γ : Env} {ops : Array Oper} {rest : List Oper} {w : World} (t : Nat) {p : Pred} (ht : Γ.find t = some (.ab p)) (K : ∀ v, p v w → RunX P N ops Q ((t, .ex v) :: Γ) rest w) : RunX P N ops Q Γ rest w := fun a ha =>
  K (look a t) (ha.get t _ ht) a ⟨ha.size, ha.defers, fun t' s hs => by
    by_cases h : t = t'
    · subst h; rw [Env.find_cons_same] at hs; cases hs; rfl
    · rw [Env.find_cons_ne _ h] at hs; exact ha.get t' s hs⟩
theorem x_weak {Γ : Env} {ops : Array Oper} {rest : List Oper} {w : World} (Γ' : Env) (hs : Γ'.sub Γ) (K : RunX P N ops Q Γ' rest w) : RunX P N ops Q Γ rest w := fun a ha => K a (ha.weak hs)
end
end Go.Proofs.YtnaefgnjdmmmcaaGreatDoor
/- WORDS FOR MEMORY: a block that is known whole; a world that has turned at most the blocks of a list; a slice that reads as a list of bytes. -/
namespace Go.Proofs.YtnaefgnjdmmmcaaGreatDoor
open Go.RowKit

abbrev B (b : UInt8) : Value := .int .u8 (b.toNat : Int)
abbrev U (x : UInt32) : Value := .int .u32 (x.toNat : Int)
abbrev I (n : Nat) : Value := .int .i64 (n : Int)
abbrev L (n : Nat) : Value := .int .u64 (n : Int)
abbrev pt (g i : Nat) : Value := .pointer (some ⟨g, i, none⟩)

/-- w' is w but for the blocks of fp and new ones. -/
structure Only (fp : List Nat) (w w' : World) : Prop where
  os : w'.os = w.os
  tape : w'.tape = w.tape
  output : w'.output = w.output
  size : w.heap.size ≤ w'.heap.size
  block : ∀ i, i < w.heap.size → i ∉ fp → w'.heap[i]? = w.heap[i]?
section
variable {fp fp' : List Nat} {w w' w'' : World}
theorem Only.refl (fp : List Nat) (w : World) : Only fp w w := ⟨rfl, rfl, rfl, Nat.le_refl _, fun _ _ _ => rfl⟩
theorem Only.trans (h : Only fp w w') (k : Only fp w' w'') : Only fp w w'' :=
  ⟨k.os.trans h.os, k.tape.trans h.tape, k.output.trans h.output, Nat.le_trans h.size k.size, fun i hi hf => (k.block i (Nat.lt_of_lt_of_le hi h.size) hf).trans (h.block i hi hf)⟩
theorem Only.drew (fp : List Nat) (w : World) : Only fp w w.drew := ⟨rfl, rfl, rfl, Nat.le_refl _, fun _ _ _ => rfl⟩
theorem Only.mono (h : Only fp w w') (hs : ∀ i ∈ fp, i < w.heap.size → i ∈ fp') : Only fp' w w' := ⟨h.os, h.tape, h.output, h.size, fun i hi hf => h.block i hi fun hm => hf (hs i hm hi)⟩
/-- What is new to w0 may turn. -/
theorem Only.trans_new {w0 : World} (h : Only fp w0 w) (k : Only fp' w w') (hn : ∀ i ∈ fp', i ∈ fp ∨ w0.heap.size ≤ i) : Only fp w0 w' :=
  ⟨k.os.trans h.os, k.tape.trans h.tape, k.output.trans h.output, Nat.le_trans h.size k.size, fun i hi hf => (k.block i (Nat.lt_of_lt_of_le hi h.size) fun hm => (hn i hm).elim hf fun h2 => by omega).trans (h.block i hi hf)⟩
theorem Only.alloc (fp : List Nat) (w : World) (o : Obj) : Only fp w (w.alloc o) := ⟨rfl, rfl, rfl, by simp, fun i hi _ => Below.heap_alloc w o i hi⟩
theorem Only.setCell (w : World) (p : Addr) (v : Value) : Only [p.block] w (w.setCell p v) := ⟨rfl, rfl, rfl, by simp, fun i _ hf => Below.heap_setCell w p v i (by simpa using hf)⟩
theorem Only.grown {row : Option Nat} (h : w.grownBy w' row) (hr : ∀ g, row = some g → g ∈ fp) : Only fp w w' := ⟨h.os, h.tape, h.output, h.size, fun i hi hf => h.block i hi fun e => hf (hr i e.symm)⟩
theorem Only.setRow (w : World) (g : Nat) (cs : Array Value) : Only [g] w (w.setRow g cs) := ⟨rfl, rfl, rfl, by simp, fun i _ hf => setRow_other w g i cs (by simpa using hf)⟩
theorem Only.below {b : Nat} (h : Only fp w w') (hb : ∀ i ∈ fp, b ≤ i) (hw : b ≤ w.heap.size) : Below b w w' := ⟨h.os, h.tape, h.output, h.size, fun i hi => h.block i (by omega) fun hm => by have := hb i hm; omega⟩

/-- Block g is just these cells. -/
def Blk (w : World) (g : Nat) (t : TypeId) (cs : Array Value) : Prop := w.heap[g]? = some (.cells cs t (0, 0))
variable {g : Nat} {t : TypeId} {cs : Array Value}
theorem Blk.lt (h : Blk w g t cs) : g < w.heap.size := by
  rcases Nat.lt_or_ge g w.heap.size with hlt | hge
  · exact hlt
  · unfold Blk at h; rw [Array.getElem?_eq_none hge] at h; cases h
theorem Blk.cell (h : Blk w g t cs) (i : Nat) {v : Value} (hv : cs[i]? = some v) : w.cell? ⟨g, i, none⟩ = some v := (cell_of_row w g i cs t (0, 0) h).trans hv
theorem Blk.frozen (h : Blk w g t cs) (i : Nat) : w.frozen? ⟨g, i, none⟩ = false := by
  unfold Blk at h
  simp [World.frozen?, h]
theorem Blk.new (w : World) (t : TypeId) (cs : Array Value) : Blk (w.alloc (.cells cs t)) w.heap.size t cs := heap_alloc_new w _
theorem Blk.only (h : Blk w g t cs) (k : Only fp w w') (hg : g ∉ fp) : Blk w' g t cs := (k.block g h.lt hg).trans h
theorem Blk.set_ (h : Blk w g t cs) (i : Nat) (u : Value) : Blk (w.setCell ⟨g, i, none⟩ u) g t (cs.setIfInBounds i u) := by
  unfold Blk at h ⊢
  simp [World.setCell, Array.getElem?_modify, h]
theorem Blk.setRow (h : Blk w g t cs) (cs' : Array Value) : Blk (w.setRow g cs') g t cs' := setRow_heap w g cs cs' t _ h
theorem Blk.unique {t' : TypeId} {cs' : Array Value} (h : Blk w g t cs) (h' : Blk w g t' cs') : t = t' ∧ cs = cs' := by
  unfold Blk at h h'
  rw [h] at h'
  injection h' with h'
  injection h' with h1 h2
  exact ⟨h2, h1⟩

/-- The address reads as these bytes. -/
def Rd (w : World) (A : Option Addr) (l : Bytes) : Prop := l ≠ [] → ∃ g i, A = some ⟨g, i, none⟩ ∧ g < w.heap.size ∧ ∀ j b, l[j]? = some b → w.cell? ⟨g, i + j, none⟩ = some (B b)
/-- It lies in none of these blocks. -/
def Off (A : Option Addr) (fp : List Nat) : Prop := ∀ a, A = some a → a.block ∉ fp
theorem Rd.nil (w : World) (A : Option Addr) : Rd w A [] := fun h => absurd rfl h
theorem Rd.only {A : Option Addr} {l : Bytes} (h : Rd w A l) (k : Only fp w w') (ho : l ≠ [] → Off A fp) : Rd w' A l := fun hl => by
  obtain ⟨g, i, rfl, hg, hc⟩ := h hl
  refine ⟨g, i, rfl, Nat.lt_of_lt_of_le hg k.size, fun j b hb => ?_⟩
  rw [World.cell?_of_block (w := w) (k.block g hg (ho hl _ rfl))]
  exact hc j b hb
theorem Off.nil (A : Option Addr) : Off A [] := fun _ _ h => by cases h
theorem Rd.pure {A : Option Addr} {l : Bytes} (h : Rd w A l) (k : Only [] w w') : Rd w' A l := h.only k (fun _ => Off.nil _)
theorem Rd.at_ {A : Option Addr} {l : Bytes} (h : Rd w A l) {k : Nat} (hk : k < l.length) : ∃ g i, A = some ⟨g, i, none⟩ ∧ g < w.heap.size ∧ w.cell? ⟨g, i + k, none⟩ = some (B l[k]) := by
  obtain ⟨g, i, rfl, hg, hc⟩ := h (by rintro rfl; simp at hk)
  exact ⟨g, i, rfl, hg, hc k _ (List.getElem?_eq_getElem hk)⟩
theorem add_lit (g i k : Nat) : (⟨g, i, none⟩ : Addr).add k = ⟨g, i + k, none⟩ := by unfold Addr.add; split <;> simp_all
/-- What a block of bytes reads as, from some place on. -/
theorem Blk.rd {l : Bytes} (h : Blk w g t (l.map B).toArray) (i n : Nat) : Rd w (some ⟨g, i, none⟩) ((l.drop i).take n) := fun _ => by
  refine ⟨g, i, rfl, h.lt, fun j b hb => h.cell _ ?_⟩
  rw [List.getElem?_take] at hb
  split at hb
  · rw [List.getElem?_drop] at hb
    simp [hb]
  · cases hb
theorem Blk.rd0 {l : Bytes} (h : Blk w g t (l.map B).toArray) : Rd w (some ⟨g, 0, none⟩) l := by
  have := h.rd 0 l.length
  simpa using this
/-- A cut of what is read. -/
theorem Rd.cut {A : Option Addr} {l : Bytes} (h : Rd w A l) (k n : Nat) {m : Nat} (hm : k + n ≤ l.length → n ≠ 0 → m ≠ k) : k + n ≤ l.length → Rd w (if m = k then A else A.map (·.add (k * 1))) ((l.drop k).take n) := fun hle hne => by
  have hl : l ≠ [] := by rintro rfl; simp at hne
  have hn : n ≠ 0 := by rintro rfl; simp at hne
  obtain ⟨g, i, rfl, hg, hc⟩ := h hl
  rw [if_neg (hm hle hn)]
  refine ⟨g, i + k, by simp [add_lit], hg, fun j b hb => ?_⟩
  rw [List.getElem?_take] at hb
  split at hb
  · rw [List.getElem?_drop] at hb
    rw [Nat.add_assoc]
    exact hc _ _ hb
  · cases hb
theorem Off.cut {A : Option Addr} (h : Off A fp) (k m : Nat) : Off (if m = k then A else A.map (·.add (k * 1))) fp := by
  intro a ha
  split at ha
  · exact h a ha
  · cases A with
    | none => cases ha
    | some b =>
      simp at ha
      subst ha
      have : (b.add k).block = b.block := by unfold Addr.add; split <;> rfl
      rw [this]
      exact h b rfl
theorem Off.pt {g i : Nat} (h : g ∉ fp) : Off (some ⟨g, i, none⟩) fp := fun a ha => by cases ha; exact h
theorem Off.none_ : Off none fp := fun a ha => by cases ha
/-- A row of the call's own reads as its bytes. -/
theorem own_rd {base : Nat} {e : TypeId} {A : Option Addr} {n c : Nat} {l : Bytes} (h : w.ownsRow base e 1 (.slice A n c) n (l.map B)) : Rd w A l ∧ n = l.length := by
  obtain ⟨h1, h2⟩ := h
  have hn : n = l.length := by simpa using h1.symm
  refine ⟨fun hl => ?_, hn⟩
  rcases h2 with ⟨_, rfl⟩ | ⟨g, cap, cur, hv, _, hh, _, _, _, ht⟩
  · exact absurd (List.eq_nil_of_length_eq_zero hn.symm) hl
  · injection hv with hA
    subst hA
    refine ⟨g, 0, rfl, (Array.getElem?_eq_some_iff.1 hh).1, fun j b hb => ?_⟩
    rw [Nat.zero_add, cell_of_row w g j cur e (0, 0) hh]
    have hx : (l.map B)[j]? = some (B b) := by simp [hb]
    rw [← ht, List.getElem?_take] at hx
    split at hx
    · simpa using hx
    · cases hx

/-! ## A block of bytes -/
theorem Blk.byte {l : Bytes} (h : Blk w g t (l.map B).toArray) {k : Nat} (hk : k < l.length) : w.cell? ⟨g, k, none⟩ = some (B (l.getD k 0)) :=
  h.cell k (by simp [List.getElem?_eq_getElem hk])
theorem set_byte (l : Bytes) (k : Nat) (b : UInt8) : (l.map B).toArray.setIfInBounds k (B b) = ((l.set k b).map B).toArray := by
  apply Array.ext'
  simp [List.map_set]
/-- Bytes laid over others, from some place on. -/
def spl (l : Bytes) (off : Nat) (m : Bytes) : Bytes := l.take off ++ (m ++ l.drop (off + m.length))
theorem spl_length {l : Bytes} {off : Nat} {m : Bytes} (h : off + m.length ≤ l.length) : (spl l off m).length = l.length := by simp [spl]; omega
theorem spl_nil (l : Bytes) (off : Nat) : spl l off [] = l := by simp [spl]
theorem spl_all {l m : Bytes} (h : l.length = m.length) : spl l 0 m = m := by
  have : l.drop m.length = [] := List.drop_eq_nil_of_le (by omega)
  simp [spl, this]
theorem spl_get {l : Bytes} {off : Nat} {m : Bytes} (h : off + m.length ≤ l.length) (k : Nat) : (spl l off m)[k]? = if off ≤ k ∧ k < off + m.length then m[k - off]? else l[k]? := by
  unfold spl
  by_cases h1 : k < off
  · rw [if_neg (by omega), List.getElem?_append_left (by rw [List.length_take]; omega), List.getElem?_take, if_pos h1]
  · rw [List.getElem?_append_right (by rw [List.length_take]; omega), List.length_take, Nat.min_eq_left (by omega)]
    by_cases h2 : k < off + m.length
    · rw [if_pos ⟨by omega, h2⟩, List.getElem?_append_left (by omega)]
    · rw [if_neg (by omega), List.getElem?_append_right (by omega), List.getElem?_drop]
      congr 1; omega
theorem spl_set {l : Bytes} {off i : Nat} {m : Bytes} {b : UInt8} (h : off + m.length ≤ l.length) (hb : m[i]? = some b) : (spl l off (m.take i)).set (off + i) b = spl l off (m.take (i + 1)) := by
  have hi : i < m.length := (List.getElem?_eq_some_iff.1 hb).1
  have h1 : off + (m.take i).length ≤ l.length := by rw [List.length_take]; omega
  have h2 : off + (m.take (i + 1)).length ≤ l.length := by rw [List.length_take]; omega
  apply List.ext_getElem?
  intro k
  rw [List.getElem?_set, spl_get h1, spl_get h2]
  simp only [List.length_take, spl_length h1, List.getElem?_take]
  by_cases hk : off + i = k
  · subst hk
    rw [if_pos rfl, if_pos (by omega), if_pos (by omega), if_pos (by omega), Nat.add_sub_cancel_left, hb]
  · rw [if_neg hk]
    by_cases h3 : off ≤ k ∧ k < off + min i m.length
    · rw [if_pos h3, if_pos (by omega), if_pos (by omega), if_pos (by omega)]
    · rw [if_neg h3, if_neg (by omega)]
end
end Go.Proofs.YtnaefgnjdmmmcaaGreatDoor
/- ONE RULE AN OPERATION: what it gives, out of what is known of its operands. -/
namespace Go.Proofs.YtnaefgnjdmmmcaaGreatDoor
open Go.RowKit

section
variable {P : Program} {N : Nat} {Γ : Env} {w : World} {d : Option Tmp} {ty : TypeId} {pos : String} {af : Array Edge} {gd : Option (Nat × Bool)}

theorem v_move {x : Operand} {v : Value} (hx : Γ.op x = some (.ex v)) : ValAt P N Γ w ⟨d, .move x, ty, pos, af, gd⟩ v := fun a ha => by
  have h := ha.val (x := x) (by simp [Op.operands]) hx
  simp only [execOp, h]; rfl
theorem v_assign {x : Operand} {v : Value} (hx : Γ.op x = some (.ex v)) : ValAt P N Γ w ⟨d, .assign x, ty, pos, af, gd⟩ v := fun a ha => by
  have h := ha.val (x := x) (by simp [Op.operands]) hx
  simp only [execOp, h]; rfl
theorem v_pick {c x y : Operand} {b : Bool} {v u : Value} (hc : Γ.op c = some (.ex (.bool b))) (hx : Γ.op x = some (.ex v)) (hy : Γ.op y = some (.ex u)) : ValAt P N Γ w ⟨d, .pick c x y, ty, pos, af, gd⟩ (if b then v else u) := fun a ha => by
  have h1 := ha.val (x := c) (by simp [Op.operands]) hc
  have h2 := ha.val (x := x) (by simp [Op.operands]) hx
  have h3 := ha.val (x := y) (by simp [Op.operands]) hy
  simp only [execOp, h1, h2, h3, asBool]; cases b <;> rfl
theorem v_nilCheck {x : Operand} {p : Addr} (hx : Γ.op x = some (.ex (.pointer (some p)))) : ValAt P N Γ w ⟨d, .nilCheck x, ty, pos, af, gd⟩ (.pointer (some p)) := fun a ha => by
  have h := ha.val (x := x) (by simp [Op.operands]) hx
  simp only [execOp, h]; rfl
theorem v_nilCheck_iface {x : Operand} {t : TypeId} {v : Value} (hx : Γ.op x = some (.ex (.iface t v))) : ValAt P N Γ w ⟨d, .nilCheck x, ty, pos, af, gd⟩ (.iface t v) := fun a ha => by
  have h := ha.val (x := x) (by simp [Op.operands]) hx
  simp only [execOp, h]; rfl

/-! ## Types, as closed facts -/
@[irreducible] def scalar (P : Program) (t : TypeId) : Bool := match P.underlying t with | some (.struct _) | some (.array _ _) => false | some _ => true | none => false
@[irreducible] def fieldOff (P : Program) (s k : Nat) : Option Nat := match P.underlying s with
  | some (.struct fs) => match fs[k]? with
    | some f => match P.info? f.type with
      | some i => if i.size = 0 then none else some f.offset
      | none => none
    | none => none
  | _ => none
@[irreducible] def arrLen (P : Program) (t : TypeId) : Option Nat := match P.underlying t with
  | some (.array n e) => match P.info? e with
    | some i => if i.size = 1 then some n else none
    | none => none
  | _ => none
/-- A slice of elements of one cell each. -/
@[irreducible] def sliceOne (P : Program) (t : TypeId) : Bool := match P.underlying t with
  | some (.slice e) => match P.info? e with
    | some i => i.size == 1
    | none => false
  | _ => false
@[irreducible] def kindOf (P : Program) (t : TypeId) : Option IntKind := match P.underlying t with
  | some (.int k) => some k
  | _ => none
theorem loadVar_scalar {t : TypeId} {p : Addr} {v : Value} (ht : scalar P t = true) (hc : w.cell? p = some v) : (loadVar t p).run P w = .ok v w := by
  unfold scalar at ht
  unfold loadVar isAgg
  cases hu : P.underlying t with
  | none => rw [hu] at ht; cases ht
  | some u =>
    rw [hu] at ht
    cases u <;> simp at ht <;> simp [underlying, hu, hc]
theorem v_load {x : Operand} {p : Addr} {t : TypeId} {v : Value} (hx : Γ.op x = some (.ex (.pointer (some p)))) (hl : (loadVar t p).run P w = .ok v w) : ValAt P N Γ w ⟨d, .load t x, ty, pos, af, gd⟩ v := fun a ha => by
  have h := ha.val (x := x) (by simp [Op.operands]) hx
  simp only [execOp, h, Instr.loadAt, Instr.sureAddr, Sem.run_bind, Sem.run_pure, Result.andThen_ok, hl]
theorem v_load1 {x : Operand} {p : Addr} {t : TypeId} {v : Value} (hx : Γ.op x = some (.ex (.pointer (some p)))) (ht : scalar P t = true) (hc : w.cell? p = some v) : ValAt P N Γ w ⟨d, .load t x, ty, pos, af, gd⟩ v :=
  v_load hx (loadVar_scalar ht hc)
theorem v_fieldAddr {x : Operand} {g i s k off : Nat} (hx : Γ.op x = some (.ex (pt g i))) (hf : fieldOff P s k = some off) : ValAt P N Γ w ⟨d, .fieldAddr s x k, ty, pos, af, gd⟩ (pt g (i + off)) := fun a ha => by
  have h := ha.val (x := x) (by simp [Op.operands]) hx
  unfold fieldOff at hf
  cases hu : P.underlying s with
  | none => rw [hu] at hf; cases hf
  | some u =>
    rw [hu] at hf
    cases u <;> simp at hf
    rename_i fs
    cases hk : fs[k]? with
    | none => rw [hk] at hf; cases hf
    | some f =>
      rw [hk] at hf
      simp at hf
      cases hi : P.info? f.type with
      | none => rw [hi] at hf; cases hf
      | some inf =>
        rw [hi] at hf
        simp at hf
        obtain ⟨hz, ho⟩ := hf
        simp [execOp, h, Instr.fieldAt, underlying, hu, hk, Instr.sureAddr, fieldPlace, sizeOf, typeInfo, hi, hz, add_lit, ho]
theorem v_indexArr {x y : Operand} {g i n t k : Nat} (hx : Γ.op x = some (.ex (pt g i))) (hy : Γ.op y = some (.ex (I k))) (ht : arrLen P t = some n) (hk : k < n) : ValAt P N Γ w ⟨d, .indexAddr t x y, ty, pos, af, gd⟩ (pt g (i + k)) := fun a ha => by
  have h1 := ha.val (x := x) (by simp [Op.operands]) hx
  have h2 := ha.val (x := y) (by simp [Op.operands]) hy
  unfold arrLen at ht
  cases hu : P.underlying t with
  | none => rw [hu] at ht; cases ht
  | some u =>
    rw [hu] at ht
    cases u <;> simp at ht
    rename_i m e
    cases hi : P.info? e with
    | none => rw [hi] at ht; cases ht
    | some inf =>
      rw [hi] at ht
      simp at ht
      obtain ⟨h3, rfl⟩ := ht
      simp [execOp, h1, h2, Instr.indexAt, asIntOf, underlying, hu, Instr.sureAddr, sizeOf, typeInfo, hi, h3, add_lit, hk]
theorem v_indexSlice {x y : Operand} {g i n c t k : Nat} (hx : Γ.op x = some (.ex (.slice (some ⟨g, i, none⟩) n c))) (hy : Γ.op y = some (.ex (I k))) (ht : sliceOne P t = true) (hk : k < n) : ValAt P N Γ w ⟨d, .indexAddr t x y, ty, pos, af, gd⟩ (pt g (i + k)) := fun a ha => by
  have h1 := ha.val (x := x) (by simp [Op.operands]) hx
  have h2 := ha.val (x := y) (by simp [Op.operands]) hy
  unfold sliceOne at ht
  cases hu : P.underlying t with
  | none => rw [hu] at ht; cases ht
  | some u =>
    rw [hu] at ht
    cases u <;> simp at ht
    rename_i e
    cases hi : P.info? e with
    | none => rw [hi] at ht; cases ht
    | some inf =>
      rw [hi] at ht
      simp at ht
      simp [execOp, h1, h2, Instr.indexAt, asIntOf, underlying, hu, sizeOf, typeInfo, hi, ht, add_lit, hk]

/-! ## Slices of slices and arrays -/
theorem bound_ok {k : IntKind} {n y : Nat} {code : BoundsCode} (h : n ≤ y) : (Instr.sliceBound (.int k (n : Int)) y code).run P w = .ok n w := by
  have h1 : (0 : Int) ≤ (n : Int) ∧ (n : Int) ≤ (y : Int) := by omega
  simp [Instr.sliceBound, asIntOf, h]
theorem sliceOne_some {t : TypeId} (h : sliceOne P t = true) : ∃ e i, P.underlying t = some (.slice e) ∧ P.info? e = some i ∧ i.size = 1 := by
  unfold sliceOne at h
  cases hu : P.underlying t with
  | none => rw [hu] at h; cases h
  | some u =>
    rw [hu] at h
    cases u <;> simp at h
    rename_i e
    cases hi : P.info? e with
    | none => rw [hi] at h; cases h
    | some inf => rw [hi] at h; simp at h; exact ⟨e, inf, rfl, hi, h⟩
theorem arrLen_some {t n : Nat} (h : arrLen P t = some n) : ∃ e i, P.underlying t = some (.array n e) ∧ P.info? e = some i ∧ i.size = 1 := by
  unfold arrLen at h
  cases hu : P.underlying t with
  | none => rw [hu] at h; cases h
  | some u =>
    rw [hu] at h
    cases u <;> simp at h
    rename_i m e
    cases hi : P.info? e with
    | none => rw [hi] at h; cases h
    | some inf => rw [hi] at h; simp at h; obtain ⟨h1, rfl⟩ := h; exact ⟨e, inf, rfl, hi, h1⟩
/-- s[k:] -/
theorem v_sliceLo {x lo : Operand} {t : TypeId} {A : Option Addr} {n c k : Nat} {kk : IntKind} (hx : Γ.op x = some (.ex (.slice A n c))) (hl : Γ.op lo = some (.ex (.int kk (k : Int)))) (ht : sliceOne P t = true) (hk : k ≤ n) :
    ValAt P N Γ w ⟨d, .slice t x (some lo) none none, ty, pos, af, gd⟩ (.slice (if c = k then A else A.map (·.add (k * 1))) (n - k) (c - k)) := fun a ha => by
  have h1 := ha.val (x := x) (by simp [Op.operands]) hx
  have h2 := ha.val (x := lo) (by simp [Op.operands]) hl
  obtain ⟨e, i, hu, hi, hs⟩ := sliceOne_some ht
  simp [execOp, h1, h2, Instr.sliceAt, Instr.slice, underlying, hu, Instr.sliceBounds, bound_ok hk, sizeOf, typeInfo, hi, hs]
/-- s[:k] -/
theorem v_sliceHi {x hi : Operand} {t : TypeId} {A : Option Addr} {n c k : Nat} {kk : IntKind} (hx : Γ.op x = some (.ex (.slice A n c))) (hl : Γ.op hi = some (.ex (.int kk (k : Int)))) (ht : sliceOne P t = true) (hk : k ≤ c) :
    ValAt P N Γ w ⟨d, .slice t x none (some hi) none, ty, pos, af, gd⟩ (.slice A k c) := fun a ha => by
  have h1 := ha.val (x := x) (by simp [Op.operands]) hx
  have h2 := ha.val (x := hi) (by simp [Op.operands]) hl
  obtain ⟨e, i, hu, hi', hs⟩ := sliceOne_some ht
  have h0 : (if c = 0 then A else A.map (·.add (0 * i.size))) = A := by
    split
    · rfl
    · cases A <;> simp [Addr.add]
  simp [execOp, h1, h2, Instr.sliceAt, Instr.slice, underlying, hu, Instr.sliceBounds, bound_ok hk, sizeOf, typeInfo, hi']
  cases A <;> simp [Addr.add]
/-- s[lo:hi] -/
theorem v_sliceLoHi {x lo hi : Operand} {t : TypeId} {A : Option Addr} {n c j k : Nat} {kk kk' : IntKind} (hx : Γ.op x = some (.ex (.slice A n c))) (hl : Γ.op lo = some (.ex (.int kk (j : Int)))) (hh : Γ.op hi = some (.ex (.int kk' (k : Int)))) (ht : sliceOne P t = true) (hj : j ≤ k) (hk : k ≤ c) :
    ValAt P N Γ w ⟨d, .slice t x (some lo) (some hi) none, ty, pos, af, gd⟩ (.slice (if c = j then A else A.map (·.add (j * 1))) (k - j) (c - j)) := fun a ha => by
  have h1 := ha.val (x := x) (by simp [Op.operands]) hx
  have h2 := ha.val (x := lo) (by simp [Op.operands]) hl
  have h3 := ha.val (x := hi) (by simp [Op.operands]) hh
  obtain ⟨e, i, hu, hi, hs⟩ := sliceOne_some ht
  simp [execOp, h1, h2, h3, Instr.sliceAt, Instr.slice, underlying, hu, Instr.sliceBounds, bound_ok hk, bound_ok hj, sizeOf, typeInfo, hi, hs]
/-- arr[:] -/
theorem v_sliceArr {x : Operand} {t n g i : Nat} (hx : Γ.op x = some (.ex (pt g i))) (ht : arrLen P t = some n) : ValAt P N Γ w ⟨d, .slice t x none none none, ty, pos, af, gd⟩ (.slice (some ⟨g, i, none⟩) n n) := fun a ha => by
  have h1 := ha.val (x := x) (by simp [Op.operands]) hx
  obtain ⟨e, inf, hu, hi, hs⟩ := arrLen_some ht
  simp [execOp, h1, Instr.sliceAt, underlying, hu, Instr.sureAddr, Instr.sliceBounds, sizeOf, typeInfo, hi]
  simp [Addr.add]
/-- arr[k:] -/
theorem v_sliceArrLo {x lo : Operand} {t n g i k : Nat} {kk : IntKind} (hx : Γ.op x = some (.ex (pt g i))) (hl : Γ.op lo = some (.ex (.int kk (k : Int)))) (ht : arrLen P t = some n) (hk : k < n) : ValAt P N Γ w ⟨d, .slice t x (some lo) none none, ty, pos, af, gd⟩ (.slice (some ⟨g, i + k, none⟩) (n - k) (n - k)) := fun a ha => by
  have h1 := ha.val (x := x) (by simp [Op.operands]) hx
  have h2 := ha.val (x := lo) (by simp [Op.operands]) hl
  obtain ⟨e, inf, hu, hi, hs⟩ := arrLen_some ht
  have hne : ¬ (n = k) := by omega
  simp [execOp, h1, h2, Instr.sliceAt, underlying, hu, Instr.sureAddr, Instr.sliceBounds, bound_ok (Nat.le_of_lt hk), sizeOf, typeInfo, hi, hs, hne, add_lit]
/-- arr[:k] -/
theorem v_sliceArrHi {x hi : Operand} {t n g i k : Nat} {kk : IntKind} (hx : Γ.op x = some (.ex (pt g i))) (hl : Γ.op hi = some (.ex (.int kk (k : Int)))) (ht : arrLen P t = some n) (hk : k ≤ n) : ValAt P N Γ w ⟨d, .slice t x none (some hi) none, ty, pos, af, gd⟩ (.slice (some ⟨g, i, none⟩) k n) := fun a ha => by
  have h1 := ha.val (x := x) (by simp [Op.operands]) hx
  have h2 := ha.val (x := hi) (by simp [Op.operands]) hl
  obtain ⟨e, inf, hu, hi', hs⟩ := arrLen_some ht
  simp [execOp, h1, h2, Instr.sliceAt, underlying, hu, Instr.sureAddr, Instr.sliceBounds, bound_ok hk, sizeOf, typeInfo, hi']
  simp [Addr.add]

/-! ## Constants, in the spelling of numerals -/
theorem opc {k : IntKind} {c : Nat} : Γ.op (.const (.int k (@OfNat.ofNat Int c instOfNat))) = some (.ex (.int k ((@OfNat.ofNat Nat c (instOfNatNat c) : Nat) : Int))) := rfl
theorem opb {c : Nat} (h : Nat.blt c 256 = true) : Γ.op (.const (.int .u8 (@OfNat.ofNat Int c instOfNat))) = some (.ex (B (UInt8.ofNat (@OfNat.ofNat Nat c (instOfNatNat c))))) := by
  have := Nat.le_of_ble_eq_true h
  show some (Slot.ex (.int .u8 ((c : Nat) : Int))) = _
  rw [show (@OfNat.ofNat Nat c (instOfNatNat c)) = c from rfl]
  unfold B
  rw [UInt8.toNat_ofNat', Nat.mod_eq_of_lt (by omega)]
theorem opu {c : Nat} (h : Nat.blt c 4294967296 = true) : Γ.op (.const (.int .u32 (@OfNat.ofNat Int c instOfNat))) = some (.ex (U (UInt32.ofNat (@OfNat.ofNat Nat c (instOfNatNat c))))) := by
  have := Nat.le_of_ble_eq_true h
  show some (Slot.ex (.int .u32 ((c : Nat) : Int))) = _
  rw [show (@OfNat.ofNat Nat c (instOfNatNat c)) = c from rfl]
  unfold U
  rw [UInt32.toNat_ofNat', Nat.mod_eq_of_lt (by omega)]

/-! ## Numbers -/
theorem v_bin {op : BinOp} {x y : Operand} {k k' : IntKind} {t t' : TypeId} {m n : Int} {v : Value} (hx : Γ.op x = some (.ex (.int k m))) (hy : Γ.op y = some (.ex (.int k' n))) (h : ∀ w : World, (binOp op t (.int k m) (.int k' n)).run P w = .ok v w) :
    ValAt P N Γ w ⟨d, .binOp op t x y t', ty, pos, af, gd⟩ v := fun a ha => by
  have h1 := ha.val (x := x) (by simp [Op.operands]) hx
  have h2 := ha.val (x := y) (by simp [Op.operands]) hy
  have h3 : ∀ w : World, (eqGuard op t x y (.int k m) (.int k' n)).run P w = .ok () w := fun w => by
    unfold eqGuard
    cases op <;> simp
  simp only [execOp, h1, h2, Sem.run_bind, h3, Result.andThen_ok, h w, Sem.run_pure]
theorem v_bool_not {x : Operand} {t : TypeId} {b : Bool} (hx : Γ.op x = some (.ex (.bool b))) : ValAt P N Γ w ⟨d, .unOp .not t x, ty, pos, af, gd⟩ (.bool !b) := fun a ha => by
  have h1 := ha.val (x := x) (by simp [Op.operands]) hx
  simp only [execOp, h1]; rfl
theorem wrap64_ok {n : Int} (h0 : -9223372036854775808 ≤ n) (h1 : n < 9223372036854775808) : IntKind.i64.wrap n = n := by rw [IntKind.wrap_i64]; omega
theorem wrapu64_ok {n : Int} (h0 : 0 ≤ n) (h1 : n < 18446744073709551616) : IntKind.u64.wrap n = n := by rw [IntKind.wrap_u64]; omega
theorem v_addI {x y : Operand} {t t' : TypeId} {m n : Nat} (hx : Γ.op x = some (.ex (I m))) (hy : Γ.op y = some (.ex (I n))) (hb : m + n < 9223372036854775808) : ValAt P N Γ w ⟨d, .binOp .add t x y t', ty, pos, af, gd⟩ (I (m + n)) :=
  v_bin hx hy fun w => by
    simp only [binOp, Op.intArith, ne_eq, not_true_eq_false, if_false]
    rw [show ((m : Int) + (n : Int)) = ((m + n : Nat) : Int) from by omega, wrap64_ok (by omega) (by omega)]; rfl
theorem v_subI {x y : Operand} {t t' : TypeId} {m n : Nat} (hx : Γ.op x = some (.ex (I m))) (hy : Γ.op y = some (.ex (I n))) (hb : n ≤ m) (hm : m < 9223372036854775808) : ValAt P N Γ w ⟨d, .binOp .sub t x y t', ty, pos, af, gd⟩ (I (m - n)) :=
  v_bin hx hy fun w => by
    simp only [binOp, Op.intArith, ne_eq, not_true_eq_false, if_false]
    rw [show ((m : Int) - (n : Int)) = ((m - n : Nat) : Int) from by omega, wrap64_ok (by omega) (by omega)]; rfl
theorem v_mulI {x y : Operand} {t t' : TypeId} {m n : Nat} (hx : Γ.op x = some (.ex (I m))) (hy : Γ.op y = some (.ex (I n))) (hb : m * n < 9223372036854775808) : ValAt P N Γ w ⟨d, .binOp .mul t x y t', ty, pos, af, gd⟩ (I (m * n)) :=
  v_bin hx hy fun w => by
    simp only [binOp, Op.intArith, ne_eq, not_true_eq_false, if_false]
    rw [← Int.natCast_mul, wrap64_ok (by omega) (by omega)]; rfl
theorem v_remI {x y : Operand} {t t' : TypeId} {m n : Nat} (hx : Γ.op x = some (.ex (I m))) (hy : Γ.op y = some (.ex (I n))) (hn : 0 < n) : ValAt P N Γ w ⟨d, .binOp .rem t x y t', ty, pos, af, gd⟩ (I (m % n)) :=
  v_bin hx hy fun w => by
    have h0 : ¬ ((n : Int) = 0) := by omega
    simp only [binOp, Op.intDiv, ne_eq, not_true_eq_false, if_false, h0]
    rw [show ((m : Int).tmod (n : Int)) = ((m % n : Nat) : Int) from (Int.ofNat_tmod m n).symm]; rfl
theorem v_ltI {x y : Operand} {t t' : TypeId} {m n : Int} (hx : Γ.op x = some (.ex (.int .i64 m))) (hy : Γ.op y = some (.ex (.int .i64 n))) : ValAt P N Γ w ⟨d, .binOp .lss t x y t', ty, pos, af, gd⟩ (.bool (decide (m < n))) :=
  v_bin hx hy fun w => by simp only [binOp, Op.intCmp, ne_eq, not_true_eq_false, if_false]; rfl
theorem v_gtI {x y : Operand} {t t' : TypeId} {m n : Int} (hx : Γ.op x = some (.ex (.int .i64 m))) (hy : Γ.op y = some (.ex (.int .i64 n))) : ValAt P N Γ w ⟨d, .binOp .gtr t x y t', ty, pos, af, gd⟩ (.bool (decide (m > n))) :=
  v_bin hx hy fun w => by simp only [binOp, Op.intCmp, ne_eq, not_true_eq_false, if_false]; rfl
theorem v_leI {x y : Operand} {t t' : TypeId} {m n : Int} (hx : Γ.op x = some (.ex (.int .i64 m))) (hy : Γ.op y = some (.ex (.int .i64 n))) : ValAt P N Γ w ⟨d, .binOp .leq t x y t', ty, pos, af, gd⟩ (.bool (decide (m ≤ n))) :=
  v_bin hx hy fun w => by simp only [binOp, Op.intCmp, ne_eq, not_true_eq_false, if_false]; rfl
theorem v_geI {x y : Operand} {t t' : TypeId} {m n : Int} (hx : Γ.op x = some (.ex (.int .i64 m))) (hy : Γ.op y = some (.ex (.int .i64 n))) : ValAt P N Γ w ⟨d, .binOp .geq t x y t', ty, pos, af, gd⟩ (.bool (decide (m ≥ n))) :=
  v_bin hx hy fun w => by simp only [binOp, Op.intCmp, ne_eq, not_true_eq_false, if_false]; rfl
theorem v_eqI {k : IntKind} {x y : Operand} {t t' : TypeId} {m n : Int} (hx : Γ.op x = some (.ex (.int k m))) (hy : Γ.op y = some (.ex (.int k n))) : ValAt P N Γ w ⟨d, .binOp .eql t x y t', ty, pos, af, gd⟩ (.bool (m == n)) :=
  v_bin hx hy fun w => by simp only [binOp, Op.intCmp, ne_eq, not_true_eq_false, if_false]; rfl
theorem v_neI {k : IntKind} {x y : Operand} {t t' : TypeId} {m n : Int} (hx : Γ.op x = some (.ex (.int k m))) (hy : Γ.op y = some (.ex (.int k n))) : ValAt P N Γ w ⟨d, .binOp .neq t x y t', ty, pos, af, gd⟩ (.bool (m != n)) :=
  v_bin hx hy fun w => by simp only [binOp, Op.intCmp, ne_eq, not_true_eq_false, if_false]; rfl
theorem v_cmpK {k : IntKind} {x y : Operand} {t t' : TypeId} {m n : Int} (hx : Γ.op x = some (.ex (.int k m))) (hy : Γ.op y = some (.ex (.int k n))) : ValAt P N Γ w ⟨d, .binOp .gtr t x y t', ty, pos, af, gd⟩ (.bool (decide (m > n))) :=
  v_bin hx hy fun w => by simp only [binOp, Op.intCmp, ne_eq, not_true_eq_false, if_false]; rfl
theorem v_ltK {k : IntKind} {x y : Operand} {t t' : TypeId} {m n : Int} (hx : Γ.op x = some (.ex (.int k m))) (hy : Γ.op y = some (.ex (.int k n))) : ValAt P N Γ w ⟨d, .binOp .lss t x y t', ty, pos, af, gd⟩ (.bool (decide (m < n))) :=
  v_bin hx hy fun w => by simp only [binOp, Op.intCmp, ne_eq, not_true_eq_false, if_false]; rfl
/-- len of a slice. -/
theorem v_len {x : Operand} {A : Option Addr} {n c : Nat} {t : TypeId} {hu : Bool} (hx : Γ.op x = some (.ex (.slice A n c))) (ht : sliceOne P t = hu) (hu1 : hu = true) : ValAt P N Γ w ⟨d, .call ⟨.builtin .len, #[x], #[t]⟩, ty, pos, af, gd⟩ (I n) := fun a ha => by
  have h1 := ha.val (x := x) (by simp [Op.operands, Call.operands]) hx
  subst hu1
  unfold sliceOne at ht
  cases hu : P.underlying t with
  | none => rw [hu] at ht; cases ht
  | some u =>
    rw [hu] at ht
    cases u <;> simp at ht
    simp [execOp, resolve, invoke, builtin, h1, Builtin.len_, underlying, hu, goInt]

/-! ## Bytes and words -/
theorem u8_add (x y : UInt8) : IntKind.u8.wrap ((x.toNat : Int) + (y.toNat : Int)) = ((x + y).toNat : Int) := by rw [IntKind.wrap_u8, UInt8.toNat_add]; omega
theorem u8_mul (x y : UInt8) : IntKind.u8.wrap ((x.toNat : Int) * (y.toNat : Int)) = ((x * y).toNat : Int) := by rw [IntKind.wrap_u8, UInt8.toNat_mul, ← Int.natCast_mul]; omega
theorem u8_of (n : Nat) : IntKind.u8.wrap (n : Int) = ((UInt8.ofNat n).toNat : Int) := by rw [IntKind.wrap_u8, UInt8.toNat_ofNat']; omega
theorem u8_bv (x : UInt8) : BitVec.ofInt 8 (x.toNat : Int) = x.toBitVec := by
  rw [BitVec.ofInt_natCast]; exact BitVec.eq_of_toNat_eq (by simp)
theorem u8_id (x : UInt8) : IntKind.u8.wrap (x.toNat : Int) = (x.toNat : Int) := by rw [IntKind.wrap_u8]; have := x.toNat_lt; omega
theorem u32_add (x y : UInt32) : IntKind.u32.wrap ((x.toNat : Int) + (y.toNat : Int)) = ((x + y).toNat : Int) := by rw [IntKind.wrap_u32, UInt32.toNat_add]; omega
theorem u32_bv (x : UInt32) : BitVec.ofInt 32 (x.toNat : Int) = x.toBitVec := by
  rw [BitVec.ofInt_natCast]; exact BitVec.eq_of_toNat_eq (by simp)
theorem u32_id (x : UInt32) : IntKind.u32.wrap (x.toNat : Int) = (x.toNat : Int) := by rw [IntKind.wrap_u32]; have := x.toNat_lt; omega
theorem v_addB {x y : Operand} {t t' : TypeId} {m n : UInt8} (hx : Γ.op x = some (.ex (B m))) (hy : Γ.op y = some (.ex (B n))) : ValAt P N Γ w ⟨d, .binOp .add t x y t', ty, pos, af, gd⟩ (B (m + n)) :=
  v_bin hx hy fun w => by
    simp only [binOp, Op.intArith, ne_eq, not_true_eq_false, if_false]
    rw [u8_add]; rfl
theorem v_mulB {x y : Operand} {t t' : TypeId} {m n : UInt8} (hx : Γ.op x = some (.ex (B m))) (hy : Γ.op y = some (.ex (B n))) : ValAt P N Γ w ⟨d, .binOp .mul t x y t', ty, pos, af, gd⟩ (B (m * n)) :=
  v_bin hx hy fun w => by
    simp only [binOp, Op.intArith, ne_eq, not_true_eq_false, if_false]
    rw [u8_mul]; rfl
theorem v_xorB {x y : Operand} {t t' : TypeId} {m n : UInt8} (hx : Γ.op x = some (.ex (B m))) (hy : Γ.op y = some (.ex (B n))) : ValAt P N Γ w ⟨d, .binOp .xor t x y t', ty, pos, af, gd⟩ (B (m ^^^ n)) :=
  v_bin hx hy fun w => by
    simp only [binOp, Op.intBits, ne_eq, not_true_eq_false, if_false]
    rw [show IntKind.u8.bits = 8 from rfl, u8_bv, u8_bv, show ((m.toBitVec ^^^ n.toBitVec).toNat) = (m ^^^ n).toNat from rfl, u8_id]; rfl
theorem v_addU {x y : Operand} {t t' : TypeId} {m n : UInt32} (hx : Γ.op x = some (.ex (U m))) (hy : Γ.op y = some (.ex (U n))) : ValAt P N Γ w ⟨d, .binOp .add t x y t', ty, pos, af, gd⟩ (U (m + n)) :=
  v_bin hx hy fun w => by
    simp only [binOp, Op.intArith, ne_eq, not_true_eq_false, if_false]
    rw [u32_add]; rfl
theorem v_xorU {x y : Operand} {t t' : TypeId} {m n : UInt32} (hx : Γ.op x = some (.ex (U m))) (hy : Γ.op y = some (.ex (U n))) : ValAt P N Γ w ⟨d, .binOp .xor t x y t', ty, pos, af, gd⟩ (U (m ^^^ n)) :=
  v_bin hx hy fun w => by
    simp only [binOp, Op.intBits, ne_eq, not_true_eq_false, if_false]
    rw [show IntKind.u32.bits = 32 from rfl, u32_bv, u32_bv, show ((m.toBitVec ^^^ n.toBitVec).toNat) = (m ^^^ n).toNat from rfl, u32_id]; rfl
theorem v_andU {x y : Operand} {t t' : TypeId} {m n : UInt32} (hx : Γ.op x = some (.ex (U m))) (hy : Γ.op y = some (.ex (U n))) : ValAt P N Γ w ⟨d, .binOp .and t x y t', ty, pos, af, gd⟩ (U (m &&& n)) :=
  v_bin hx hy fun w => by
    simp only [binOp, Op.intBits, ne_eq, not_true_eq_false, if_false]
    rw [show IntKind.u32.bits = 32 from rfl, u32_bv, u32_bv, show ((m.toBitVec &&& n.toBitVec).toNat) = (m &&& n).toNat from rfl, u32_id]; rfl
theorem v_orU {x y : Operand} {t t' : TypeId} {m n : UInt32} (hx : Γ.op x = some (.ex (U m))) (hy : Γ.op y = some (.ex (U n))) : ValAt P N Γ w ⟨d, .binOp .or t x y t', ty, pos, af, gd⟩ (U (m ||| n)) :=
  v_bin hx hy fun w => by
    simp only [binOp, Op.intBits, ne_eq, not_true_eq_false, if_false]
    rw [show IntKind.u32.bits = 32 from rfl, u32_bv, u32_bv, show ((m.toBitVec ||| n.toBitVec).toNat) = (m ||| n).toNat from rfl, u32_id]; rfl
theorem u32_not (m : UInt32) : BitVec.ofInt 32 IntKind.u32.max ^^^ m.toBitVec = (~~~ m).toBitVec := by
  rw [show BitVec.ofInt 32 IntKind.u32.max = BitVec.allOnes 32 from rfl]
  rw [BitVec.allOnes_xor]; rfl
theorem v_notU {x : Operand} {t : TypeId} {m : UInt32} (hx : Γ.op x = some (.ex (U m))) : ValAt P N Γ w ⟨d, .unOp .xor t x, ty, pos, af, gd⟩ (U (~~~ m)) := fun a ha => by
  have h1 := ha.val (x := x) (by simp [Op.operands]) hx
  simp only [execOp, h1, Op.unary, Op.intBits]
  rw [show IntKind.u32.bits = 32 from rfl, u32_bv, show (if IntKind.u32.signed = true then (-1 : Int) else IntKind.u32.max) = IntKind.u32.max from rfl, u32_not, show ((~~~ m).toBitVec.toNat) = (~~~ m).toNat from rfl, u32_id]; rfl
theorem u32_shr (m : UInt32) (n : Nat) (hn : n < 32) : (m.toNat : Int).fdiv (2 ^ n) = ((m >>> UInt32.ofNat n).toNat : Int) := by
  rw [UInt32.toNat_shiftRight, UInt32.toNat_ofNat', Nat.shiftRight_eq_div_pow]
  rw [show n % 2 ^ 32 % 32 = n from by omega]
  rw [Int.fdiv_eq_ediv_of_nonneg _ (by exact Int.le_of_lt (Int.pow_pos (by decide)))]
  rw [Int.natCast_ediv, Int.natCast_pow]; rfl
theorem u32_shl (m : UInt32) (n : Nat) (hn : n < 32) : IntKind.u32.wrap ((m.toNat : Int) * 2 ^ n) = ((m <<< UInt32.ofNat n).toNat : Int) := by
  rw [UInt32.toNat_shiftLeft, UInt32.toNat_ofNat', Nat.shiftLeft_eq]
  rw [show n % 2 ^ 32 % 32 = n from by omega, IntKind.wrap_u32]
  rw [show (m.toNat : Int) * 2 ^ n = ((m.toNat * 2 ^ n : Nat) : Int) from by simp [Int.natCast_mul, Int.natCast_pow]]
  omega
theorem v_shrU {k : IntKind} {x y : Operand} {t t' : TypeId} {m : UInt32} {n : Nat} (hx : Γ.op x = some (.ex (U m))) (hy : Γ.op y = some (.ex (.int k (n : Int)))) (hn : n < 32) : ValAt P N Γ w ⟨d, .binOp .shr t x y t', ty, pos, af, gd⟩ (U (m >>> UInt32.ofNat n)) :=
  v_bin hx hy fun w => by
    have h0 : ¬ ((n : Int) < 0) := by omega
    simp only [binOp, Op.shift, h0, if_false]
    rw [show min (n : Int).toNat IntKind.u32.bits = n from by rw [Int.toNat_natCast]; exact Nat.min_eq_left (by show n ≤ 32; omega), u32_shr m n hn]; rfl
theorem v_shlU {k : IntKind} {x y : Operand} {t t' : TypeId} {m : UInt32} {n : Nat} (hx : Γ.op x = some (.ex (U m))) (hy : Γ.op y = some (.ex (.int k (n : Int)))) (hn : n < 32) : ValAt P N Γ w ⟨d, .binOp .shl t x y t', ty, pos, af, gd⟩ (U (m <<< UInt32.ofNat n)) :=
  v_bin hx hy fun w => by
    have h0 : ¬ ((n : Int) < 0) := by omega
    simp only [binOp, Op.shift, h0, if_false]
    rw [show min (n : Int).toNat IntKind.u32.bits = n from by rw [Int.toNat_natCast]; exact Nat.min_eq_left (by show n ≤ 32; omega), u32_shl m n hn]; rfl
/-! ## uint64 -/
theorem v_addL {x y : Operand} {t t' : TypeId} {m n : Nat} (hx : Γ.op x = some (.ex (L m))) (hy : Γ.op y = some (.ex (L n))) (hb : m + n < 18446744073709551616) : ValAt P N Γ w ⟨d, .binOp .add t x y t', ty, pos, af, gd⟩ (L (m + n)) :=
  v_bin hx hy fun w => by
    simp only [binOp, Op.intArith, ne_eq, not_true_eq_false, if_false]
    rw [show ((m : Int) + (n : Int)) = ((m + n : Nat) : Int) from by omega, wrapu64_ok (by omega) (by omega)]; rfl
theorem v_subL {x y : Operand} {t t' : TypeId} {m n : Nat} (hx : Γ.op x = some (.ex (L m))) (hy : Γ.op y = some (.ex (L n))) (hb : n ≤ m) (hm : m < 18446744073709551616) : ValAt P N Γ w ⟨d, .binOp .sub t x y t', ty, pos, af, gd⟩ (L (m - n)) :=
  v_bin hx hy fun w => by
    simp only [binOp, Op.intArith, ne_eq, not_true_eq_false, if_false]
    rw [show ((m : Int) - (n : Int)) = ((m - n : Nat) : Int) from by omega, wrapu64_ok (by omega) (by omega)]; rfl
theorem v_mulL {x y : Operand} {t t' : TypeId} {m n : Nat} (hx : Γ.op x = some (.ex (L m))) (hy : Γ.op y = some (.ex (L n))) (hb : m * n < 18446744073709551616) : ValAt P N Γ w ⟨d, .binOp .mul t x y t', ty, pos, af, gd⟩ (L (m * n)) :=
  v_bin hx hy fun w => by
    simp only [binOp, Op.intArith, ne_eq, not_true_eq_false, if_false]
    rw [← Int.natCast_mul, wrapu64_ok (by omega) (by omega)]; rfl
theorem v_remL {x y : Operand} {t t' : TypeId} {m n : Nat} (hx : Γ.op x = some (.ex (L m))) (hy : Γ.op y = some (.ex (L n))) (hn : 0 < n) : ValAt P N Γ w ⟨d, .binOp .rem t x y t', ty, pos, af, gd⟩ (L (m % n)) :=
  v_bin hx hy fun w => by
    have h0 : ¬ ((n : Int) = 0) := by omega
    simp only [binOp, Op.intDiv, ne_eq, not_true_eq_false, if_false, h0]
    rw [show ((m : Int).tmod (n : Int)) = ((m % n : Nat) : Int) from (Int.ofNat_tmod m n).symm]; rfl
theorem v_shlL {k : IntKind} {x y : Operand} {t t' : TypeId} {m n : Nat} (hx : Γ.op x = some (.ex (L m))) (hy : Γ.op y = some (.ex (.int k (n : Int)))) (hn : n < 64) (hb : m * 2 ^ n < 18446744073709551616) : ValAt P N Γ w ⟨d, .binOp .shl t x y t', ty, pos, af, gd⟩ (L (m * 2 ^ n)) :=
  v_bin hx hy fun w => by
    have h0 : ¬ ((n : Int) < 0) := by omega
    simp only [binOp, Op.shift, h0, if_false]
    rw [show min (n : Int).toNat IntKind.u64.bits = n from by rw [Int.toNat_natCast]; exact Nat.min_eq_left (by show n ≤ 64; omega)]
    rw [show (m : Int) * 2 ^ n = ((m * 2 ^ n : Nat) : Int) from by simp [Int.natCast_mul, Int.natCast_pow], wrapu64_ok (by omega) (by omega)]; rfl
theorem v_shrL {k k1 : IntKind} {x y : Operand} {t t' : TypeId} {m n : Nat} (hx : Γ.op x = some (.ex (.int k1 (m : Int)))) (hy : Γ.op y = some (.ex (.int k (n : Int)))) (hn : n ≤ k1.bits) : ValAt P N Γ w ⟨d, .binOp .shr t x y t', ty, pos, af, gd⟩ (.int k1 ((m / 2 ^ n : Nat) : Int)) :=
  v_bin hx hy fun w => by
    have h0 : ¬ ((n : Int) < 0) := by omega
    simp only [binOp, Op.shift, h0, if_false]
    rw [show min (n : Int).toNat k1.bits = n from by rw [Int.toNat_natCast]; exact Nat.min_eq_left hn]
    rw [Int.fdiv_eq_ediv_of_nonneg _ (by exact Int.le_of_lt (Int.pow_pos (by decide))), Int.natCast_ediv, Int.natCast_pow]; rfl
/-! ## Conversions -/
theorem kindOf_some {t : TypeId} {k : IntKind} (h : kindOf P t = some k) : P.underlying t = some (.int k) := by
  unfold kindOf at h
  cases hu : P.underlying t with
  | none => rw [hu] at h; cases h
  | some u => rw [hu] at h; cases u <;> simp at h; rw [h]
theorem v_conv {x : Operand} {s t : TypeId} {k k1 k2 : IntKind} {n : Int} {v : Value} (hx : Γ.op x = some (.ex (.int k n))) (hs : kindOf P s = some k1) (ht : kindOf P t = some k2) (hv : .int k2 (k2.wrap n) = v) : ValAt P N Γ w ⟨d, .convert s t x, ty, pos, af, gd⟩ v := fun a ha => by
  have h1 := ha.val (x := x) (by simp [Op.operands]) hx
  subst hv
  simp [execOp, h1, convert, underlying, kindOf_some hs, kindOf_some ht, Conv.intToInt]
theorem v_convIB {x : Operand} {s t : TypeId} {k : IntKind} {n : Nat} {k1 : IntKind} (hx : Γ.op x = some (.ex (.int k (n : Int)))) (hs : kindOf P s = some k1) (ht : kindOf P t = some .u8) : ValAt P N Γ w ⟨d, .convert s t x, ty, pos, af, gd⟩ (B (UInt8.ofNat n)) :=
  v_conv hx hs ht (by rw [u8_of])
theorem v_convUB {x : Operand} {s t : TypeId} {n : UInt32} {k1 : IntKind} (hx : Γ.op x = some (.ex (U n))) (hs : kindOf P s = some k1) (ht : kindOf P t = some .u8) : ValAt P N Γ w ⟨d, .convert s t x, ty, pos, af, gd⟩ (B n.toUInt8) :=
  v_conv hx hs ht (by rw [u8_of]; rfl)
theorem v_convBU {x : Operand} {s t : TypeId} {n : UInt8} {k1 : IntKind} (hx : Γ.op x = some (.ex (B n))) (hs : kindOf P s = some k1) (ht : kindOf P t = some .u32) : ValAt P N Γ w ⟨d, .convert s t x, ty, pos, af, gd⟩ (U n.toUInt32) :=
  v_conv hx hs ht (by rw [IntKind.wrap_u32]; have := n.toNat_lt; congr 1; rw [UInt8.toNat_toUInt32]; omega)
theorem v_convIL {x : Operand} {s t : TypeId} {n : Nat} {k1 : IntKind} (hx : Γ.op x = some (.ex (I n))) (hs : kindOf P s = some k1) (ht : kindOf P t = some .u64) (hn : n < 18446744073709551616) : ValAt P N Γ w ⟨d, .convert s t x, ty, pos, af, gd⟩ (L n) :=
  v_conv hx hs ht (by rw [wrapu64_ok (by omega) (by omega)])
end
end Go.Proofs.YtnaefgnjdmmmcaaGreatDoor
