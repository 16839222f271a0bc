import JvmDerived
import JvmDerived.Pilot.@@N@@Statement
import JvmDerived.Pilot.@@N@@Code
set_option linter.unusedVariables false
set_option linter.unusedSimpArgs false
@@BLOCK:NumsL.lean.txt@@
namespace Jvm.RoadKit
open Sem ClassFile Op Lib Jvm.Stand Jvm.Free Jvm.LawKit
section New
variable {p : Program} {l : Launch} {e : Env} {R : Room} {s : State} {m : MethodId} {args : Array Value} {below : List Frame} {meth : Method} {c : Code} {T : State} {locs : List Loc} {cells slots : Nat}
theorem retI (X : Stand p l e R s m args below meth c T locs cells slots) (hx : p.tables.exec = Jvm.exec) {pc : Nat} {Ls : Array Slot} {z : Int32} {rest : List Value} (hret : meth.sig.returnType = some .int) (hd : decode c.code pc = .ok (.ireturn, 1)) {fs : List Frame}
    (hl : ∀ (f : JFrame) (acts : List Action), f.method = m → f.locked = none → f.entered = [] → (doReturn e (T.setTop f) acts (some (.int z))).1 = T.setFrames fs) : Steps p.tables e below (T.setTop (mkF m pc Ls (.int z :: rest))) (T.setFrames fs) := by
  have hm' : T.vm.method? m = some meth := X.method'
  have hn : narrow .int (.int z) = .int z := rfl
  show Steps p.tables e below (T.setTop { method := m, pc := pc, locals := Ls, stack := _ :: rest, locked := none }) _
  jvm_step X.here [X.here.top, hx, hd, hm', hret, hn]
  first | (intro acts; rw [hl _ acts rfl rfl rfl]) | rw [hl _ _ rfl rfl rfl]
  exact Steps.refl _
end New
end Jvm.RoadKit
namespace Jvm.Pilot.@@N@@
open Jvm Jvm.ClassFile Sem Op Lib Jvm.Free Jvm.Stand Jvm.LawKit Jvm.RoadKit Bundle Jvm.Pilot.@@N@@.Jvm.D
/-! the numbers -/
def own_max (a b : Int32) : Int32 := if a < b then b else a
/-- numberOfLeadingZeros, of 65536 to 524287 -/
def own_nlz (x : Int32) : Int32 := if ((x.toUInt32 >>> ((16 : Int32) &&& 31).toUInt32).toInt32) < (4 : Int32) then (((31 : Int32) + (-16 : Int32)) - ((((x.toUInt32 >>> ((16 : Int32) &&& 31).toUInt32).toInt32).toUInt32 >>> ((1 : Int32) &&& 31).toUInt32).toInt32))
  else ((((31 : Int32) + (-16 : Int32)) + (-2 : Int32)) - ((((((x.toUInt32 >>> ((16 : Int32) &&& 31).toUInt32).toInt32).toUInt32 >>> ((2 : Int32) &&& 31).toUInt32).toInt32).toUInt32 >>> ((1 : Int32) &&& 31).toUInt32).toInt32))
def own_hob (x : Int32) : Int32 := x &&& (((-2147483648 : Int32).toUInt32 >>> (own_nlz x &&& 31).toUInt32).toInt32)
/-- the filter's size -/
def own_sz (c : Int32) : Int32 := own_hob (own_max (c * (64 : Int32)) (65536 : Int32))
/-- the law's own reckoning of it -/
def own_size (n : Int32) : Int32 := if n < (131072 : Int32) then (65536 : Int32) else if n < (262144 : Int32) then (131072 : Int32) else (262144 : Int32)
def own_hb (h1 sel h2 : Int32) : Int32 := if (((sel.toUInt32 >>> ((7 : Int32) &&& 31).toUInt32).toInt32) &&& (1 : Int32)) = (0 : Int32) then h2 else h1 ^^^ ((1 : Int32) <<< ((((sel.toUInt32 >>> ((8 : Int32) &&& 31).toUInt32).toInt32) &&& (31 : Int32)) &&& 31))
def own_qq (h1 sel hb q mode : Int32) : Int32 := if mode = (1 : Int32) then h1 ^^^ ((1 : Int32) <<< ((((sel.toUInt32 >>> ((2 : Int32) &&& 31).toUInt32).toInt32) &&& (31 : Int32)) &&& 31)) else if mode = (2 : Int32) then hb else if mode = (3 : Int32) then h1 else q
def own_ex (h1 m hb q : Int32) : Int32 := if (q &&& m) = (h1 &&& m) then (1 : Int32) else if (q &&& m) = (hb &&& m) then (1 : Int32) else (0 : Int32)
theorem own_cc (p : Int32) : 0 ≤ (p &&& (8191 : Int32)).toInt ∧ (p &&& (8191 : Int32)).toInt ≤ 8191 := c_and p 8191 (by decide)
theorem own_hi (x : Int32) (h : 0 ≤ x.toInt) : ((x.toUInt32 >>> ((16 : Int32) &&& 31).toUInt32).toInt32).toInt = x.toInt / 65536 := by
  have h1 := c_iushr x 16 16 (by decide) (by decide)
  have h2 := x.toInt_lt
  rw [h1, show ((2 ^ 16 : Nat) : Int) = 65536 from rfl, Int.emod_eq_of_lt h (by omega)]
section Known
variable {x : Int32}
theorem own_k1 (hp : 65536 ≤ x.toInt ∧ x.toInt ≤ 524287) : (0 : Int32) < x := by rw [Int32.lt_iff_toInt_lt, show (0 : Int32).toInt = 0 from rfl]; omega
theorem own_k2 (hp : 65536 ≤ x.toInt ∧ x.toInt ≤ 524287) : ¬ (x < (65536 : Int32)) := by rw [Int32.lt_iff_toInt_lt, show (65536 : Int32).toInt = 65536 from rfl]; omega
theorem own_k3 (hp : 65536 ≤ x.toInt ∧ x.toInt ≤ 524287) : ((x.toUInt32 >>> ((16 : Int32) &&& 31).toUInt32).toInt32) < (256 : Int32) := by rw [Int32.lt_iff_toInt_lt, own_hi x (by omega), show (256 : Int32).toInt = 256 from rfl]; omega
theorem own_k4 (hp : 65536 ≤ x.toInt ∧ x.toInt ≤ 524287) : ((x.toUInt32 >>> ((16 : Int32) &&& 31).toUInt32).toInt32) < (16 : Int32) := by rw [Int32.lt_iff_toInt_lt, own_hi x (by omega), show (16 : Int32).toInt = 16 from rfl]; omega
end Known
/-- the highest bit of 65536 to 524287 -/
theorem own_bit_of (x : Int32) (k : Nat) (m : Int32) (hx : 0 ≤ x.toInt) (hm : m.toBitVec.toNat = 2 ^ k) (h : x.toInt / (2 ^ k : Nat) = 1) : x &&& m = m := by
  have hx' : (x.toBitVec.toNat : Int) = x.toInt := by
    have h1 := x.toBitVec.isLt
    have q : x.toBitVec.toInt = x.toInt := rfl
    rw [BitVec.toInt_eq_toNat_cond] at q
    split at q <;> omega
  apply Int32.toBitVec_inj.mp
  show x.toBitVec &&& m.toBitVec = m.toBitVec
  have h2 : x.toBitVec.toNat / 2 ^ k = 1 := by
    rw [← hx', ← Int.natCast_ediv] at h
    exact Int.ofNat.inj h
  apply BitVec.eq_of_toNat_eq
  rw [BitVec.toNat_and, hm]
  apply Nat.eq_of_testBit_eq
  intro i
  rw [Nat.testBit_and, Nat.testBit_two_pow]
  by_cases e : k = i
  · subst e
    rw [Nat.testBit_eq_decide_div_mod_eq, h2]
    simp
  · simp [e]
theorem own_hob_eq (x : Int32) (hp : 65536 ≤ x.toInt ∧ x.toInt ≤ 524287) : own_hob x = own_size x := by
  have hh := own_hi x (by omega)
  have hk : x.toInt / 65536 = 1 ∨ x.toInt / 65536 = 2 ∨ x.toInt / 65536 = 3 ∨ x.toInt / 65536 = 4 ∨ x.toInt / 65536 = 5 ∨ x.toInt / 65536 = 6 ∨ x.toInt / 65536 = 7 := by omega
  unfold own_hob own_nlz own_size
  simp only [Int32.lt_iff_toInt_lt (x := x), show (131072 : Int32).toInt = 131072 from rfl, show (262144 : Int32).toInt = 262144 from rfl]
  rcases hk with h | h | h | h | h | h | h <;> rw [h] at hh
  · rw [Int32.toInt_inj.mp (hh.trans (show (1 : Int) = (1 : Int32).toInt from rfl)), if_pos (show x.toInt < 131072 by omega)]
    exact own_bit_of x 16 _ (by omega) (by decide) (by show x.toInt / 65536 = 1; omega)
  · rw [Int32.toInt_inj.mp (hh.trans (show (2 : Int) = (2 : Int32).toInt from rfl)), if_neg (show ¬ x.toInt < 131072 by omega), if_pos (show x.toInt < 262144 by omega)]
    exact own_bit_of x 17 _ (by omega) (by decide) (by show x.toInt / 131072 = 1; omega)
  · rw [Int32.toInt_inj.mp (hh.trans (show (3 : Int) = (3 : Int32).toInt from rfl)), if_neg (show ¬ x.toInt < 131072 by omega), if_pos (show x.toInt < 262144 by omega)]
    exact own_bit_of x 17 _ (by omega) (by decide) (by show x.toInt / 131072 = 1; omega)
  · rw [Int32.toInt_inj.mp (hh.trans (show (4 : Int) = (4 : Int32).toInt from rfl)), if_neg (show ¬ x.toInt < 131072 by omega), if_neg (show ¬ x.toInt < 262144 by omega)]
    exact own_bit_of x 18 _ (by omega) (by decide) (by show x.toInt / 262144 = 1; omega)
  · rw [Int32.toInt_inj.mp (hh.trans (show (5 : Int) = (5 : Int32).toInt from rfl)), if_neg (show ¬ x.toInt < 131072 by omega), if_neg (show ¬ x.toInt < 262144 by omega)]
    exact own_bit_of x 18 _ (by omega) (by decide) (by show x.toInt / 262144 = 1; omega)
  · rw [Int32.toInt_inj.mp (hh.trans (show (6 : Int) = (6 : Int32).toInt from rfl)), if_neg (show ¬ x.toInt < 131072 by omega), if_neg (show ¬ x.toInt < 262144 by omega)]
    exact own_bit_of x 18 _ (by omega) (by decide) (by show x.toInt / 262144 = 1; omega)
  · rw [Int32.toInt_inj.mp (hh.trans (show (7 : Int) = (7 : Int32).toInt from rfl)), if_neg (show ¬ x.toInt < 131072 by omega), if_neg (show ¬ x.toInt < 262144 by omega)]
    exact own_bit_of x 18 _ (by omega) (by decide) (by show x.toInt / 262144 = 1; omega)
theorem own_c64 {c : Int32} (h : 0 ≤ c.toInt ∧ c.toInt ≤ 8191) : (c * (64 : Int32)).toInt = c.toInt * 64 := by
  have := Jvm.Kit.i32_mul (p := c) (q := (64 : Int32)) (by rw [show (64 : Int32).toInt = 64 from rfl]; omega) (by rw [show (64 : Int32).toInt = 64 from rfl]; omega)
  rw [show (64 : Int32).toInt = 64 from rfl] at this
  exact this
theorem own_max_eq {c : Int32} (h : 0 ≤ c.toInt ∧ c.toInt ≤ 8191) : (own_max (c * (64 : Int32)) (65536 : Int32)).toInt = if c.toInt * 64 < 65536 then 65536 else c.toInt * 64 := by
  unfold own_max
  simp only [Int32.lt_iff_toInt_lt, own_c64 h, show (65536 : Int32).toInt = 65536 from rfl]
  split
  · rfl
  · exact own_c64 h
theorem own_max_in {c : Int32} (h : 0 ≤ c.toInt ∧ c.toInt ≤ 8191) : 65536 ≤ (own_max (c * (64 : Int32)) (65536 : Int32)).toInt ∧ (own_max (c * (64 : Int32)) (65536 : Int32)).toInt ≤ 524287 := by
  rw [own_max_eq h]
  split <;> omega
/-- the law's size is the filter's -/
theorem own_mask {c : Int32} (h : 0 ≤ c.toInt ∧ c.toInt ≤ 8191) : own_size (c * (64 : Int32)) = own_sz c := by
  unfold own_sz
  rw [own_hob_eq _ (own_max_in h)]
  unfold own_size
  simp only [Int32.lt_iff_toInt_lt, own_max_eq h, own_c64 h, show (131072 : Int32).toInt = 131072 from rfl, show (262144 : Int32).toInt = 262144 from rfl]
  by_cases h1 : c.toInt * 64 < 65536
  · rw [if_pos h1, if_pos (by omega), if_pos (by omega)]
  · rw [if_neg h1]
theorem own_sz3 {c : Int32} (h : 0 ≤ c.toInt ∧ c.toInt ≤ 8191) : own_sz c = 65536 ∨ own_sz c = 131072 ∨ own_sz c = 262144 := by
  rw [← own_mask h]
  unfold own_size
  split
  · exact Or.inl rfl
  · split
    · exact Or.inr (Or.inl rfl)
    · exact Or.inr (Or.inr rfl)
theorem own_len {c : Int32} (h : 0 ≤ c.toInt ∧ c.toInt ≤ 8191) : ¬ (own_sz c / (64 : Int32)) < 0 ∧ (own_sz c / (64 : Int32)).toNatClampNeg ≤ 4096 := by
  rcases own_sz3 h with e | e | e <;> rw [e] <;> decide
theorem own_nn {x : Int32} (h : 0 ≤ x.toInt) : ¬ x < 0 := by rw [Int32.lt_iff_toInt_lt]; exact Int.not_lt.mpr h
theorem own_M {c : Int32} (h : 0 ≤ c.toInt ∧ c.toInt ≤ 8191) (x : Int32) : 0 ≤ (x &&& (own_sz c - (1 : Int32))).toInt ∧ (x &&& (own_sz c - (1 : Int32))).toInt ≤ (own_sz c - (1 : Int32)).toInt :=
  c_and x _ (by rcases own_sz3 h with e | e | e <;> rw [e] <;> decide)
theorem own_q (i : Int32) (h : 0 ≤ i.toInt) : (i / (64 : Int32)).toInt = i.toInt / 64 := (c_idiv i 64 64 rfl (by decide)).1 h
theorem own_pl {c : Int32} (h : 0 ≤ c.toInt ∧ c.toInt ≤ 8191) (x : Int32) : ¬ ((x &&& (own_sz c - (1 : Int32))) / (64 : Int32)) < 0 ∧ ((x &&& (own_sz c - (1 : Int32))) / (64 : Int32)) < (own_sz c / (64 : Int32)) := by
  have h1 := own_M h x
  have h2 := own_q _ h1.1
  refine ⟨own_nn (by omega), ?_⟩
  rw [Int32.lt_iff_toInt_lt, h2]
  rcases own_sz3 h with e | e | e <;> rw [e] at h1 ⊢
  · rw [show ((65536 : Int32) - 1).toInt = 65535 from rfl] at h1
    rw [show ((65536 : Int32) / 64).toInt = 1024 from rfl]; omega
  · rw [show ((131072 : Int32) - 1).toInt = 131071 from rfl] at h1
    rw [show ((131072 : Int32) / 64).toInt = 2048 from rfl]; omega
  · rw [show ((262144 : Int32) - 1).toInt = 262143 from rfl] at h1
    rw [show ((262144 : Int32) / 64).toInt = 4096 from rfl]; omega
/-! the bits -/
def own_bit (i : Int32) : Int64 := (1 : Int64) <<< (i &&& 0x3f).toInt64
/-- what mayHold returns, of the word w and the index i -/
def own_hit (w : Int64) (i : Int32) : Int32 := if lcmpW (w &&& ((1 : Int64) <<< (i &&& 0x3f).toInt64)) (0 : Int64) = (0 : Int32) then (0 : Int32) else (1 : Int32)
def own_k (i : Int32) : Nat := i.toBitVec.toNat % 64
theorem own_k_lt (i : Int32) : own_k i < 64 := Nat.mod_lt _ (by decide)
def own_has (w : Int64) (i : Int32) : Bool := w.toBitVec.getLsbD (own_k i)
theorem own_bit_bv (i : Int32) : (own_bit i).toBitVec = 1#64 <<< own_k i := by
  show (1 : Int64).toBitVec <<< ((i &&& 0x3f).toInt64.toBitVec.smod 64) = _
  rw [BitVec.shiftLeft_eq', (sm64 i (own_k i) rfl).1, smod64 _ (own_k_lt i)]
  rfl
theorem own_bit_get (i : Int32) (m : Nat) (hm : m < 64) : (own_bit i).toBitVec.getLsbD m = decide (m = own_k i) := by
  rw [own_bit_bv, BitVec.getLsbD_shiftLeft, BitVec.getLsbD_one]
  have := own_k_lt i
  rw [Bool.eq_iff_iff]
  simp only [Bool.and_eq_true, decide_eq_true_eq, Bool.not_eq_true', decide_eq_false_iff_not]
  omega
theorem own_hit_eq (w : Int64) (i : Int32) : own_hit w i = if own_has w i = true then 1 else 0 := by
  unfold own_hit
  have e : (lcmpW (w &&& ((1 : Int64) <<< (i &&& 0x3f).toInt64)) (0 : Int64) = (0 : Int32)) ↔ own_has w i = false := by
    rw [lw_eq]
    show w &&& own_bit i = 0 ↔ _
    constructor
    · intro h
      have h1 : (w &&& own_bit i).toBitVec.getLsbD (own_k i) = false := by rw [h]; exact BitVec.getLsbD_zero
      change (w.toBitVec &&& (own_bit i).toBitVec).getLsbD (own_k i) = false at h1
      rw [BitVec.getLsbD_and, own_bit_get i _ (own_k_lt i)] at h1
      simpa [own_has] using h1
    · intro h
      apply Int64.toBitVec_inj.mp
      apply BitVec.eq_of_getLsbD_eq
      intro m hm
      show (w.toBitVec &&& (own_bit i).toBitVec).getLsbD m = (0 : Int64).toBitVec.getLsbD m
      rw [BitVec.getLsbD_and, own_bit_get i m hm, show (0 : Int64).toBitVec = 0#64 from rfl, BitVec.getLsbD_zero]
      by_cases e : m = own_k i
      · rw [e]; unfold own_has at h; rw [h]; rfl
      · simp [e]
  by_cases h : own_has w i = true
  · rw [if_pos h, if_neg (fun q => by rw [e.mp q] at h; cases h)]
  · rw [if_neg h, if_pos (e.mpr (by simpa using h))]
theorem own_has_or (w : Int64) (i j : Int32) : own_has (w ||| own_bit j) i = (own_has w i || decide (own_k i = own_k j)) := by
  show (w.toBitVec ||| (own_bit j).toBitVec).getLsbD (own_k i) = _
  rw [BitVec.getLsbD_or, own_bit_get j _ (own_k_lt i)]
  rfl
theorem own_has_zero (i : Int32) : own_has 0 i = false := by
  show (0 : Int64).toBitVec.getLsbD (own_k i) = false
  rw [show (0 : Int64).toBitVec = 0#64 from rfl, BitVec.getLsbD_zero]
theorem own_hit0 (i : Int32) : own_hit (0 : Int64) i = (0 : Int32) := by rw [own_hit_eq, own_has_zero]; rfl
theorem own_split {i j : Int32} (hi : 0 ≤ i.toInt) (hj : 0 ≤ j.toInt) : i = j ↔ (i / (64 : Int32) = j / (64 : Int32) ∧ own_k i = own_k j) := by
  have nat : ∀ x : Int32, 0 ≤ x.toInt → (x.toBitVec.toNat : Int) = x.toInt := fun x hx => by
    have h1 := x.toBitVec.isLt
    have q : x.toBitVec.toInt = x.toInt := rfl
    rw [BitVec.toInt_eq_toNat_cond] at q
    split at q <;> omega
  rw [← Int32.toInt_inj, ← Int32.toInt_inj, own_q i hi, own_q j hj]
  have h1 := nat i hi
  have h2 := nat j hj
  unfold own_k
  omega
/-- the words behind the two calls of add: one added, two added -/
def own_v1 (i j : Int32) : Int64 := if j = i / (64 : Int32) then (0 : Int64) ||| own_bit i else (0 : Int64)
def own_v2 (i i2 j : Int32) : Int64 := if j = i2 / (64 : Int32) then own_v1 i (i2 / (64 : Int32)) ||| own_bit i2 else own_v1 i j
theorem own_has1 {i q : Int32} (hi : 0 ≤ i.toInt) (hq : 0 ≤ q.toInt) : own_has (own_v1 i (q / (64 : Int32))) q = decide (q = i) := by
  unfold own_v1
  rw [Bool.eq_iff_iff, decide_eq_true_eq, own_split hq hi]
  by_cases e : q / (64 : Int32) = i / (64 : Int32)
  · rw [if_pos e, own_has_or, own_has_zero]; simp [e]
  · rw [if_neg e, own_has_zero]; simp [e]
theorem own_has2 {i i2 q : Int32} (hi : 0 ≤ i.toInt) (hi2 : 0 ≤ i2.toInt) (hq : 0 ≤ q.toInt) : own_has (own_v2 i i2 (q / (64 : Int32))) q = (decide (q = i) || decide (q = i2)) := by
  unfold own_v2
  by_cases e : q / (64 : Int32) = i2 / (64 : Int32)
  · rw [if_pos e, ← e, own_has_or, own_has1 hi hq]
    have : decide (own_k q = own_k i2) = decide (q = i2) := by
      rw [Bool.eq_iff_iff, decide_eq_true_eq, decide_eq_true_eq, own_split hq hi2]; simp [e]
    rw [this]
  · rw [if_neg e, own_has1 hi hq]
    have : decide (q = i2) = false := by
      rw [decide_eq_false_iff_not, own_split hq hi2]; exact fun z => e z.1
    rw [this]; simp
/-- THE PLAIN LAW -/
theorem own_expect {c : Int32} (h : 0 ≤ c.toInt ∧ c.toInt ≤ 8191) (a b q : Int32) : own_hit (own_v2 (a &&& (own_sz c - (1 : Int32))) (b &&& (own_sz c - (1 : Int32))) ((q &&& (own_sz c - (1 : Int32))) / (64 : Int32))) (q &&& (own_sz c - (1 : Int32))) = own_ex a (own_sz c - (1 : Int32)) b q := by
  rw [own_hit_eq, own_has2 (own_M h a).1 (own_M h b).1 (own_M h q).1]
  unfold own_ex
  by_cases h1 : (q &&& (own_sz c - (1 : Int32))) = (a &&& (own_sz c - (1 : Int32)))
  · simp [h1]
  · by_cases h2 : (q &&& (own_sz c - (1 : Int32))) = (b &&& (own_sz c - (1 : Int32)))
    · simp [h1, h2]
    · simp [h1, h2]
theorem own_held1 {c : Int32} (h : 0 ≤ c.toInt ∧ c.toInt ≤ 8191) {a b : Int32} : own_hit (own_v2 (a &&& (own_sz c - (1 : Int32))) (b &&& (own_sz c - (1 : Int32))) ((a &&& (own_sz c - (1 : Int32))) / (64 : Int32))) (a &&& (own_sz c - (1 : Int32))) = 1 := by
  rw [own_expect h]; exact if_pos rfl
theorem own_held2 {c : Int32} (h : 0 ≤ c.toInt ∧ c.toInt ≤ 8191) {a b : Int32} : own_hit (own_v2 (a &&& (own_sz c - (1 : Int32))) (b &&& (own_sz c - (1 : Int32))) ((b &&& (own_sz c - (1 : Int32))) / (64 : Int32))) (b &&& (own_sz c - (1 : Int32))) = 1 := by
  rw [own_expect h]
  unfold own_ex
  by_cases h1 : (b &&& (own_sz c - (1 : Int32))) = (a &&& (own_sz c - (1 : Int32)))
  · rw [if_pos h1]
  · rw [if_neg h1, if_pos rfl]
/-! the array's cell -/
theorem own_inb {n j : Int32} (q : ¬ j < 0 ∧ j < n) : ¬ (j < 0 ∨ n.toNatClampNeg ≤ j.toNatClampNeg) := by
  have := inb_of (c := newA 0 .long n) (sz_new 0 .long n) q
  rwa [sz_new] at this
theorem own_S1 (k : ClassId) (n : Int32) (j : Nat) (v : Value) : ((newA k .long n).setSlot j v).slots.size = n.toNatClampNeg := by rw [sz_set, sz_new]
theorem own_S2 (k : ClassId) (n : Int32) (j : Nat) (v : Value) (j2 : Nat) (v2 : Value) : (((newA k .long n).setSlot j v).setSlot j2 v2).slots.size = n.toNatClampNeg := by rw [sz_set, sz_set, sz_new]
theorem own_at1 {c : Int32} (h : 0 ≤ c.toInt ∧ c.toInt ≤ 8191) {k : ClassId} (a x : Int32) :
    ((newA k .long (own_sz c / (64 : Int32))).setSlot ((a &&& (own_sz c - (1 : Int32))) / (64 : Int32)).toNatClampNeg (.long ((0 : Int64) ||| own_bit (a &&& (own_sz c - (1 : Int32)))))).slots[((x &&& (own_sz c - (1 : Int32))) / (64 : Int32)).toNatClampNeg]? = some (.long (own_v1 (a &&& (own_sz c - (1 : Int32))) ((x &&& (own_sz c - (1 : Int32))) / (64 : Int32)))) := by
  unfold own_v1
  by_cases e : ((x &&& (own_sz c - (1 : Int32))) / (64 : Int32)) = ((a &&& (own_sz c - (1 : Int32))) / (64 : Int32))
  · rw [get_hit (inb_of (sz_new _ _ _) (own_pl h a)) e, if_pos e]
  · rw [get_miss (own_pl h a).1 (own_pl h x).1 e, if_neg e, get_new (own_inb (own_pl h x))]
    rfl
theorem own_at2 {c : Int32} (h : 0 ≤ c.toInt ∧ c.toInt ≤ 8191) {k : ClassId} (a b x : Int32) :
    (((newA k .long (own_sz c / (64 : Int32))).setSlot ((a &&& (own_sz c - (1 : Int32))) / (64 : Int32)).toNatClampNeg (.long ((0 : Int64) ||| own_bit (a &&& (own_sz c - (1 : Int32)))))).setSlot ((b &&& (own_sz c - (1 : Int32))) / (64 : Int32)).toNatClampNeg (.long (own_v1 (a &&& (own_sz c - (1 : Int32))) ((b &&& (own_sz c - (1 : Int32))) / (64 : Int32)) ||| own_bit (b &&& (own_sz c - (1 : Int32)))))).slots[((x &&& (own_sz c - (1 : Int32))) / (64 : Int32)).toNatClampNeg]? = some (.long (own_v2 (a &&& (own_sz c - (1 : Int32))) (b &&& (own_sz c - (1 : Int32))) ((x &&& (own_sz c - (1 : Int32))) / (64 : Int32)))) := by
  unfold own_v2
  by_cases e : ((x &&& (own_sz c - (1 : Int32))) / (64 : Int32)) = ((b &&& (own_sz c - (1 : Int32))) / (64 : Int32))
  · rw [get_hit (inb_of (own_S1 _ _ _ _) (own_pl h b)) e, if_pos e]
  · rw [get_miss (own_pl h b).1 (own_pl h x).1 e, if_neg e]
    exact own_at1 h a x
theorem d3_0 : decode jdk_29_method_65_code 0 = .ok (.iload_n 0, 1) := by decide +kernel
theorem d3_1 : decode jdk_29_method_65_code 1 = .ok (.iload_n 1, 1) := by decide +kernel
theorem d3_2 : decode jdk_29_method_65_code 2 = .ok (.if_icmp .lt 7, 3) := by decide +kernel
theorem d3_9 : decode jdk_29_method_65_code 9 = .ok (.iload_n 1, 1) := by decide +kernel
theorem d3_10 : decode jdk_29_method_65_code 10 = .ok (.ireturn, 1) := by decide +kernel
theorem ef_3 (m : MethodId) (x0 : Int32) (x1 : Int32) : entryFrame m #[(.int x0), (.int x1)] 2 = mkF m 0 #[.val (.int x0), .val (.int x1)] [] := by first | (simp [entryFrame, mkF, argsToLocals, Value.category]; done) | rfl
theorem d3_5 : decode jdk_29_method_65_code 5 = .ok (.iload_n 0, 1) := by decide +kernel
theorem d3_6 : decode jdk_29_method_65_code 6 = .ok (.goto 4, 3) := by decide +kernel
def Q3 (Z : State) (p1 : Int32) (p2 : Int32) (h0 : Heap) (n0 : Nat) (v : Option Value) (h : Heap) (L : List Loc) : Prop := v = some (.int (own_max p1 p2)) ∧ Fr n0 L ∧ h = h0
set_option maxRecDepth 65536 in
set_option maxHeartbeats 40000000 in
theorem rm3 (l : Launch) (Z : State) (a0 : Array Value) (hw : ∀ d ∈ tables_1, d.before a0 Z = true) (ws : List Jvm.Cond) (p1 : Int32) (p2 : Int32) (h0 : Heap) (n0 : Nat) (Z0 : n0 ≤ h0.size) :
    MetFree l (⟨"java/lang/Math", "max", "(II)I"⟩ : MethodName) (head1 (Jvm.Cond.code (⟨"java/lang/Math", "max", "(II)I"⟩ : MethodName) jdk_29_method_65_code 2 (some .int) :: ws) ({ frames := 0, cells := 0, slots := 0, locals := 0 } : Room)) (fun a U => a = #[(.int p1), (.int p2)] ∧ Z.Warmed39 U.vm ∧ U.heap = h0) (fun _ _ _ _ _ => True) (fun _ U o U' => ∃ v L, o = .returned v ∧ Q3 Z p1 p2 h0 n0 v U'.heap L ∧ FrameEnd U o U' L ({ frames := 0, cells := 0, slots := 0, locals := 0 } : Room).cells ({ frames := 0, cells := 0, slots := 0, locals := 0 } : Room).slots) := by
  refine MetFree.of_bodySF (Jvm.Free.JP.mathPlain rfl (by decide +kernel)) hisR ?_
  intro p e s m args below meth c s₁ Bd hml0 hP hK
  obtain ⟨rfl, hZ, hh⟩ := hP
  have hx := Bd.exec
  have hby := Bd.bytes
  have hml : c.maxLocals = 2 := hml0
  have hown : s.vm.findClass "java/lang/Math" = some m.cls := findClass_of_methodNamed Bd.named
  have hnm := (name_of_methodNamed Bd.named Bd.method).1
  have X0 : Stand p l e ({ frames := 0, cells := 0, slots := 0, locals := 0 } : Room) s m #[(.int p1), (.int p2)] below meth c s₁ [] 0 0 := Stand.of_body Bd
  have e0 : s₁.heap = h0 := by rw [← hh, Bd.state]; rfl
  have N0 := Fr.nil n0
  have pre0 : ∀ t, Steps p.tables e below (s₁.setTop (mkF m 0 #[.val (.int p1), .val (.int p2)] [])) t → Steps p.tables e below (s₁.setTop (entryFrame m #[(.int p1), (.int p2)] 2)) t := fun t k => castTop (ef_3 m p1 p2) k

  obtain ⟨fs, hr, hrun, hended, hW, hsame⟩ := X0.leave (v := some (.int (own_max p1 p2))) (fun h => by rw [Bd.returns] at h; cases h)
  refine ⟨_, _, pre0 _ ?_, hrun, hended, _, _, rfl, ?_, ⟨_, rfl⟩, hW, hsame.mono (by decide) (by decide)⟩
  · show Steps p.tables e below (s₁.setTop (mkF m 0 #[.val (.int p1), .val (.int p2)] [])) _
    refine XS.iloadN X0.here hx rfl (hb hby d3_0) rfl ?_
    show Steps p.tables e below (s₁.setTop (mkF m 1 #[.val (.int p1), .val (.int p2)] [(.int p1)])) _
    refine XS.iloadN X0.here hx rfl (hb hby d3_1) rfl ?_
    show Steps p.tables e below (s₁.setTop (mkF m 2 #[.val (.int p1), .val (.int p2)] [(.int p2), (.int p1)])) _
    by_cases hc2 : p1 < p2
    · refine XS.icmpYes X0.here hx rfl (pc0 := 2) (pc' := 9) rfl (hb hby d3_2) rfl (tlt hc2).1 (by decide) (by decide) ?_
      show Steps p.tables e below (s₁.setTop (mkF m 9 #[.val (.int p1), .val (.int p2)] [])) _
      refine XS.iloadN X0.here hx rfl (hb hby d3_9) rfl ?_
      show Steps p.tables e below (s₁.setTop (mkF m 10 #[.val (.int p1), .val (.int p2)] [(.int p2)])) _
      rw [show own_max p1 p2 = p2 from by unfold own_max; rw [if_pos hc2]] at hr
      exact retI X0 hx Bd.returns (hb hby d3_10) hr      -- retI stands in the head ('lawwalk <made dir>' prints it)
    · refine XS.icmpNo X0.here hx rfl (hb hby d3_2) rfl (flt hc2).1 ?_
      show Steps p.tables e below (s₁.setTop (mkF m 5 #[.val (.int p1), .val (.int p2)] [])) _
      refine XS.iloadN X0.here hx rfl (hb hby d3_5) rfl ?_
      show Steps p.tables e below (s₁.setTop (mkF m 6 #[.val (.int p1), .val (.int p2)] [(.int p1)])) _
      refine XS.goto X0.here hx rfl (pc0 := 6) (pc' := 10) rfl (hb hby d3_6) (by decide) (by decide) ?_
      show Steps p.tables e below (s₁.setTop (mkF m 10 #[.val (.int p1), .val (.int p2)] [(.int p1)])) _
      rw [show own_max p1 p2 = p1 from by unfold own_max; rw [if_neg hc2]] at hr
      exact retI X0 hx Bd.returns (hb hby d3_10) hr      -- retI stands in the head ('lawwalk <made dir>' prints it)
  · show Q3 Z p1 p2 h0 n0 _ s₁.heap _
    rw [e0]
    exact ⟨rfl, N0, rfl⟩
theorem d5_0 : decode jdk_33_method_47_code 0 = .ok (.iload_n 0, 1) := by decide +kernel
theorem d5_1 : decode jdk_33_method_47_code 1 = .ok (.ifCond .gt 14, 3) := by decide +kernel
theorem d5_15 : decode jdk_33_method_47_code 15 = .ok (.bipush 31, 2) := by decide +kernel
theorem d5_17 : decode jdk_33_method_47_code 17 = .ok (.istore_n 1, 1) := by decide +kernel
theorem d5_18 : decode jdk_33_method_47_code 18 = .ok (.iload_n 0, 1) := by decide +kernel
theorem d5_19 : decode jdk_33_method_47_code 19 = .ok (.ldc_w 264, 3) := by decide +kernel
theorem d5_22 : decode jdk_33_method_47_code 22 = .ok (.if_icmp .lt 11, 3) := by decide +kernel
theorem d5_25 : decode jdk_33_method_47_code 25 = .ok (.iinc 1 (-16), 3) := by decide +kernel
theorem d5_28 : decode jdk_33_method_47_code 28 = .ok (.iload_n 0, 1) := by decide +kernel
theorem d5_29 : decode jdk_33_method_47_code 29 = .ok (.bipush 16, 2) := by decide +kernel
theorem d5_31 : decode jdk_33_method_47_code 31 = .ok (.iushr, 1) := by decide +kernel
theorem d5_32 : decode jdk_33_method_47_code 32 = .ok (.istore_n 0, 1) := by decide +kernel
theorem d5_33 : decode jdk_33_method_47_code 33 = .ok (.iload_n 0, 1) := by decide +kernel
theorem d5_34 : decode jdk_33_method_47_code 34 = .ok (.sipush 256, 3) := by decide +kernel
theorem d5_37 : decode jdk_33_method_47_code 37 = .ok (.if_icmp .lt 11, 3) := by decide +kernel
theorem d5_48 : decode jdk_33_method_47_code 48 = .ok (.iload_n 0, 1) := by decide +kernel
theorem d5_49 : decode jdk_33_method_47_code 49 = .ok (.bipush 16, 2) := by decide +kernel
theorem d5_51 : decode jdk_33_method_47_code 51 = .ok (.if_icmp .lt 10, 3) := by decide +kernel
theorem d5_61 : decode jdk_33_method_47_code 61 = .ok (.iload_n 0, 1) := by decide +kernel
theorem d5_62 : decode jdk_33_method_47_code 62 = .ok (.iconst 4, 1) := by decide +kernel
theorem d5_63 : decode jdk_33_method_47_code 63 = .ok (.if_icmp .lt 10, 3) := by decide +kernel
theorem d5_73 : decode jdk_33_method_47_code 73 = .ok (.iload_n 1, 1) := by decide +kernel
theorem d5_74 : decode jdk_33_method_47_code 74 = .ok (.iload_n 0, 1) := by decide +kernel
theorem d5_75 : decode jdk_33_method_47_code 75 = .ok (.iconst 1, 1) := by decide +kernel
theorem d5_76 : decode jdk_33_method_47_code 76 = .ok (.iushr, 1) := by decide +kernel
theorem d5_77 : decode jdk_33_method_47_code 77 = .ok (.isub, 1) := by decide +kernel
theorem d5_78 : decode jdk_33_method_47_code 78 = .ok (.ireturn, 1) := by decide +kernel
theorem pn_5 : plainName "java/lang/Integer" = true := by first | (simp [plainName, overriddenIn]; done) | decide +kernel
theorem ef_5 (m : MethodId) (x0 : Int32) : entryFrame m #[(.int x0)] 2 = mkF m 0 #[.val (.int x0), .unset] [] := by first | (simp [entryFrame, mkF, argsToLocals, Value.category]; done) | rfl
theorem d5_66 : decode jdk_33_method_47_code 66 = .ok (.iinc 1 (-2), 3) := by decide +kernel
theorem d5_69 : decode jdk_33_method_47_code 69 = .ok (.iload_n 0, 1) := by decide +kernel
theorem d5_70 : decode jdk_33_method_47_code 70 = .ok (.iconst 2, 1) := by decide +kernel
theorem d5_71 : decode jdk_33_method_47_code 71 = .ok (.iushr, 1) := by decide +kernel
theorem d5_72 : decode jdk_33_method_47_code 72 = .ok (.istore_n 0, 1) := by decide +kernel
def Q5 (Z : State) (p1 : Int32) (h0 : Heap) (n0 : Nat) (v : Option Value) (h : Heap) (L : List Loc) : Prop := v = some (.int (own_nlz p1)) ∧ Fr n0 L ∧ h = h0
set_option maxRecDepth 65536 in
set_option maxHeartbeats 40000000 in
theorem rm5 (l : Launch) (Z : State) (a0 : Array Value) (hw : ∀ d ∈ tables_1, d.before a0 Z = true) (ws : List Jvm.Cond) (p1 : Int32) (h0 : Heap) (n0 : Nat) (Z0 : n0 ≤ h0.size) (hp : 65536 ≤ p1.toInt ∧ p1.toInt ≤ 524287) :
    MetFree l (⟨"java/lang/Integer", "numberOfLeadingZeros", "(I)I"⟩ : MethodName) (head1 (Jvm.Cond.code (⟨"java/lang/Integer", "numberOfLeadingZeros", "(I)I"⟩ : MethodName) jdk_33_method_47_code 2 (some .int) :: ws) ({ frames := 0, cells := 0, slots := 0, locals := 0 } : Room)) (fun a U => a = #[(.int p1)] ∧ Z.Warmed39 U.vm ∧ U.heap = h0) (fun _ _ _ _ _ => True) (fun _ U o U' => ∃ v L, o = .returned v ∧ Q5 Z p1 h0 n0 v U'.heap L ∧ FrameEnd U o U' L ({ frames := 0, cells := 0, slots := 0, locals := 0 } : Room).cells ({ frames := 0, cells := 0, slots := 0, locals := 0 } : Room).slots) := by
  refine MetFree.of_bodySF (plainFor_of_name pn_5) hisR ?_
  intro p e s m args below meth c s₁ Bd hml0 hP hK
  obtain ⟨rfl, hZ, hh⟩ := hP
  have hx := Bd.exec
  have hby := Bd.bytes
  have hml : c.maxLocals = 2 := hml0
  have hown : s.vm.findClass "java/lang/Integer" = some m.cls := findClass_of_methodNamed Bd.named
  have hnm := (name_of_methodNamed Bd.named Bd.method).1
  have X0 : Stand p l e ({ frames := 0, cells := 0, slots := 0, locals := 0 } : Room) s m #[(.int p1)] below meth c s₁ [] 0 0 := Stand.of_body Bd
  have e0 : s₁.heap = h0 := by rw [← hh, Bd.state]; rfl
  have N0 := Fr.nil n0
  have pre0 : ∀ t, Steps p.tables e below (s₁.setTop (mkF m 0 #[.val (.int p1), .unset] [])) t → Steps p.tables e below (s₁.setTop (entryFrame m #[(.int p1)] 2)) t := fun t k => castTop (ef_5 m p1) k

  obtain ⟨fs, hr, hrun, hended, hW, hsame⟩ := X0.leave (v := some (.int (own_nlz p1))) (fun h => by rw [Bd.returns] at h; cases h)
  refine ⟨_, _, pre0 _ ?_, hrun, hended, _, _, rfl, ?_, ⟨_, rfl⟩, hW, hsame.mono (by decide) (by decide)⟩
  · show Steps p.tables e below (s₁.setTop (mkF m 0 #[.val (.int p1), .unset] [])) _
    refine XS.iloadN X0.here hx rfl (hb hby d5_0) rfl ?_
    show Steps p.tables e below (s₁.setTop (mkF m 1 #[.val (.int p1), .unset] [(.int p1)])) _
    have hc1 : (0 : Int32) < p1 := own_k1 hp
    refine XS.ifYes X0.here hx rfl (pc0 := 1) (pc' := 15) rfl (hb hby d5_1) rfl ((if0 _ _).trans (tlt hc1).2.2.1) (by decide) (by decide) ?_
    show Steps p.tables e below (s₁.setTop (mkF m 15 #[.val (.int p1), .unset] [])) _
    refine XS.bipush X0.here hx rfl (hb hby d5_15) ?_
    show Steps p.tables e below (s₁.setTop (mkF m 17 #[.val (.int p1), .unset] [(.int (31 : Int32))])) _
    refine XS.istoreN X0.here hx rfl (hb hby d5_17) rfl (l' := #[.val (.int p1), .val (.int (31 : Int32))]) rfl ?_
    show Steps p.tables e below (s₁.setTop (mkF m 18 #[.val (.int p1), .val (.int (31 : Int32))] [])) _
    refine XS.iloadN X0.here hx rfl (hb hby d5_18) rfl ?_
    show Steps p.tables e below (s₁.setTop (mkF m 19 #[.val (.int p1), .val (.int (31 : Int32))] [(.int p1)])) _
    refine X0.ldcwInt hx hown (mvT hZ (hw _ (List.mem_of_getElem? (i := 24) rfl))) (g := (mkF m 19 #[.val (.int p1), .val (.int (31 : Int32))] [(.int p1)])) rfl (hb hby d5_19) _ ?_
    show Steps p.tables e below (s₁.setTop (mkF m 22 #[.val (.int p1), .val (.int (31 : Int32))] [(.int (65536 : Int32)), (.int p1)])) _
    have hc22 : ¬ (p1 < (65536 : Int32)) := own_k2 hp
    refine XS.icmpNo X0.here hx rfl (hb hby d5_22) rfl (flt hc22).1 ?_
    show Steps p.tables e below (s₁.setTop (mkF m 25 #[.val (.int p1), .val (.int (31 : Int32))] [])) _
    refine XS.iinc X0.here hx rfl (hb hby d5_25) rfl (l' := #[.val (.int p1), .val (.int ((31 : Int32) + (-16 : Int32)))]) rfl ?_
    show Steps p.tables e below (s₁.setTop (mkF m 28 #[.val (.int p1), .val (.int ((31 : Int32) + (-16 : Int32)))] [])) _
    refine XS.iloadN X0.here hx rfl (hb hby d5_28) rfl ?_
    show Steps p.tables e below (s₁.setTop (mkF m 29 #[.val (.int p1), .val (.int ((31 : Int32) + (-16 : Int32)))] [(.int p1)])) _
    refine XS.bipush X0.here hx rfl (hb hby d5_29) ?_
    show Steps p.tables e below (s₁.setTop (mkF m 31 #[.val (.int p1), .val (.int ((31 : Int32) + (-16 : Int32)))] [(.int (16 : Int32)), (.int p1)])) _
    refine XS.iushr X0.here hx rfl (hb hby d5_31) rfl ?_
    show Steps p.tables e below (s₁.setTop (mkF m 32 #[.val (.int p1), .val (.int ((31 : Int32) + (-16 : Int32)))] [(.int ((p1.toUInt32 >>> ((16 : Int32) &&& 31).toUInt32).toInt32))])) _
    refine XS.istoreN X0.here hx rfl (hb hby d5_32) rfl (l' := #[.val (.int ((p1.toUInt32 >>> ((16 : Int32) &&& 31).toUInt32).toInt32)), .val (.int ((31 : Int32) + (-16 : Int32)))]) rfl ?_
    show Steps p.tables e below (s₁.setTop (mkF m 33 #[.val (.int ((p1.toUInt32 >>> ((16 : Int32) &&& 31).toUInt32).toInt32)), .val (.int ((31 : Int32) + (-16 : Int32)))] [])) _
    refine XS.iloadN X0.here hx rfl (hb hby d5_33) rfl ?_
    show Steps p.tables e below (s₁.setTop (mkF m 34 #[.val (.int ((p1.toUInt32 >>> ((16 : Int32) &&& 31).toUInt32).toInt32)), .val (.int ((31 : Int32) + (-16 : Int32)))] [(.int ((p1.toUInt32 >>> ((16 : Int32) &&& 31).toUInt32).toInt32))])) _
    refine XS.sipush X0.here hx rfl (hb hby d5_34) ?_
    show Steps p.tables e below (s₁.setTop (mkF m 37 #[.val (.int ((p1.toUInt32 >>> ((16 : Int32) &&& 31).toUInt32).toInt32)), .val (.int ((31 : Int32) + (-16 : Int32)))] [(.int (256 : Int32)), (.int ((p1.toUInt32 >>> ((16 : Int32) &&& 31).toUInt32).toInt32))])) _
    have hc37 : ((p1.toUInt32 >>> ((16 : Int32) &&& 31).toUInt32).toInt32) < (256 : Int32) := own_k3 hp
    refine XS.icmpYes X0.here hx rfl (pc0 := 37) (pc' := 48) rfl (hb hby d5_37) rfl (tlt hc37).1 (by decide) (by decide) ?_
    show Steps p.tables e below (s₁.setTop (mkF m 48 #[.val (.int ((p1.toUInt32 >>> ((16 : Int32) &&& 31).toUInt32).toInt32)), .val (.int ((31 : Int32) + (-16 : Int32)))] [])) _
    refine XS.iloadN X0.here hx rfl (hb hby d5_48) rfl ?_
    show Steps p.tables e below (s₁.setTop (mkF m 49 #[.val (.int ((p1.toUInt32 >>> ((16 : Int32) &&& 31).toUInt32).toInt32)), .val (.int ((31 : Int32) + (-16 : Int32)))] [(.int ((p1.toUInt32 >>> ((16 : Int32) &&& 31).toUInt32).toInt32))])) _
    refine XS.bipush X0.here hx rfl (hb hby d5_49) ?_
    show Steps p.tables e below (s₁.setTop (mkF m 51 #[.val (.int ((p1.toUInt32 >>> ((16 : Int32) &&& 31).toUInt32).toInt32)), .val (.int ((31 : Int32) + (-16 : Int32)))] [(.int (16 : Int32)), (.int ((p1.toUInt32 >>> ((16 : Int32) &&& 31).toUInt32).toInt32))])) _
    have hc51 : ((p1.toUInt32 >>> ((16 : Int32) &&& 31).toUInt32).toInt32) < (16 : Int32) := own_k4 hp
    refine XS.icmpYes X0.here hx rfl (pc0 := 51) (pc' := 61) rfl (hb hby d5_51) rfl (tlt hc51).1 (by decide) (by decide) ?_
    show Steps p.tables e below (s₁.setTop (mkF m 61 #[.val (.int ((p1.toUInt32 >>> ((16 : Int32) &&& 31).toUInt32).toInt32)), .val (.int ((31 : Int32) + (-16 : Int32)))] [])) _
    refine XS.iloadN X0.here hx rfl (hb hby d5_61) rfl ?_
    show Steps p.tables e below (s₁.setTop (mkF m 62 #[.val (.int ((p1.toUInt32 >>> ((16 : Int32) &&& 31).toUInt32).toInt32)), .val (.int ((31 : Int32) + (-16 : Int32)))] [(.int ((p1.toUInt32 >>> ((16 : Int32) &&& 31).toUInt32).toInt32))])) _
    refine XS.iconst X0.here hx rfl (hb hby d5_62) ?_
    show Steps p.tables e below (s₁.setTop (mkF m 63 #[.val (.int ((p1.toUInt32 >>> ((16 : Int32) &&& 31).toUInt32).toInt32)), .val (.int ((31 : Int32) + (-16 : Int32)))] [(.int (4 : Int32)), (.int ((p1.toUInt32 >>> ((16 : Int32) &&& 31).toUInt32).toInt32))])) _
    by_cases hc63 : ((p1.toUInt32 >>> ((16 : Int32) &&& 31).toUInt32).toInt32) < (4 : Int32)
    · refine XS.icmpYes X0.here hx rfl (pc0 := 63) (pc' := 73) rfl (hb hby d5_63) rfl (tlt hc63).1 (by decide) (by decide) ?_
      show Steps p.tables e below (s₁.setTop (mkF m 73 #[.val (.int ((p1.toUInt32 >>> ((16 : Int32) &&& 31).toUInt32).toInt32)), .val (.int ((31 : Int32) + (-16 : Int32)))] [])) _
      refine XS.iloadN X0.here hx rfl (hb hby d5_73) rfl ?_
      show Steps p.tables e below (s₁.setTop (mkF m 74 #[.val (.int ((p1.toUInt32 >>> ((16 : Int32) &&& 31).toUInt32).toInt32)), .val (.int ((31 : Int32) + (-16 : Int32)))] [(.int ((31 : Int32) + (-16 : Int32)))])) _
      refine XS.iloadN X0.here hx rfl (hb hby d5_74) rfl ?_
      show Steps p.tables e below (s₁.setTop (mkF m 75 #[.val (.int ((p1.toUInt32 >>> ((16 : Int32) &&& 31).toUInt32).toInt32)), .val (.int ((31 : Int32) + (-16 : Int32)))] [(.int ((p1.toUInt32 >>> ((16 : Int32) &&& 31).toUInt32).toInt32)), (.int ((31 : Int32) + (-16 : Int32)))])) _
      refine XS.iconst X0.here hx rfl (hb hby d5_75) ?_
      show Steps p.tables e below (s₁.setTop (mkF m 76 #[.val (.int ((p1.toUInt32 >>> ((16 : Int32) &&& 31).toUInt32).toInt32)), .val (.int ((31 : Int32) + (-16 : Int32)))] [(.int (1 : Int32)), (.int ((p1.toUInt32 >>> ((16 : Int32) &&& 31).toUInt32).toInt32)), (.int ((31 : Int32) + (-16 : Int32)))])) _
      refine XS.iushr X0.here hx rfl (hb hby d5_76) rfl ?_
      show Steps p.tables e below (s₁.setTop (mkF m 77 #[.val (.int ((p1.toUInt32 >>> ((16 : Int32) &&& 31).toUInt32).toInt32)), .val (.int ((31 : Int32) + (-16 : Int32)))] [(.int ((((p1.toUInt32 >>> ((16 : Int32) &&& 31).toUInt32).toInt32).toUInt32 >>> ((1 : Int32) &&& 31).toUInt32).toInt32)), (.int ((31 : Int32) + (-16 : Int32)))])) _
      refine XS.isub X0.here hx rfl (hb hby d5_77) rfl ?_
      show Steps p.tables e below (s₁.setTop (mkF m 78 #[.val (.int ((p1.toUInt32 >>> ((16 : Int32) &&& 31).toUInt32).toInt32)), .val (.int ((31 : Int32) + (-16 : Int32)))] [(.int (((31 : Int32) + (-16 : Int32)) - ((((p1.toUInt32 >>> ((16 : Int32) &&& 31).toUInt32).toInt32).toUInt32 >>> ((1 : Int32) &&& 31).toUInt32).toInt32)))])) _
      rw [show own_nlz p1 = (((31 : Int32) + (-16 : Int32)) - ((((p1.toUInt32 >>> ((16 : Int32) &&& 31).toUInt32).toInt32).toUInt32 >>> ((1 : Int32) &&& 31).toUInt32).toInt32)) from if_pos hc63] at hr
      exact retI X0 hx Bd.returns (hb hby d5_78) hr      -- retI stands in the head ('lawwalk <made dir>' prints it)
    · refine XS.icmpNo X0.here hx rfl (hb hby d5_63) rfl (flt hc63).1 ?_
      show Steps p.tables e below (s₁.setTop (mkF m 66 #[.val (.int ((p1.toUInt32 >>> ((16 : Int32) &&& 31).toUInt32).toInt32)), .val (.int ((31 : Int32) + (-16 : Int32)))] [])) _
      refine XS.iinc X0.here hx rfl (hb hby d5_66) rfl (l' := #[.val (.int ((p1.toUInt32 >>> ((16 : Int32) &&& 31).toUInt32).toInt32)), .val (.int (((31 : Int32) + (-16 : Int32)) + (-2 : Int32)))]) rfl ?_
      show Steps p.tables e below (s₁.setTop (mkF m 69 #[.val (.int ((p1.toUInt32 >>> ((16 : Int32) &&& 31).toUInt32).toInt32)), .val (.int (((31 : Int32) + (-16 : Int32)) + (-2 : Int32)))] [])) _
      refine XS.iloadN X0.here hx rfl (hb hby d5_69) rfl ?_
      show Steps p.tables e below (s₁.setTop (mkF m 70 #[.val (.int ((p1.toUInt32 >>> ((16 : Int32) &&& 31).toUInt32).toInt32)), .val (.int (((31 : Int32) + (-16 : Int32)) + (-2 : Int32)))] [(.int ((p1.toUInt32 >>> ((16 : Int32) &&& 31).toUInt32).toInt32))])) _
      refine XS.iconst X0.here hx rfl (hb hby d5_70) ?_
      show Steps p.tables e below (s₁.setTop (mkF m 71 #[.val (.int ((p1.toUInt32 >>> ((16 : Int32) &&& 31).toUInt32).toInt32)), .val (.int (((31 : Int32) + (-16 : Int32)) + (-2 : Int32)))] [(.int (2 : Int32)), (.int ((p1.toUInt32 >>> ((16 : Int32) &&& 31).toUInt32).toInt32))])) _
      refine XS.iushr X0.here hx rfl (hb hby d5_71) rfl ?_
      show Steps p.tables e below (s₁.setTop (mkF m 72 #[.val (.int ((p1.toUInt32 >>> ((16 : Int32) &&& 31).toUInt32).toInt32)), .val (.int (((31 : Int32) + (-16 : Int32)) + (-2 : Int32)))] [(.int ((((p1.toUInt32 >>> ((16 : Int32) &&& 31).toUInt32).toInt32).toUInt32 >>> ((2 : Int32) &&& 31).toUInt32).toInt32))])) _
      refine XS.istoreN X0.here hx rfl (hb hby d5_72) rfl (l' := #[.val (.int ((((p1.toUInt32 >>> ((16 : Int32) &&& 31).toUInt32).toInt32).toUInt32 >>> ((2 : Int32) &&& 31).toUInt32).toInt32)), .val (.int (((31 : Int32) + (-16 : Int32)) + (-2 : Int32)))]) rfl ?_
      show Steps p.tables e below (s₁.setTop (mkF m 73 #[.val (.int ((((p1.toUInt32 >>> ((16 : Int32) &&& 31).toUInt32).toInt32).toUInt32 >>> ((2 : Int32) &&& 31).toUInt32).toInt32)), .val (.int (((31 : Int32) + (-16 : Int32)) + (-2 : Int32)))] [])) _
      refine XS.iloadN X0.here hx rfl (hb hby d5_73) rfl ?_
      show Steps p.tables e below (s₁.setTop (mkF m 74 #[.val (.int ((((p1.toUInt32 >>> ((16 : Int32) &&& 31).toUInt32).toInt32).toUInt32 >>> ((2 : Int32) &&& 31).toUInt32).toInt32)), .val (.int (((31 : Int32) + (-16 : Int32)) + (-2 : Int32)))] [(.int (((31 : Int32) + (-16 : Int32)) + (-2 : Int32)))])) _
      refine XS.iloadN X0.here hx rfl (hb hby d5_74) rfl ?_
      show Steps p.tables e below (s₁.setTop (mkF m 75 #[.val (.int ((((p1.toUInt32 >>> ((16 : Int32) &&& 31).toUInt32).toInt32).toUInt32 >>> ((2 : Int32) &&& 31).toUInt32).toInt32)), .val (.int (((31 : Int32) + (-16 : Int32)) + (-2 : Int32)))] [(.int ((((p1.toUInt32 >>> ((16 : Int32) &&& 31).toUInt32).toInt32).toUInt32 >>> ((2 : Int32) &&& 31).toUInt32).toInt32)), (.int (((31 : Int32) + (-16 : Int32)) + (-2 : Int32)))])) _
      refine XS.iconst X0.here hx rfl (hb hby d5_75) ?_
      show Steps p.tables e below (s₁.setTop (mkF m 76 #[.val (.int ((((p1.toUInt32 >>> ((16 : Int32) &&& 31).toUInt32).toInt32).toUInt32 >>> ((2 : Int32) &&& 31).toUInt32).toInt32)), .val (.int (((31 : Int32) + (-16 : Int32)) + (-2 : Int32)))] [(.int (1 : Int32)), (.int ((((p1.toUInt32 >>> ((16 : Int32) &&& 31).toUInt32).toInt32).toUInt32 >>> ((2 : Int32) &&& 31).toUInt32).toInt32)), (.int (((31 : Int32) + (-16 : Int32)) + (-2 : Int32)))])) _
      refine XS.iushr X0.here hx rfl (hb hby d5_76) rfl ?_
      show Steps p.tables e below (s₁.setTop (mkF m 77 #[.val (.int ((((p1.toUInt32 >>> ((16 : Int32) &&& 31).toUInt32).toInt32).toUInt32 >>> ((2 : Int32) &&& 31).toUInt32).toInt32)), .val (.int (((31 : Int32) + (-16 : Int32)) + (-2 : Int32)))] [(.int ((((((p1.toUInt32 >>> ((16 : Int32) &&& 31).toUInt32).toInt32).toUInt32 >>> ((2 : Int32) &&& 31).toUInt32).toInt32).toUInt32 >>> ((1 : Int32) &&& 31).toUInt32).toInt32)), (.int (((31 : Int32) + (-16 : Int32)) + (-2 : Int32)))])) _
      refine XS.isub X0.here hx rfl (hb hby d5_77) rfl ?_
      show Steps p.tables e below (s₁.setTop (mkF m 78 #[.val (.int ((((p1.toUInt32 >>> ((16 : Int32) &&& 31).toUInt32).toInt32).toUInt32 >>> ((2 : Int32) &&& 31).toUInt32).toInt32)), .val (.int (((31 : Int32) + (-16 : Int32)) + (-2 : Int32)))] [(.int ((((31 : Int32) + (-16 : Int32)) + (-2 : Int32)) - ((((((p1.toUInt32 >>> ((16 : Int32) &&& 31).toUInt32).toInt32).toUInt32 >>> ((2 : Int32) &&& 31).toUInt32).toInt32).toUInt32 >>> ((1 : Int32) &&& 31).toUInt32).toInt32)))])) _
      rw [show own_nlz p1 = ((((31 : Int32) + (-16 : Int32)) + (-2 : Int32)) - ((((((p1.toUInt32 >>> ((16 : Int32) &&& 31).toUInt32).toInt32).toUInt32 >>> ((2 : Int32) &&& 31).toUInt32).toInt32).toUInt32 >>> ((1 : Int32) &&& 31).toUInt32).toInt32)) from if_neg hc63] at hr
      exact retI X0 hx Bd.returns (hb hby d5_78) hr      -- retI stands in the head ('lawwalk <made dir>' prints it)
  · show Q5 Z p1 h0 n0 _ s₁.heap _
    rw [e0]
    exact ⟨rfl, N0, rfl⟩
theorem d4_0 : decode jdk_33_method_45_code 0 = .ok (.iload_n 0, 1) := by decide +kernel
theorem d4_1 : decode jdk_33_method_45_code 1 = .ok (.ldc 127, 2) := by decide +kernel
theorem d4_3 : decode jdk_33_method_45_code 3 = .ok (.iload_n 0, 1) := by decide +kernel
theorem d4_4 : decode jdk_33_method_45_code 4 = .ok (.invokestatic 51, 3) := by decide +kernel
theorem d4_7 : decode jdk_33_method_45_code 7 = .ok (.iushr, 1) := by decide +kernel
theorem d4_8 : decode jdk_33_method_45_code 8 = .ok (.iand, 1) := by decide +kernel
theorem d4_9 : decode jdk_33_method_45_code 9 = .ok (.ireturn, 1) := by decide +kernel
theorem pn_4 : plainName "java/lang/Integer" = true := by first | (simp [plainName, overriddenIn]; done) | decide +kernel
theorem pd_4_3 : parseMethodDescriptor "(I)I" = some ⟨[.int], some .int⟩ := by decide +kernel
theorem ef_4 (m : MethodId) (x0 : Int32) : entryFrame m #[(.int x0)] 1 = mkF m 0 #[.val (.int x0)] [] := by first | (simp [entryFrame, mkF, argsToLocals, Value.category]; done) | rfl
def Q4 (Z : State) (p1 : Int32) (h0 : Heap) (n0 : Nat) (v : Option Value) (h : Heap) (L : List Loc) : Prop := v = some (.int (own_hob p1)) ∧ Fr n0 L ∧ h = h0
set_option maxRecDepth 65536 in
set_option maxHeartbeats 40000000 in
theorem rm4 (l : Launch) (Z : State) (a0 : Array Value) (hw : ∀ d ∈ tables_1, d.before a0 Z = true) (ws : List Jvm.Cond) (p1 : Int32) (h0 : Heap) (n0 : Nat) (Z0 : n0 ≤ h0.size) (hp : 65536 ≤ p1.toInt ∧ p1.toInt ≤ 524287) :
    MetFree l (⟨"java/lang/Integer", "highestOneBit", "(I)I"⟩ : MethodName) (head1 (Jvm.Cond.code (⟨"java/lang/Integer", "highestOneBit", "(I)I"⟩ : MethodName) jdk_33_method_45_code 1 (some .int) :: ws) ({ frames := 1, cells := 0, slots := 0, locals := 15 } : Room)) (fun a U => a = #[(.int p1)] ∧ Z.Warmed39 U.vm ∧ U.heap = h0) (fun _ _ _ _ _ => True) (fun _ U o U' => ∃ v L, o = .returned v ∧ Q4 Z p1 h0 n0 v U'.heap L ∧ FrameEnd U o U' L ({ frames := 1, cells := 0, slots := 0, locals := 15 } : Room).cells ({ frames := 1, cells := 0, slots := 0, locals := 15 } : Room).slots) := by
  refine MetFree.of_bodySF (plainFor_of_name pn_4) hisR ?_
  intro p e s m args below meth c s₁ Bd hml0 hP hK
  obtain ⟨rfl, hZ, hh⟩ := hP
  have hx := Bd.exec
  have hby := Bd.bytes
  have hml : c.maxLocals = 1 := hml0
  have hown : s.vm.findClass "java/lang/Integer" = some m.cls := findClass_of_methodNamed Bd.named
  have hnm := (name_of_methodNamed Bd.named Bd.method).1
  have X0 : Stand p l e ({ frames := 1, cells := 0, slots := 0, locals := 15 } : Room) s m #[(.int p1)] below meth c s₁ [] 0 0 := Stand.of_body Bd
  have e0 : s₁.heap = h0 := by rw [← hh, Bd.state]; rfl
  have N0 := Fr.nil n0
  have pre0 : ∀ t, Steps p.tables e below (s₁.setTop (mkF m 0 #[.val (.int p1)] [])) t → Steps p.tables e below (s₁.setTop (entryFrame m #[(.int p1)] 1)) t := fun t k => castTop (ef_4 m p1) k
  -- 3. LAWS
  -- pc 4: java/lang/Integer.numberOfLeadingZeros by its contract rm5
  obtain ⟨_, _, ⟨T2, L2, k2, n2⟩, -, X2, ⟨Lc2, hQ2, l2, y2, z2⟩, st2⟩ := Jvm.LawKit.callS X0 hx (y := (⟨"java/lang/Integer", "numberOfLeadingZeros", "(I)I"⟩ : MethodName)) hown (mvT hZ (hw _ (List.mem_of_getElem? (i := 21) rfl))) (mvT hZ (hw _ (List.mem_of_getElem? (i := 22) rfl))) (mvT hZ (hw _ (List.mem_of_getElem? (i := 18) rfl))) (mvT hZ (hw _ (List.mem_of_getElem? (i := 23) rfl))) (by decide) (backOf (W := 2) (rm5 l Z a0 hw [] p1  h0 n0 Z0 hp) hZ (hw _ (List.mem_of_getElem? (i := 23) rfl)) (hw _ (List.mem_of_getElem? (i := 18) rfl)) (by decide) (by decide)) (g := (mkF m 4 #[.val (.int p1)] [(.int p1), (.int (-2147483648 : Int32)), (.int p1)])) rfl (by rw [hml]; rfl) (argsL := [(.int p1)]) (rest := [(.int (-2147483648 : Int32)), (.int p1)]) (lenOf pd_4_3 rfl) rfl (by show 2 * 0 + _ ≤ _; exact Nat.le_of_eq rfl) (hb hby d4_4) (fun _ _ => ⟨rfl, e0, (by decide : 0 + 0 ≤ _), (by decide : 0 + 0 ≤ _)⟩)
  dsimp only [Pt.U, Pt.locs, Pt.cells, Pt.slots] at X2 l2 y2 z2 st2 hQ2
  subst l2 y2 z2
  obtain ⟨rfl, N2q, q2⟩ := hQ2      -- what it returned, that it wrote nothing old, and the rest of your Q5
  have N2 := Fr.app N0 N2q
  obtain ⟨fs, hr, hrun, hended, hW, hsame⟩ := X2.leave (v := some (.int (own_hob p1))) (fun h => by rw [Bd.returns] at h; cases h)
  refine ⟨_, _, pre0 _ ?_, hrun, hended, _, _, rfl, ?_, ⟨_, rfl⟩, hW, hsame.mono (by decide) (by decide)⟩
  -- 4. STEPS
  · show Steps p.tables e below (s₁.setTop (mkF m 0 #[.val (.int p1)] [])) _
    refine XS.iloadN X0.here hx rfl (hb hby d4_0) rfl ?_
    show Steps p.tables e below (s₁.setTop (mkF m 1 #[.val (.int p1)] [(.int p1)])) _
    refine X0.ldcInt hx hown (mvT hZ (hw _ (List.mem_of_getElem? (i := 20) rfl))) (g := (mkF m 1 #[.val (.int p1)] [(.int p1)])) rfl (hb hby d4_1) _ ?_
    show Steps p.tables e below (s₁.setTop (mkF m 3 #[.val (.int p1)] [(.int (-2147483648 : Int32)), (.int p1)])) _
    refine XS.iloadN X0.here hx rfl (hb hby d4_3) rfl ?_
    show Steps p.tables e below (s₁.setTop (mkF m 4 #[.val (.int p1)] [(.int p1), (.int (-2147483648 : Int32)), (.int p1)])) _
    refine st2 _ ?_
    show Steps p.tables e below (T2.setTop (mkF m 7 #[.val (.int p1)] [(.int (own_nlz p1)), (.int (-2147483648 : Int32)), (.int p1)])) _
    refine XS.iushr X2.here hx rfl (hb hby d4_7) rfl ?_
    show Steps p.tables e below (T2.setTop (mkF m 8 #[.val (.int p1)] [(.int (((-2147483648 : Int32).toUInt32 >>> ((own_nlz p1) &&& 31).toUInt32).toInt32)), (.int p1)])) _
    refine XS.iand X2.here hx rfl (hb hby d4_8) rfl ?_
    show Steps p.tables e below (T2.setTop (mkF m 9 #[.val (.int p1)] [(.int (p1 &&& (((-2147483648 : Int32).toUInt32 >>> ((own_nlz p1) &&& 31).toUInt32).toInt32)))])) _
    show Steps p.tables e below (T2.setTop (mkF m 9 #[.val (.int p1)] [(.int (own_hob p1))])) _
    exact retI X2 hx Bd.returns (hb hby d4_9) hr      -- retI stands in the head ('lawwalk <made dir>' prints it)
  · show Q4 Z p1 h0 n0 _ T2.heap _
    rw [q2]
    exact ⟨rfl, N2, rfl⟩

theorem d1_0 : decode prog_8_method_1_code 0 = .ok (.aload_n 0, 1) := by decide +kernel
theorem d1_1 : decode prog_8_method_1_code 1 = .ok (.invokespecial 1, 3) := by decide +kernel
theorem d1_4 : decode prog_8_method_1_code 4 = .ok (.iload_n 1, 1) := by decide +kernel
theorem d1_5 : decode prog_8_method_1_code 5 = .ok (.bipush 64, 2) := by decide +kernel
theorem d1_7 : decode prog_8_method_1_code 7 = .ok (.imul, 1) := by decide +kernel
theorem d1_8 : decode prog_8_method_1_code 8 = .ok (.ldc 9, 2) := by decide +kernel
theorem d1_10 : decode prog_8_method_1_code 10 = .ok (.invokestatic 10, 3) := by decide +kernel
theorem d1_13 : decode prog_8_method_1_code 13 = .ok (.invokestatic 16, 3) := by decide +kernel
theorem d1_16 : decode prog_8_method_1_code 16 = .ok (.istore_n 2, 1) := by decide +kernel
theorem d1_17 : decode prog_8_method_1_code 17 = .ok (.aload_n 0, 1) := by decide +kernel
theorem d1_18 : decode prog_8_method_1_code 18 = .ok (.iload_n 2, 1) := by decide +kernel
theorem d1_19 : decode prog_8_method_1_code 19 = .ok (.bipush 64, 2) := by decide +kernel
theorem d1_21 : decode prog_8_method_1_code 21 = .ok (.idiv, 1) := by decide +kernel
theorem d1_22 : decode prog_8_method_1_code 22 = .ok (.newarray .long, 2) := by decide +kernel
theorem d1_24 : decode prog_8_method_1_code 24 = .ok (.putfield 24, 3) := by decide +kernel
theorem d1_27 : decode prog_8_method_1_code 27 = .ok (.aload_n 0, 1) := by decide +kernel
theorem d1_28 : decode prog_8_method_1_code 28 = .ok (.iload_n 2, 1) := by decide +kernel
theorem d1_29 : decode prog_8_method_1_code 29 = .ok (.iconst 1, 1) := by decide +kernel
theorem d1_30 : decode prog_8_method_1_code 30 = .ok (.isub, 1) := by decide +kernel
theorem d1_31 : decode prog_8_method_1_code 31 = .ok (.putfield 28, 3) := by decide +kernel
theorem d1_34 : decode prog_8_method_1_code 34 = .ok (.return_, 1) := by decide +kernel
theorem pn_1 : plainName "com/example/knit6/knit6/patch/HashFilter" = true := by first | (simp [plainName, overriddenIn]; done) | decide +kernel
theorem pd_1_2 : parseMethodDescriptor "(II)I" = some ⟨[.int, .int], some .int⟩ := by decide +kernel
theorem pd_1_3 : parseMethodDescriptor "(I)I" = some ⟨[.int], some .int⟩ := by decide +kernel
theorem ef_1 (m : MethodId) (x0 : Addr) (x1 : Int32) : entryFrame m #[(.ref x0), (.int x1)] 3 = mkF m 0 #[.val (.ref x0), .val (.int x1), .unset] [] := by first | (simp [entryFrame, mkF, argsToLocals, Value.category]; done) | rfl
def Q1 (Z : State) (a1 : Addr) (p2 : Int32) (u_bits_a1 : Value) (u_mask_a1 : Value) (h0 : Heap) (n0 : Nat) (v : Option Value) (h : Heap) (L : List Loc) : Prop := v = none ∧ Fr n0 L ∧ ∃ (b : Addr) (k : ClassId), Keep h0 h [a1] ∧ Exa Z h a1 "com/example/knit6/knit6/patch/HashFilter" ∧ Fld Z h a1 "com/example/knit6/knit6/patch/HashFilter" "bits" "[J" (.ref b) ∧ Fld Z h a1 "com/example/knit6/knit6/patch/HashFilter" "mask" "I" (.int (own_sz p2 - (1 : Int32))) ∧ Arr Z h b (newA k .long (own_sz p2 / (64 : Int32))) .long ∧ n0 ≤ b ∧ a1 ≠ b
set_option maxRecDepth 65536 in
set_option maxHeartbeats 40000000 in
theorem rm1 (l : Launch) (Z : State) (a0 : Array Value) (hw : ∀ d ∈ tables_1, d.before a0 Z = true) (ws : List Jvm.Cond) (a1 : Addr) (p2 : Int32) (u_bits_a1 : Value) (u_mask_a1 : Value) (h0 : Heap) (n0 : Nat) (Z0 : n0 ≤ h0.size) (E_a1 : Exa Z h0 a1 "com/example/knit6/knit6/patch/HashFilter") (F_bits_a1 : Fld Z h0 a1 "com/example/knit6/knit6/patch/HashFilter" "bits" "[J" u_bits_a1) (g_a1 : n0 ≤ a1) (F_mask_a1 : Fld Z h0 a1 "com/example/knit6/knit6/patch/HashFilter" "mask" "I" u_mask_a1) (hr : 0 ≤ p2.toInt ∧ p2.toInt ≤ 8191) :
    MetFree l (⟨"com/example/knit6/knit6/patch/HashFilter", "<init>", "(I)V"⟩ : MethodName) (head1 (Jvm.Cond.code (⟨"com/example/knit6/knit6/patch/HashFilter", "<init>", "(I)V"⟩ : MethodName) prog_8_method_1_code 3 none :: ws) ({ frames := 2, cells := 1, slots := 4096, locals := 27 } : Room)) (fun a U => a = #[(.ref a1), (.int p2)] ∧ Z.Warmed39 U.vm ∧ U.heap = h0) (fun _ _ _ _ _ => True) (fun _ U o U' => ∃ v L, o = .returned v ∧ Q1 Z a1 p2 u_bits_a1 u_mask_a1 h0 n0 v U'.heap L ∧ FrameEnd U o U' L ({ frames := 2, cells := 1, slots := 4096, locals := 27 } : Room).cells ({ frames := 2, cells := 1, slots := 4096, locals := 27 } : Room).slots) := by
  refine MetFree.of_bodySF (plainFor_of_name pn_1) hisR ?_
  intro p e s m args below meth c s₁ Bd hml0 hP hK
  obtain ⟨rfl, hZ, hh⟩ := hP
  have hx := Bd.exec
  have hby := Bd.bytes
  have hml : c.maxLocals = 3 := hml0
  have hown : s.vm.findClass "com/example/knit6/knit6/patch/HashFilter" = some m.cls := findClass_of_methodNamed Bd.named
  have hnm := (name_of_methodNamed Bd.named Bd.method).1
  have X0 : Stand p l e ({ frames := 2, cells := 1, slots := 4096, locals := 27 } : Room) s m #[(.ref a1), (.int p2)] below meth c s₁ [] 0 0 := Stand.of_body Bd
  have e0 : s₁.heap = h0 := by rw [← hh, Bd.state]; rfl
  have N0 := Fr.nil n0
  have pre0 : ∀ t, Steps p.tables e below (s₁.setTop (mkF m 0 #[.val (.ref a1), .val (.int p2), .unset] [])) t → Steps p.tables e below (s₁.setTop (entryFrame m #[(.ref a1), (.int p2)] 3)) t := fun t k => castTop (ef_1 m a1 p2) k
  -- 3. LAWS
  obtain ⟨T3, X3, e3, st3⟩ := initO X0 hx hZ hown (hw _ (List.mem_of_getElem? (i := 8) rfl)) (hw _ (List.mem_of_getElem? (i := 9) rfl)) (hw _ (List.mem_of_getElem? (i := 10) rfl)) e0 (g := (mkF m 1 #[.val (.ref a1), .val (.int p2), .unset] [(.ref a1)])) rfl (by rw [hml]; rfl) rfl (hb hby d1_1) (by decide) (W := 0) (by show 2 * 0 + _ ≤ _; exact Nat.le_of_eq rfl) (by decide)
  -- pc 10: java/lang/Math.max by its contract rm3
  obtain ⟨_, _, ⟨T4, L4, k4, n4⟩, -, X4, ⟨Lc4, hQ4, l4, y4, z4⟩, st4⟩ := Jvm.LawKit.callS X3 hx (y := (⟨"java/lang/Math", "max", "(II)I"⟩ : MethodName)) hown (mvT hZ (hw _ (List.mem_of_getElem? (i := 12) rfl))) (mvT hZ (hw _ (List.mem_of_getElem? (i := 13) rfl))) (mvT hZ (hw _ (List.mem_of_getElem? (i := 14) rfl))) (mvT hZ (hw _ (List.mem_of_getElem? (i := 15) rfl))) (by decide) (backOf (W := 0) (rm3 l Z a0 hw [] (p2 * (64 : Int32)) (65536 : Int32)  h0 n0 Z0) hZ (hw _ (List.mem_of_getElem? (i := 15) rfl)) (hw _ (List.mem_of_getElem? (i := 14) rfl)) (by decide) (by decide)) (g := (mkF m 10 #[.val (.ref a1), .val (.int p2), .unset] [(.int (65536 : Int32)), (.int (p2 * (64 : Int32)))])) rfl (by rw [hml]; rfl) (argsL := [(.int (p2 * (64 : Int32))), (.int (65536 : Int32))]) (rest := []) (lenOf pd_1_2 rfl) rfl (by show 2 * 0 + _ ≤ _; exact Nat.le_of_eq rfl) (hb hby d1_10) (fun _ _ => ⟨rfl, e3, (by decide : 0 + 0 ≤ _), (by decide : 0 + 0 ≤ _)⟩)
  dsimp only [Pt.U, Pt.locs, Pt.cells, Pt.slots] at X4 l4 y4 z4 st4 hQ4
  subst l4 y4 z4
  obtain ⟨rfl, N4q, q4⟩ := hQ4      -- what it returned, that it wrote nothing old, and the rest of your Q3
  have N4 := Fr.app N0 N4q
  -- pc 13: java/lang/Integer.highestOneBit by its contract rm4
  obtain ⟨_, _, ⟨T5, L5, k5, n5⟩, -, X5, ⟨Lc5, hQ5, l5, y5, z5⟩, st5⟩ := Jvm.LawKit.callS X4 hx (y := (⟨"java/lang/Integer", "highestOneBit", "(I)I"⟩ : MethodName)) hown (mvT hZ (hw _ (List.mem_of_getElem? (i := 16) rfl))) (mvT hZ (hw _ (List.mem_of_getElem? (i := 17) rfl))) (mvT hZ (hw _ (List.mem_of_getElem? (i := 18) rfl))) (mvT hZ (hw _ (List.mem_of_getElem? (i := 19) rfl))) (by decide) (backOf (W := 0) (rm4 l Z a0 hw [] (own_max (p2 * (64 : Int32)) (65536 : Int32))  h0 n0 Z0 (own_max_in hr)) hZ (hw _ (List.mem_of_getElem? (i := 19) rfl)) (hw _ (List.mem_of_getElem? (i := 18) rfl)) (by decide) (by decide)) (g := (mkF m 13 #[.val (.ref a1), .val (.int p2), .unset] [(.int (own_max (p2 * (64 : Int32)) (65536 : Int32)))])) rfl (by rw [hml]; rfl) (argsL := [(.int (own_max (p2 * (64 : Int32)) (65536 : Int32)))]) (rest := []) (lenOf pd_1_3 rfl) rfl (by show 2 * 0 + _ ≤ _; exact Nat.le_of_eq rfl) (hb hby d1_13) (fun _ _ => ⟨rfl, q4, (by decide : 0 + 0 ≤ _), (by decide : 0 + 0 ≤ _)⟩)
  dsimp only [Pt.U, Pt.locs, Pt.cells, Pt.slots] at X5 l5 y5 z5 st5 hQ5
  subst l5 y5 z5
  obtain ⟨rfl, N5q, q5⟩ := hQ5      -- what it returned, that it wrote nothing old, and the rest of your Q4
  have N5 := Fr.app N4 N5q
  obtain ⟨T6, h6, k6, X6, e6, E6, A6, st6⟩ := newP X5 hx hZ (hw _ (List.mem_of_getElem? (i := 25) rfl)) q5 (g := (mkF m 22 #[.val (.ref a1), .val (.int p2), .val (.int (own_sz p2))] [(.int ((own_sz p2) / (64 : Int32))), (.ref a1)])) rfl (hb hby d1_22) rfl (own_len hr).1 (cap := 4096) (own_len hr).2 (by decide) (by decide) (by decide)
  obtain ⟨b6, g6⟩ : ∃ z, z = h0.size := ⟨_, rfl⟩      -- the fresh array's address
  rw [← g6] at A6 st6
  have ne6 : b6 ≠ a1 := by rw [g6]; exact (Nat.ne_of_lt E_a1.lt).symm
  have V_b6 := Arv.new A6 (own_len hr).1      -- Arv Z h6 b6 k6 .long ((own_sz p2) / (64 : Int32)) [] (its first value); a place must be in the list before it's written: Arv.pad with pad_rep
  have g_b6 : n0 ≤ b6 := Nat.le_trans Z0 (Nat.le_of_eq g6.symm)
  have sz_b6 : h0.size ≤ b6 := (Nat.le_trans (Keep.refl h0 [a1]).1 (Nat.le_of_eq g6.symm))
  have K6 : Keep h0 h6 [a1] := (Keep.refl h0 [a1]).ext E6
  obtain ⟨T7, h7, X7, e7, W7, st7⟩ := putF X6 hx hZ hown (host := "") (Or.inl (hw _ (List.mem_of_getElem? (i := 26) rfl))) Via.refl e6 (F_bits_a1.ext E6) (E_a1.ext E6) (Or.inr ⟨(hw _ (List.mem_of_getElem? (i := 27) rfl)), rfl, hnm⟩) (hw _ (List.mem_of_getElem? (i := 3) rfl)) (ty := (.array .long)) (by decide) rfl rfl (g := (mkF m 24 #[.val (.ref a1), .val (.int p2), .val (.int (own_sz p2))] [(.ref b6), (.ref a1)])) rfl rfl (hb hby d1_24)
  have Fw7 := (F_bits_a1.ext E6).same W7      -- the field now holds (.ref b6)
  have K7 : Keep h0 h7 [a1] := K6.wr W7 (Or.inl (List.mem_of_getElem? (i := 0) rfl))
  have N7 := Fr.snoc X7 N5 g_a1
  obtain ⟨T8, h8, X8, e8, W8, st8⟩ := putF X7 hx hZ hown (host := "") (Or.inl (hw _ (List.mem_of_getElem? (i := 28) rfl))) Via.refl e7 ((F_mask_a1.ext E6).other W7 (Or.inr (slot_ne (Or.inr (hw _ (List.mem_of_getElem? (i := 29) rfl))) (Or.inr (hw _ (List.mem_of_getElem? (i := 27) rfl))) (by decide) (t := .int) (t' := (.array .long)) (by decide) (by decide)))) ((E_a1.ext E6).wr W7) (Or.inr ⟨(hw _ (List.mem_of_getElem? (i := 29) rfl)), rfl, hnm⟩) (hw _ (List.mem_of_getElem? (i := 3) rfl)) (ty := .int) (by decide) rfl rfl (g := (mkF m 31 #[.val (.ref a1), .val (.int p2), .val (.int (own_sz p2))] [(.int ((own_sz p2) - (1 : Int32))), (.ref a1)])) rfl rfl (hb hby d1_31)
  have Fw8 := ((F_mask_a1.ext E6).other W7 (Or.inr (slot_ne (Or.inr (hw _ (List.mem_of_getElem? (i := 29) rfl))) (Or.inr (hw _ (List.mem_of_getElem? (i := 27) rfl))) (by decide) (t := .int) (t' := (.array .long)) (by decide) (by decide)))).same W8      -- the field now holds (.int ((own_sz p2) - (1 : Int32)))
  have K8 : Keep h0 h8 [a1] := K7.wr W8 (Or.inl (List.mem_of_getElem? (i := 0) rfl))
  have N8 := Fr.snoc X8 N7 g_a1
  obtain ⟨fs, hr, hrun, hended, hW, hsame⟩ := X8.leave (v := none) (fun _ => rfl)
  refine ⟨_, _, pre0 _ ?_, hrun, hended, _, _, rfl, ?_, ⟨_, rfl⟩, hW, hsame.mono (by decide) (by decide)⟩
  -- 4. STEPS
  · show Steps p.tables e below (s₁.setTop (mkF m 0 #[.val (.ref a1), .val (.int p2), .unset] [])) _
    refine XS.aloadN X0.here hx rfl (hb hby d1_0) rfl rfl ?_
    show Steps p.tables e below (s₁.setTop (mkF m 1 #[.val (.ref a1), .val (.int p2), .unset] [(.ref a1)])) _
    refine st3 _ ?_
    show Steps p.tables e below (T3.setTop (mkF m 4 #[.val (.ref a1), .val (.int p2), .unset] [])) _
    refine XS.iloadN X3.here hx rfl (hb hby d1_4) rfl ?_
    show Steps p.tables e below (T3.setTop (mkF m 5 #[.val (.ref a1), .val (.int p2), .unset] [(.int p2)])) _
    refine XS.bipush X3.here hx rfl (hb hby d1_5) ?_
    show Steps p.tables e below (T3.setTop (mkF m 7 #[.val (.ref a1), .val (.int p2), .unset] [(.int (64 : Int32)), (.int p2)])) _
    refine XS.imul X3.here hx rfl (hb hby d1_7) rfl ?_
    show Steps p.tables e below (T3.setTop (mkF m 8 #[.val (.ref a1), .val (.int p2), .unset] [(.int (p2 * (64 : Int32)))])) _
    refine X3.ldcInt hx hown (mvT hZ (hw _ (List.mem_of_getElem? (i := 11) rfl))) (g := (mkF m 8 #[.val (.ref a1), .val (.int p2), .unset] [(.int (p2 * (64 : Int32)))])) rfl (hb hby d1_8) _ ?_
    show Steps p.tables e below (T3.setTop (mkF m 10 #[.val (.ref a1), .val (.int p2), .unset] [(.int (65536 : Int32)), (.int (p2 * (64 : Int32)))])) _
    refine st4 _ ?_
    show Steps p.tables e below (T4.setTop (mkF m 13 #[.val (.ref a1), .val (.int p2), .unset] [(.int (own_max (p2 * (64 : Int32)) (65536 : Int32)))])) _
    refine st5 _ ?_
    show Steps p.tables e below (T5.setTop (mkF m 16 #[.val (.ref a1), .val (.int p2), .unset] [(.int (own_sz p2))])) _
    refine XS.istoreN X5.here hx rfl (hb hby d1_16) rfl (l' := #[.val (.ref a1), .val (.int p2), .val (.int (own_sz p2))]) rfl ?_
    show Steps p.tables e below (T5.setTop (mkF m 17 #[.val (.ref a1), .val (.int p2), .val (.int (own_sz p2))] [])) _
    refine XS.aloadN X5.here hx rfl (hb hby d1_17) rfl rfl ?_
    show Steps p.tables e below (T5.setTop (mkF m 18 #[.val (.ref a1), .val (.int p2), .val (.int (own_sz p2))] [(.ref a1)])) _
    refine XS.iloadN X5.here hx rfl (hb hby d1_18) rfl ?_
    show Steps p.tables e below (T5.setTop (mkF m 19 #[.val (.ref a1), .val (.int p2), .val (.int (own_sz p2))] [(.int (own_sz p2)), (.ref a1)])) _
    refine XS.bipush X5.here hx rfl (hb hby d1_19) ?_
    show Steps p.tables e below (T5.setTop (mkF m 21 #[.val (.ref a1), .val (.int p2), .val (.int (own_sz p2))] [(.int (64 : Int32)), (.int (own_sz p2)), (.ref a1)])) _
    refine XS.idiv X5.here hx rfl (hb hby d1_21) rfl (by decide) ?_
    show Steps p.tables e below (T5.setTop (mkF m 22 #[.val (.ref a1), .val (.int p2), .val (.int (own_sz p2))] [(.int ((own_sz p2) / (64 : Int32))), (.ref a1)])) _
    refine st6 _ ?_
    show Steps p.tables e below (T6.setTop (mkF m 24 #[.val (.ref a1), .val (.int p2), .val (.int (own_sz p2))] [(.ref b6), (.ref a1)])) _
    refine st7 _ ?_
    show Steps p.tables e below (T7.setTop (mkF m 27 #[.val (.ref a1), .val (.int p2), .val (.int (own_sz p2))] [])) _
    refine XS.aloadN X7.here hx rfl (hb hby d1_27) rfl rfl ?_
    show Steps p.tables e below (T7.setTop (mkF m 28 #[.val (.ref a1), .val (.int p2), .val (.int (own_sz p2))] [(.ref a1)])) _
    refine XS.iloadN X7.here hx rfl (hb hby d1_28) rfl ?_
    show Steps p.tables e below (T7.setTop (mkF m 29 #[.val (.ref a1), .val (.int p2), .val (.int (own_sz p2))] [(.int (own_sz p2)), (.ref a1)])) _
    refine XS.iconst X7.here hx rfl (hb hby d1_29) ?_
    show Steps p.tables e below (T7.setTop (mkF m 30 #[.val (.ref a1), .val (.int p2), .val (.int (own_sz p2))] [(.int (1 : Int32)), (.int (own_sz p2)), (.ref a1)])) _
    refine XS.isub X7.here hx rfl (hb hby d1_30) rfl ?_
    show Steps p.tables e below (T7.setTop (mkF m 31 #[.val (.ref a1), .val (.int p2), .val (.int (own_sz p2))] [(.int ((own_sz p2) - (1 : Int32))), (.ref a1)])) _
    refine st8 _ ?_
    show Steps p.tables e below (T8.setTop (mkF m 34 #[.val (.ref a1), .val (.int p2), .val (.int (own_sz p2))] [])) _
    exact X8.returnOut hx Bd.returns (hb hby d1_34) hr
  · show Q1 Z a1 p2 u_bits_a1 u_mask_a1 h0 n0 _ T8.heap _
    rw [e8]
    exact ⟨rfl, N8, b6, k6, K8, ((E_a1.ext E6).wr W7).wr W8, Fw7.other W8 (Or.inr (slot_ne (Or.inr (hw _ (List.mem_of_getElem? (i := 27) rfl))) (Or.inr (hw _ (List.mem_of_getElem? (i := 29) rfl))) (by decide) (t := (.array .long)) (t' := .int) (by decide) (by decide))), Fw8, (A6.other W7 ne6).other W8 ne6, g_b6, ne6.symm⟩

theorem d6_0 : decode prog_8_method_3_code 0 = .ok (.iload_n 1, 1) := by decide +kernel
theorem d6_1 : decode prog_8_method_3_code 1 = .ok (.aload_n 0, 1) := by decide +kernel
theorem d6_2 : decode prog_8_method_3_code 2 = .ok (.getfield 28, 3) := by decide +kernel
theorem d6_5 : decode prog_8_method_3_code 5 = .ok (.iand, 1) := by decide +kernel
theorem d6_6 : decode prog_8_method_3_code 6 = .ok (.istore_n 2, 1) := by decide +kernel
theorem d6_7 : decode prog_8_method_3_code 7 = .ok (.aload_n 0, 1) := by decide +kernel
theorem d6_8 : decode prog_8_method_3_code 8 = .ok (.getfield 24, 3) := by decide +kernel
theorem d6_11 : decode prog_8_method_3_code 11 = .ok (.iload_n 2, 1) := by decide +kernel
theorem d6_12 : decode prog_8_method_3_code 12 = .ok (.bipush 64, 2) := by decide +kernel
theorem d6_14 : decode prog_8_method_3_code 14 = .ok (.idiv, 1) := by decide +kernel
theorem d6_15 : decode prog_8_method_3_code 15 = .ok (.laload, 1) := by decide +kernel
theorem d6_16 : decode prog_8_method_3_code 16 = .ok (.lconst 1, 1) := by decide +kernel
theorem d6_17 : decode prog_8_method_3_code 17 = .ok (.iload_n 2, 1) := by decide +kernel
theorem d6_18 : decode prog_8_method_3_code 18 = .ok (.lshl, 1) := by decide +kernel
theorem d6_19 : decode prog_8_method_3_code 19 = .ok (.land, 1) := by decide +kernel
theorem d6_20 : decode prog_8_method_3_code 20 = .ok (.lconst 0, 1) := by decide +kernel
theorem d6_21 : decode prog_8_method_3_code 21 = .ok (.lcmp, 1) := by decide +kernel
theorem d6_22 : decode prog_8_method_3_code 22 = .ok (.ifCond .eq 7, 3) := by decide +kernel
theorem d6_29 : decode prog_8_method_3_code 29 = .ok (.iconst 0, 1) := by decide +kernel
theorem d6_30 : decode prog_8_method_3_code 30 = .ok (.ireturn, 1) := by decide +kernel
theorem pn_6 : plainName "com/example/knit6/knit6/patch/HashFilter" = true := by first | (simp [plainName, overriddenIn]; done) | decide +kernel
theorem ef_6 (m : MethodId) (x0 : Addr) (x1 : Int32) : entryFrame m #[(.ref x0), (.int x1)] 3 = mkF m 0 #[.val (.ref x0), .val (.int x1), .unset] [] := by first | (simp [entryFrame, mkF, argsToLocals, Value.category]; done) | rfl
theorem d6_25 : decode prog_8_method_3_code 25 = .ok (.iconst 1, 1) := by decide +kernel
theorem d6_26 : decode prog_8_method_3_code 26 = .ok (.goto 4, 3) := by decide +kernel
def Q6 (Z : State) (a1 : Addr) (p2 : Int32) (w3 : Int32) (w5 : Addr) (w7 : Int64) (cl_w5 : Cell) (h0 : Heap) (n0 : Nat) (v : Option Value) (h : Heap) (L : List Loc) : Prop := v = some (.int (own_hit w7 (p2 &&& w3))) ∧ Fr n0 L ∧ h = h0
set_option maxRecDepth 65536 in
set_option maxHeartbeats 40000000 in
theorem rm6 (l : Launch) (Z : State) (a0 : Array Value) (hw : ∀ d ∈ tables_1, d.before a0 Z = true) (ws : List Jvm.Cond) (a1 : Addr) (p2 : Int32) (w3 : Int32) (w5 : Addr) (w7 : Int64) (cl_w5 : Cell) (h0 : Heap) (n0 : Nat) (Z0 : n0 ≤ h0.size) (F_mask_a1 : Fld Z h0 a1 "com/example/knit6/knit6/patch/HashFilter" "mask" "I" (.int w3)) (F_bits_a1 : Fld Z h0 a1 "com/example/knit6/knit6/patch/HashFilter" "bits" "[J" (.ref w5)) (Ar_w5 : Arr Z h0 w5 cl_w5 .long) (hin15 : ¬ (((p2 &&& w3) / (64 : Int32)) < 0 ∨ cl_w5.slots.size ≤ (((p2 &&& w3) / (64 : Int32))).toNatClampNeg)) (hat15 : cl_w5.slots[(((p2 &&& w3) / (64 : Int32))).toNatClampNeg]? = some (.long w7)) :
    MetFree l (⟨"com/example/knit6/knit6/patch/HashFilter", "mayHold", "(I)Z"⟩ : MethodName) (head1 (Jvm.Cond.code (⟨"com/example/knit6/knit6/patch/HashFilter", "mayHold", "(I)Z"⟩ : MethodName) prog_8_method_3_code 3 (some .boolean) :: ws) ({ frames := 0, cells := 0, slots := 0, locals := 0 } : Room)) (fun a U => a = #[(.ref a1), (.int p2)] ∧ Z.Warmed39 U.vm ∧ U.heap = h0) (fun _ _ _ _ _ => True) (fun _ U o U' => ∃ v L, o = .returned v ∧ Q6 Z a1 p2 w3 w5 w7 cl_w5 h0 n0 v U'.heap L ∧ FrameEnd U o U' L ({ frames := 0, cells := 0, slots := 0, locals := 0 } : Room).cells ({ frames := 0, cells := 0, slots := 0, locals := 0 } : Room).slots) := by
  refine MetFree.of_bodySF (plainFor_of_name pn_6) hisR ?_
  intro p e s m args below meth c s₁ Bd hml0 hP hK
  obtain ⟨rfl, hZ, hh⟩ := hP
  have hx := Bd.exec
  have hby := Bd.bytes
  have hml : c.maxLocals = 3 := hml0
  have hown : s.vm.findClass "com/example/knit6/knit6/patch/HashFilter" = some m.cls := findClass_of_methodNamed Bd.named
  have hnm := (name_of_methodNamed Bd.named Bd.method).1
  have X0 : Stand p l e ({ frames := 0, cells := 0, slots := 0, locals := 0 } : Room) s m #[(.ref a1), (.int p2)] below meth c s₁ [] 0 0 := Stand.of_body Bd
  have e0 : s₁.heap = h0 := by rw [← hh, Bd.state]; rfl
  have N0 := Fr.nil n0
  have pre0 : ∀ t, Steps p.tables e below (s₁.setTop (mkF m 0 #[.val (.ref a1), .val (.int p2), .unset] [])) t → Steps p.tables e below (s₁.setTop (entryFrame m #[(.ref a1), (.int p2)] 3)) t := fun t k => castTop (ef_6 m a1 p2) k
  obtain ⟨T4, X4, e4, st4⟩ := getF X0 hx hZ hown (host := "") (Or.inl (hw _ (List.mem_of_getElem? (i := 28) rfl))) Via.refl e0 F_mask_a1 (g := (mkF m 2 #[.val (.ref a1), .val (.int p2), .unset] [(.ref a1), (.int p2)])) rfl rfl (hb hby d6_2)
  obtain ⟨T6, X6, e6, st6⟩ := getF X4 hx hZ hown (host := "") (Or.inl (hw _ (List.mem_of_getElem? (i := 26) rfl))) Via.refl e4 F_bits_a1 (g := (mkF m 8 #[.val (.ref a1), .val (.int p2), .val (.int (p2 &&& w3))] [(.ref a1)])) rfl rfl (hb hby d6_8)
  obtain ⟨fs, hr, hrun, hended, hW, hsame⟩ := X6.leave (v := some (.int (own_hit w7 (p2 &&& w3)))) (fun h => by rw [Bd.returns] at h; cases h)
  refine ⟨_, _, pre0 _ ?_, hrun, hended, _, _, rfl, ?_, ⟨_, rfl⟩, hW, hsame.mono (by decide) (by decide)⟩
  · show Steps p.tables e below (s₁.setTop (mkF m 0 #[.val (.ref a1), .val (.int p2), .unset] [])) _
    refine XS.iloadN X0.here hx rfl (hb hby d6_0) rfl ?_
    show Steps p.tables e below (s₁.setTop (mkF m 1 #[.val (.ref a1), .val (.int p2), .unset] [(.int p2)])) _
    refine XS.aloadN X0.here hx rfl (hb hby d6_1) rfl rfl ?_
    show Steps p.tables e below (s₁.setTop (mkF m 2 #[.val (.ref a1), .val (.int p2), .unset] [(.ref a1), (.int p2)])) _
    refine st4 _ ?_
    show Steps p.tables e below (T4.setTop (mkF m 5 #[.val (.ref a1), .val (.int p2), .unset] [(.int w3), (.int p2)])) _
    refine XS.iand X4.here hx rfl (hb hby d6_5) rfl ?_
    show Steps p.tables e below (T4.setTop (mkF m 6 #[.val (.ref a1), .val (.int p2), .unset] [(.int (p2 &&& w3))])) _
    refine XS.istoreN X4.here hx rfl (hb hby d6_6) rfl (l' := #[.val (.ref a1), .val (.int p2), .val (.int (p2 &&& w3))]) rfl ?_
    show Steps p.tables e below (T4.setTop (mkF m 7 #[.val (.ref a1), .val (.int p2), .val (.int (p2 &&& w3))] [])) _
    refine XS.aloadN X4.here hx rfl (hb hby d6_7) rfl rfl ?_
    show Steps p.tables e below (T4.setTop (mkF m 8 #[.val (.ref a1), .val (.int p2), .val (.int (p2 &&& w3))] [(.ref a1)])) _
    refine st6 _ ?_
    show Steps p.tables e below (T6.setTop (mkF m 11 #[.val (.ref a1), .val (.int p2), .val (.int (p2 &&& w3))] [(.ref w5)])) _
    refine XS.iloadN X6.here hx rfl (hb hby d6_11) rfl ?_
    show Steps p.tables e below (T6.setTop (mkF m 12 #[.val (.ref a1), .val (.int p2), .val (.int (p2 &&& w3))] [(.int (p2 &&& w3)), (.ref w5)])) _
    refine XS.bipush X6.here hx rfl (hb hby d6_12) ?_
    show Steps p.tables e below (T6.setTop (mkF m 14 #[.val (.ref a1), .val (.int p2), .val (.int (p2 &&& w3))] [(.int (64 : Int32)), (.int (p2 &&& w3)), (.ref w5)])) _
    refine XS.idiv X6.here hx rfl (hb hby d6_14) rfl (by decide) ?_
    show Steps p.tables e below (T6.setTop (mkF m 15 #[.val (.ref a1), .val (.int p2), .val (.int (p2 &&& w3))] [(.int ((p2 &&& w3) / (64 : Int32))), (.ref w5)])) _
    refine X6.laload hx (j := ((p2 &&& w3) / (64 : Int32))) (v := (.long w7)) (by rw [e6]; exact Ar_w5.1) (State.isArrayOf_alike hZ.alike Ar_w5.2.1) Ar_w5.2.2 hin15 hat15 (g := (mkF m 15 #[.val (.ref a1), .val (.int p2), .val (.int (p2 &&& w3))] [(.int ((p2 &&& w3) / (64 : Int32))), (.ref w5)])) rfl rfl (hb hby d6_15) _ ?_
    show Steps p.tables e below (T6.setTop (mkF m 16 #[.val (.ref a1), .val (.int p2), .val (.int (p2 &&& w3))] [(.long w7)])) _
    refine XS.lconst X6.here hx rfl (hb hby d6_16) ?_
    show Steps p.tables e below (T6.setTop (mkF m 17 #[.val (.ref a1), .val (.int p2), .val (.int (p2 &&& w3))] [(.long (1 : Int64)), (.long w7)])) _
    refine XS.iloadN X6.here hx rfl (hb hby d6_17) rfl ?_
    show Steps p.tables e below (T6.setTop (mkF m 18 #[.val (.ref a1), .val (.int p2), .val (.int (p2 &&& w3))] [(.int (p2 &&& w3)), (.long (1 : Int64)), (.long w7)])) _
    refine XS.lshl X6.here hx rfl (hb hby d6_18) rfl ?_
    show Steps p.tables e below (T6.setTop (mkF m 19 #[.val (.ref a1), .val (.int p2), .val (.int (p2 &&& w3))] [(.long ((1 : Int64) <<< ((p2 &&& w3) &&& 0x3f).toInt64)), (.long w7)])) _
    refine XS.land X6.here hx rfl (hb hby d6_19) rfl ?_
    show Steps p.tables e below (T6.setTop (mkF m 20 #[.val (.ref a1), .val (.int p2), .val (.int (p2 &&& w3))] [(.long (w7 &&& ((1 : Int64) <<< ((p2 &&& w3) &&& 0x3f).toInt64)))])) _
    refine XS.lconst X6.here hx rfl (hb hby d6_20) ?_
    show Steps p.tables e below (T6.setTop (mkF m 21 #[.val (.ref a1), .val (.int p2), .val (.int (p2 &&& w3))] [(.long (0 : Int64)), (.long (w7 &&& ((1 : Int64) <<< ((p2 &&& w3) &&& 0x3f).toInt64)))])) _
    refine XS.lcmp X6.here hx rfl (hb hby d6_21) rfl ?_
    show Steps p.tables e below (T6.setTop (mkF m 22 #[.val (.ref a1), .val (.int p2), .val (.int (p2 &&& w3))] [(.int (lcmpW (w7 &&& ((1 : Int64) <<< ((p2 &&& w3) &&& 0x3f).toInt64)) (0 : Int64)))])) _
    by_cases hc22 : (lcmpW (w7 &&& ((1 : Int64) <<< ((p2 &&& w3) &&& 0x3f).toInt64)) (0 : Int64)) = (0 : Int32)
    · refine XS.ifYes X6.here hx rfl (pc0 := 22) (pc' := 29) rfl (hb hby d6_22) rfl ((if0 _ _).trans (teq hc22).1) (by decide) (by decide) ?_
      show Steps p.tables e below (T6.setTop (mkF m 29 #[.val (.ref a1), .val (.int p2), .val (.int (p2 &&& w3))] [])) _
      refine XS.iconst X6.here hx rfl (hb hby d6_29) ?_
      show Steps p.tables e below (T6.setTop (mkF m 30 #[.val (.ref a1), .val (.int p2), .val (.int (p2 &&& w3))] [(.int (0 : Int32))])) _
      rw [show own_hit w7 (p2 &&& w3) = (0 : Int32) from if_pos hc22] at hr
      exact retN X6 hx (t := .boolean) Bd.returns (by simp) (hb hby d6_30) hr
    · refine XS.ifNo X6.here hx rfl (hb hby d6_22) rfl ((if0 _ _).trans (feq hc22).1) ?_
      show Steps p.tables e below (T6.setTop (mkF m 25 #[.val (.ref a1), .val (.int p2), .val (.int (p2 &&& w3))] [])) _
      refine XS.iconst X6.here hx rfl (hb hby d6_25) ?_
      show Steps p.tables e below (T6.setTop (mkF m 26 #[.val (.ref a1), .val (.int p2), .val (.int (p2 &&& w3))] [(.int (1 : Int32))])) _
      refine XS.goto X6.here hx rfl (pc0 := 26) (pc' := 30) rfl (hb hby d6_26) (by decide) (by decide) ?_
      show Steps p.tables e below (T6.setTop (mkF m 30 #[.val (.ref a1), .val (.int p2), .val (.int (p2 &&& w3))] [(.int (1 : Int32))])) _
      rw [show own_hit w7 (p2 &&& w3) = (1 : Int32) from if_neg hc22] at hr
      exact retN X6 hx (t := .boolean) Bd.returns (by simp) (hb hby d6_30) hr
  · show Q6 Z a1 p2 w3 w5 w7 cl_w5 h0 n0 _ T6.heap _
    rw [e6]
    exact ⟨rfl, N0, rfl⟩
theorem d7_0 : decode prog_8_method_2_code 0 = .ok (.iload_n 1, 1) := by decide +kernel
theorem d7_1 : decode prog_8_method_2_code 1 = .ok (.aload_n 0, 1) := by decide +kernel
theorem d7_2 : decode prog_8_method_2_code 2 = .ok (.getfield 28, 3) := by decide +kernel
theorem d7_5 : decode prog_8_method_2_code 5 = .ok (.iand, 1) := by decide +kernel
theorem d7_6 : decode prog_8_method_2_code 6 = .ok (.istore_n 2, 1) := by decide +kernel
theorem d7_7 : decode prog_8_method_2_code 7 = .ok (.aload_n 0, 1) := by decide +kernel
theorem d7_8 : decode prog_8_method_2_code 8 = .ok (.getfield 24, 3) := by decide +kernel
theorem d7_11 : decode prog_8_method_2_code 11 = .ok (.iload_n 2, 1) := by decide +kernel
theorem d7_12 : decode prog_8_method_2_code 12 = .ok (.bipush 64, 2) := by decide +kernel
theorem d7_14 : decode prog_8_method_2_code 14 = .ok (.idiv, 1) := by decide +kernel
theorem d7_15 : decode prog_8_method_2_code 15 = .ok (.dup2, 1) := by decide +kernel
theorem d7_16 : decode prog_8_method_2_code 16 = .ok (.laload, 1) := by decide +kernel
theorem d7_17 : decode prog_8_method_2_code 17 = .ok (.lconst 1, 1) := by decide +kernel
theorem d7_18 : decode prog_8_method_2_code 18 = .ok (.iload_n 2, 1) := by decide +kernel
theorem d7_19 : decode prog_8_method_2_code 19 = .ok (.lshl, 1) := by decide +kernel
theorem d7_20 : decode prog_8_method_2_code 20 = .ok (.lor, 1) := by decide +kernel
theorem d7_21 : decode prog_8_method_2_code 21 = .ok (.lastore, 1) := by decide +kernel
theorem d7_22 : decode prog_8_method_2_code 22 = .ok (.return_, 1) := by decide +kernel
theorem pn_7 : plainName "com/example/knit6/knit6/patch/HashFilter" = true := by first | (simp [plainName, overriddenIn]; done) | decide +kernel
theorem ef_7 (m : MethodId) (x0 : Addr) (x1 : Int32) : entryFrame m #[(.ref x0), (.int x1)] 3 = mkF m 0 #[.val (.ref x0), .val (.int x1), .unset] [] := by first | (simp [entryFrame, mkF, argsToLocals, Value.category]; done) | rfl
def Q7 (Z : State) (a1 : Addr) (p2 : Int32) (w3 : Int32) (w5 : Addr) (w7 : Int64) (cl_w5 : Cell) (h0 : Heap) (n0 : Nat) (v : Option Value) (h : Heap) (L : List Loc) : Prop := v = none ∧ Fr n0 L ∧ Keep h0 h [w5] ∧ Arr Z h w5 (cl_w5.setSlot ((p2 &&& w3) / (64 : Int32)).toNatClampNeg (.long (w7 ||| own_bit (p2 &&& w3)))) .long
set_option maxRecDepth 65536 in
set_option maxHeartbeats 40000000 in
theorem rm7 (l : Launch) (Z : State) (a0 : Array Value) (hw : ∀ d ∈ tables_1, d.before a0 Z = true) (ws : List Jvm.Cond) (a1 : Addr) (p2 : Int32) (w3 : Int32) (w5 : Addr) (w7 : Int64) (cl_w5 : Cell) (h0 : Heap) (n0 : Nat) (Z0 : n0 ≤ h0.size) (F_mask_a1 : Fld Z h0 a1 "com/example/knit6/knit6/patch/HashFilter" "mask" "I" (.int w3)) (F_bits_a1 : Fld Z h0 a1 "com/example/knit6/knit6/patch/HashFilter" "bits" "[J" (.ref w5)) (Ar_w5 : Arr Z h0 w5 cl_w5 .long) (hin16 : ¬ (((p2 &&& w3) / (64 : Int32)) < 0 ∨ cl_w5.slots.size ≤ (((p2 &&& w3) / (64 : Int32))).toNatClampNeg)) (hat16 : cl_w5.slots[(((p2 &&& w3) / (64 : Int32))).toNatClampNeg]? = some (.long w7)) (hin21 : ¬ (((p2 &&& w3) / (64 : Int32)) < 0 ∨ cl_w5.slots.size ≤ (((p2 &&& w3) / (64 : Int32))).toNatClampNeg)) (g_w5 : n0 ≤ w5) :
    MetFree l (⟨"com/example/knit6/knit6/patch/HashFilter", "add", "(I)V"⟩ : MethodName) (head1 (Jvm.Cond.code (⟨"com/example/knit6/knit6/patch/HashFilter", "add", "(I)V"⟩ : MethodName) prog_8_method_2_code 3 none :: ws) ({ frames := 0, cells := 0, slots := 0, locals := 0 } : Room)) (fun a U => a = #[(.ref a1), (.int p2)] ∧ Z.Warmed39 U.vm ∧ U.heap = h0) (fun _ _ _ _ _ => True) (fun _ U o U' => ∃ v L, o = .returned v ∧ Q7 Z a1 p2 w3 w5 w7 cl_w5 h0 n0 v U'.heap L ∧ FrameEnd U o U' L ({ frames := 0, cells := 0, slots := 0, locals := 0 } : Room).cells ({ frames := 0, cells := 0, slots := 0, locals := 0 } : Room).slots) := by
  refine MetFree.of_bodySF (plainFor_of_name pn_7) hisR ?_
  intro p e s m args below meth c s₁ Bd hml0 hP hK
  obtain ⟨rfl, hZ, hh⟩ := hP
  have hx := Bd.exec
  have hby := Bd.bytes
  have hml : c.maxLocals = 3 := hml0
  have hown : s.vm.findClass "com/example/knit6/knit6/patch/HashFilter" = some m.cls := findClass_of_methodNamed Bd.named
  have hnm := (name_of_methodNamed Bd.named Bd.method).1
  have X0 : Stand p l e ({ frames := 0, cells := 0, slots := 0, locals := 0 } : Room) s m #[(.ref a1), (.int p2)] below meth c s₁ [] 0 0 := Stand.of_body Bd
  have e0 : s₁.heap = h0 := by rw [← hh, Bd.state]; rfl
  have N0 := Fr.nil n0
  have pre0 : ∀ t, Steps p.tables e below (s₁.setTop (mkF m 0 #[.val (.ref a1), .val (.int p2), .unset] [])) t → Steps p.tables e below (s₁.setTop (entryFrame m #[(.ref a1), (.int p2)] 3)) t := fun t k => castTop (ef_7 m a1 p2) k
  -- 3. LAWS
  obtain ⟨T4, X4, e4, st4⟩ := getF X0 hx hZ hown (host := "") (Or.inl (hw _ (List.mem_of_getElem? (i := 28) rfl))) Via.refl e0 F_mask_a1 (g := (mkF m 2 #[.val (.ref a1), .val (.int p2), .unset] [(.ref a1), (.int p2)])) rfl rfl (hb hby d7_2)
  obtain ⟨T6, X6, e6, st6⟩ := getF X4 hx hZ hown (host := "") (Or.inl (hw _ (List.mem_of_getElem? (i := 26) rfl))) Via.refl e4 F_bits_a1 (g := (mkF m 8 #[.val (.ref a1), .val (.int p2), .val (.int (p2 &&& w3))] [(.ref a1)])) rfl rfl (hb hby d7_8)
  obtain ⟨T8, h8, X8, e8, W8, st8⟩ := stJ X6 hx hZ e6 Ar_w5 (j := ((p2 &&& w3) / (64 : Int32))) hin21 (g := (mkF m 21 #[.val (.ref a1), .val (.int p2), .val (.int (p2 &&& w3))] [(.long (w7 ||| ((1 : Int64) <<< ((p2 &&& w3) &&& 0x3f).toInt64))), (.int ((p2 &&& w3) / (64 : Int32))), (.ref w5)])) rfl rfl (hb hby d7_21)
  have N8 := Fr.snoc X8 N0 g_w5
  -- Ar_w5.same W8 : the array with (.long (w7 ||| ((1 : Int64) <<< ((p2 &&& w3) &&& 0x3f).toInt64))) at the place ((p2 &&& w3) / (64 : Int32))
  have K8 : Keep h0 h8 [w5] := (Keep.refl h0 [w5]).wr W8 (Or.inl (List.mem_of_getElem? (i := 0) rfl))
  obtain ⟨fs, hr, hrun, hended, hW, hsame⟩ := X8.leave (v := none) (fun _ => rfl)
  refine ⟨_, _, pre0 _ ?_, hrun, hended, _, _, rfl, ?_, ⟨_, rfl⟩, hW, hsame.mono (by decide) (by decide)⟩
  -- 4. STEPS
  · show Steps p.tables e below (s₁.setTop (mkF m 0 #[.val (.ref a1), .val (.int p2), .unset] [])) _
    refine XS.iloadN X0.here hx rfl (hb hby d7_0) rfl ?_
    show Steps p.tables e below (s₁.setTop (mkF m 1 #[.val (.ref a1), .val (.int p2), .unset] [(.int p2)])) _
    refine XS.aloadN X0.here hx rfl (hb hby d7_1) rfl rfl ?_
    show Steps p.tables e below (s₁.setTop (mkF m 2 #[.val (.ref a1), .val (.int p2), .unset] [(.ref a1), (.int p2)])) _
    refine st4 _ ?_
    show Steps p.tables e below (T4.setTop (mkF m 5 #[.val (.ref a1), .val (.int p2), .unset] [(.int w3), (.int p2)])) _
    refine XS.iand X4.here hx rfl (hb hby d7_5) rfl ?_
    show Steps p.tables e below (T4.setTop (mkF m 6 #[.val (.ref a1), .val (.int p2), .unset] [(.int (p2 &&& w3))])) _
    refine XS.istoreN X4.here hx rfl (hb hby d7_6) rfl (l' := #[.val (.ref a1), .val (.int p2), .val (.int (p2 &&& w3))]) rfl ?_
    show Steps p.tables e below (T4.setTop (mkF m 7 #[.val (.ref a1), .val (.int p2), .val (.int (p2 &&& w3))] [])) _
    refine XS.aloadN X4.here hx rfl (hb hby d7_7) rfl rfl ?_
    show Steps p.tables e below (T4.setTop (mkF m 8 #[.val (.ref a1), .val (.int p2), .val (.int (p2 &&& w3))] [(.ref a1)])) _
    refine st6 _ ?_
    show Steps p.tables e below (T6.setTop (mkF m 11 #[.val (.ref a1), .val (.int p2), .val (.int (p2 &&& w3))] [(.ref w5)])) _
    refine XS.iloadN X6.here hx rfl (hb hby d7_11) rfl ?_
    show Steps p.tables e below (T6.setTop (mkF m 12 #[.val (.ref a1), .val (.int p2), .val (.int (p2 &&& w3))] [(.int (p2 &&& w3)), (.ref w5)])) _
    refine XS.bipush X6.here hx rfl (hb hby d7_12) ?_
    show Steps p.tables e below (T6.setTop (mkF m 14 #[.val (.ref a1), .val (.int p2), .val (.int (p2 &&& w3))] [(.int (64 : Int32)), (.int (p2 &&& w3)), (.ref w5)])) _
    refine XS.idiv X6.here hx rfl (hb hby d7_14) rfl (by decide) ?_
    show Steps p.tables e below (T6.setTop (mkF m 15 #[.val (.ref a1), .val (.int p2), .val (.int (p2 &&& w3))] [(.int ((p2 &&& w3) / (64 : Int32))), (.ref w5)])) _
    jvm_step X6.here [X6.here.top, hx, (hb hby d7_15), Value.category]
    show Steps p.tables e below (T6.setTop (mkF m 16 #[.val (.ref a1), .val (.int p2), .val (.int (p2 &&& w3))] [(.int ((p2 &&& w3) / (64 : Int32))), (.ref w5), (.int ((p2 &&& w3) / (64 : Int32))), (.ref w5)])) _
    refine X6.laload hx (j := ((p2 &&& w3) / (64 : Int32))) (v := (.long w7)) (by rw [e6]; exact Ar_w5.1) (State.isArrayOf_alike hZ.alike Ar_w5.2.1) Ar_w5.2.2 hin16 hat16 (g := (mkF m 16 #[.val (.ref a1), .val (.int p2), .val (.int (p2 &&& w3))] [(.int ((p2 &&& w3) / (64 : Int32))), (.ref w5), (.int ((p2 &&& w3) / (64 : Int32))), (.ref w5)])) rfl rfl (hb hby d7_16) _ ?_
    show Steps p.tables e below (T6.setTop (mkF m 17 #[.val (.ref a1), .val (.int p2), .val (.int (p2 &&& w3))] [(.long w7), (.int ((p2 &&& w3) / (64 : Int32))), (.ref w5)])) _
    refine XS.lconst X6.here hx rfl (hb hby d7_17) ?_
    show Steps p.tables e below (T6.setTop (mkF m 18 #[.val (.ref a1), .val (.int p2), .val (.int (p2 &&& w3))] [(.long (1 : Int64)), (.long w7), (.int ((p2 &&& w3) / (64 : Int32))), (.ref w5)])) _
    refine XS.iloadN X6.here hx rfl (hb hby d7_18) rfl ?_
    show Steps p.tables e below (T6.setTop (mkF m 19 #[.val (.ref a1), .val (.int p2), .val (.int (p2 &&& w3))] [(.int (p2 &&& w3)), (.long (1 : Int64)), (.long w7), (.int ((p2 &&& w3) / (64 : Int32))), (.ref w5)])) _
    refine XS.lshl X6.here hx rfl (hb hby d7_19) rfl ?_
    show Steps p.tables e below (T6.setTop (mkF m 20 #[.val (.ref a1), .val (.int p2), .val (.int (p2 &&& w3))] [(.long ((1 : Int64) <<< ((p2 &&& w3) &&& 0x3f).toInt64)), (.long w7), (.int ((p2 &&& w3) / (64 : Int32))), (.ref w5)])) _
    refine XS.lor X6.here hx rfl (hb hby d7_20) rfl ?_
    show Steps p.tables e below (T6.setTop (mkF m 21 #[.val (.ref a1), .val (.int p2), .val (.int (p2 &&& w3))] [(.long (w7 ||| ((1 : Int64) <<< ((p2 &&& w3) &&& 0x3f).toInt64))), (.int ((p2 &&& w3) / (64 : Int32))), (.ref w5)])) _
    refine st8 _ ?_
    show Steps p.tables e below (T8.setTop (mkF m 22 #[.val (.ref a1), .val (.int p2), .val (.int (p2 &&& w3))] [])) _
    exact X8.returnOut hx Bd.returns (hb hby d7_22) hr
  · show Q7 Z a1 p2 w3 w5 w7 cl_w5 h0 n0 _ T8.heap _
    rw [e8]
    exact ⟨rfl, N8, K8, Ar_w5.same W8⟩

theorem os0_40 {s0 : Slot} {s1 : Slot} {s2 : Slot} {s3 : Slot} {s4 : Slot} {s5 : Slot} {z6 : Value} {s7 : Slot} {s8 : Slot} {s9 : Slot} {s10 : Slot} {s11 : Slot} {s12 : Slot} {s13 : Slot} {s14 : Slot} {s15 : Slot} {s16 : Slot} {v : Int32} (h : One s7) : storeLocals #[s0, s1, s2, s3, s4, s5, .val z6, s7, s8, s9, s10, s11, s12, s13, s14, s15, s16] 7 (.int v) = some #[s0, s1, s2, s3, s4, s5, .val z6, .val (.int v), s8, s9, s10, s11, s12, s13, s14, s15, s16] := by
  rcases h with rfl | ⟨w, rfl, hw⟩
  · rfl
  · cases w <;> first | rfl | (simp [Value.category] at hw)
set_option maxRecDepth 65536 in
set_option maxHeartbeats 40000000 in
theorem tn0_14_42 {p : Program} {l : Launch} {e : Env} {R : Room} {s : State} {m : MethodId} {args : Array Value} {below : List Frame} {meth : Method} {c : Code} {T0 : State} {locs : List Loc} {cells slots : Nat} {Z : State} {a0 : Array Value} {h0 : Heap} (s0 : Slot) (s1 : Slot) (s2 : Slot) (s3 : Slot) (s4 : Slot) (s5 : Slot) (i6 : Int32) (s7 : Slot) (s8 : Slot) (s9 : Slot) (s10 : Slot) (s11 : Slot) (s12 : Slot) (s13 : Slot) (s14 : Slot) (s15 : Slot) (s16 : Slot)
    (X0 : Stand p l e R s m args below meth c T0 locs cells slots) (hx : p.tables.exec = Jvm.exec) (hZ : Z.Warmed39 s.vm) (hw : ∀ d ∈ tables_1, d.before a0 Z = true) (hby : c.code = code) (hml : c.maxLocals = 17) (hown : s.vm.findClass "com/example/knit6/knit6/patch/HashFilterAddPinLaw" = some m.cls) (e0 : T0.heap = h0) (hs7 : One s7) :
    ∀ target, Steps p.tables e below (T0.setTop (mkF m 42 #[s0, s1, s2, s3, s4, s5, .val (.int i6), .val (.int (own_size i6)), s8, s9, s10, s11, s12, s13, s14, s15, s16] [])) target → Steps p.tables e below (T0.setTop (mkF m 14 #[s0, s1, s2, s3, s4, s5, .val (.int i6), s7, s8, s9, s10, s11, s12, s13, s14, s15, s16] [])) target := by
  intro target kt
  show Steps p.tables e below (T0.setTop (mkF m 14 #[s0, s1, s2, s3, s4, s5, .val (.int i6), s7, s8, s9, s10, s11, s12, s13, s14, s15, s16] [])) _
  refine XS.iload X0.here hx rfl (hb hby at_14) rfl ?_
  show Steps p.tables e below (T0.setTop (mkF m 16 #[s0, s1, s2, s3, s4, s5, .val (.int i6), s7, s8, s9, s10, s11, s12, s13, s14, s15, s16] [(.int i6)])) _
  refine X0.ldcInt hx hown (mvT hZ (hw _ (List.mem_of_getElem? (i := 0) rfl))) (g := (mkF m 16 #[s0, s1, s2, s3, s4, s5, .val (.int i6), s7, s8, s9, s10, s11, s12, s13, s14, s15, s16] [(.int i6)])) rfl (hb hby at_16) _ ?_
  show Steps p.tables e below (T0.setTop (mkF m 18 #[s0, s1, s2, s3, s4, s5, .val (.int i6), s7, s8, s9, s10, s11, s12, s13, s14, s15, s16] [(.int (131072 : Int32)), (.int i6)])) _
  by_cases hc18 : i6 < (131072 : Int32)
  · refine XS.icmpNo X0.here hx rfl (hb hby at_18) rfl (tlt hc18).2.1 ?_
    show Steps p.tables e below (T0.setTop (mkF m 21 #[s0, s1, s2, s3, s4, s5, .val (.int i6), s7, s8, s9, s10, s11, s12, s13, s14, s15, s16] [])) _
    refine X0.ldcInt hx hown (mvT hZ (hw _ (List.mem_of_getElem? (i := 1) rfl))) (g := (mkF m 21 #[s0, s1, s2, s3, s4, s5, .val (.int i6), s7, s8, s9, s10, s11, s12, s13, s14, s15, s16] [])) rfl (hb hby at_21) _ ?_
    show Steps p.tables e below (T0.setTop (mkF m 23 #[s0, s1, s2, s3, s4, s5, .val (.int i6), s7, s8, s9, s10, s11, s12, s13, s14, s15, s16] [(.int (65536 : Int32))])) _
    refine XS.goto X0.here hx rfl (pc0 := 23) (pc' := 40) rfl (hb hby at_23) (by decide) (by decide) ?_
    show Steps p.tables e below (T0.setTop (mkF m 40 #[s0, s1, s2, s3, s4, s5, .val (.int i6), s7, s8, s9, s10, s11, s12, s13, s14, s15, s16] [(.int (65536 : Int32))])) _
    refine XS.istore X0.here hx rfl (hb hby at_40) rfl (l' := #[s0, s1, s2, s3, s4, s5, .val (.int i6), .val (.int (65536 : Int32)), s8, s9, s10, s11, s12, s13, s14, s15, s16]) (os0_40 hs7) ?_
    have ev : own_size i6 = (65536 : Int32) := by unfold own_size; rw [if_pos hc18]
    rw [ev] at kt
    exact kt
  · refine XS.icmpYes X0.here hx rfl (pc0 := 18) (pc' := 26) rfl (hb hby at_18) rfl (flt hc18).2.1 (by decide) (by decide) ?_
    show Steps p.tables e below (T0.setTop (mkF m 26 #[s0, s1, s2, s3, s4, s5, .val (.int i6), s7, s8, s9, s10, s11, s12, s13, s14, s15, s16] [])) _
    refine XS.iload X0.here hx rfl (hb hby at_26) rfl ?_
    show Steps p.tables e below (T0.setTop (mkF m 28 #[s0, s1, s2, s3, s4, s5, .val (.int i6), s7, s8, s9, s10, s11, s12, s13, s14, s15, s16] [(.int i6)])) _
    refine X0.ldcInt hx hown (mvT hZ (hw _ (List.mem_of_getElem? (i := 40) rfl))) (g := (mkF m 28 #[s0, s1, s2, s3, s4, s5, .val (.int i6), s7, s8, s9, s10, s11, s12, s13, s14, s15, s16] [(.int i6)])) rfl (hb hby at_28) _ ?_
    show Steps p.tables e below (T0.setTop (mkF m 30 #[s0, s1, s2, s3, s4, s5, .val (.int i6), s7, s8, s9, s10, s11, s12, s13, s14, s15, s16] [(.int (262144 : Int32)), (.int i6)])) _
    by_cases hc30 : i6 < (262144 : Int32)
    · refine XS.icmpNo X0.here hx rfl (hb hby at_30) rfl (tlt hc30).2.1 ?_
      show Steps p.tables e below (T0.setTop (mkF m 33 #[s0, s1, s2, s3, s4, s5, .val (.int i6), s7, s8, s9, s10, s11, s12, s13, s14, s15, s16] [])) _
      refine X0.ldcInt hx hown (mvT hZ (hw _ (List.mem_of_getElem? (i := 0) rfl))) (g := (mkF m 33 #[s0, s1, s2, s3, s4, s5, .val (.int i6), s7, s8, s9, s10, s11, s12, s13, s14, s15, s16] [])) rfl (hb hby at_33) _ ?_
      show Steps p.tables e below (T0.setTop (mkF m 35 #[s0, s1, s2, s3, s4, s5, .val (.int i6), s7, s8, s9, s10, s11, s12, s13, s14, s15, s16] [(.int (131072 : Int32))])) _
      refine XS.goto X0.here hx rfl (pc0 := 35) (pc' := 40) rfl (hb hby at_35) (by decide) (by decide) ?_
      show Steps p.tables e below (T0.setTop (mkF m 40 #[s0, s1, s2, s3, s4, s5, .val (.int i6), s7, s8, s9, s10, s11, s12, s13, s14, s15, s16] [(.int (131072 : Int32))])) _
      refine XS.istore X0.here hx rfl (hb hby at_40) rfl (l' := #[s0, s1, s2, s3, s4, s5, .val (.int i6), .val (.int (131072 : Int32)), s8, s9, s10, s11, s12, s13, s14, s15, s16]) (os0_40 hs7) ?_
      have ev : own_size i6 = (131072 : Int32) := by unfold own_size; rw [if_neg hc18, if_pos hc30]
      rw [ev] at kt
      exact kt
    · refine XS.icmpYes X0.here hx rfl (pc0 := 30) (pc' := 38) rfl (hb hby at_30) rfl (flt hc30).2.1 (by decide) (by decide) ?_
      show Steps p.tables e below (T0.setTop (mkF m 38 #[s0, s1, s2, s3, s4, s5, .val (.int i6), s7, s8, s9, s10, s11, s12, s13, s14, s15, s16] [])) _
      refine X0.ldcInt hx hown (mvT hZ (hw _ (List.mem_of_getElem? (i := 40) rfl))) (g := (mkF m 38 #[s0, s1, s2, s3, s4, s5, .val (.int i6), s7, s8, s9, s10, s11, s12, s13, s14, s15, s16] [])) rfl (hb hby at_38) _ ?_
      show Steps p.tables e below (T0.setTop (mkF m 40 #[s0, s1, s2, s3, s4, s5, .val (.int i6), s7, s8, s9, s10, s11, s12, s13, s14, s15, s16] [(.int (262144 : Int32))])) _
      refine XS.istore X0.here hx rfl (hb hby at_40) rfl (l' := #[s0, s1, s2, s3, s4, s5, .val (.int i6), .val (.int (262144 : Int32)), s8, s9, s10, s11, s12, s13, s14, s15, s16]) (os0_40 hs7) ?_
      have ev : own_size i6 = (262144 : Int32) := by unfold own_size; rw [if_neg hc18, if_neg hc30]
      rw [ev] at kt
      exact kt
set_option maxRecDepth 65536 in
set_option maxHeartbeats 40000000 in
theorem tn0_51_75 {p : Program} {l : Launch} {e : Env} {R : Room} {s : State} {m : MethodId} {args : Array Value} {below : List Frame} {meth : Method} {c : Code} {T0 : State} {locs : List Loc} {cells slots : Nat} {Z : State} {a0 : Array Value} {h0 : Heap} (s0 : Slot) (i1 : Int32) (s2 : Slot) (s3 : Slot) (i4 : Int32) (s5 : Slot) (s6 : Slot) (s7 : Slot) (s8 : Slot) (i9 : Int32) (s10 : Slot) (s11 : Slot) (s12 : Slot) (s13 : Slot) (s14 : Slot) (s15 : Slot) (s16 : Slot)
    (X0 : Stand p l e R s m args below meth c T0 locs cells slots) (hx : p.tables.exec = Jvm.exec) (hZ : Z.Warmed39 s.vm) (hw : ∀ d ∈ tables_1, d.before a0 Z = true) (hby : c.code = code) (hml : c.maxLocals = 17) (hown : s.vm.findClass "com/example/knit6/knit6/patch/HashFilterAddPinLaw" = some m.cls) (e0 : T0.heap = h0) :
    ∀ target, Steps p.tables e below (T0.setTop (mkF m 75 #[s0, .val (.int i1), s2, s3, .val (.int i4), s5, s6, s7, s8, .val (.int (own_hb i1 i4 i9)), s10, s11, s12, s13, s14, s15, s16] [])) target → Steps p.tables e below (T0.setTop (mkF m 51 #[s0, .val (.int i1), s2, s3, .val (.int i4), s5, s6, s7, s8, .val (.int i9), s10, s11, s12, s13, s14, s15, s16] [])) target := by
  intro target kt
  show Steps p.tables e below (T0.setTop (mkF m 51 #[s0, .val (.int i1), s2, s3, .val (.int i4), s5, s6, s7, s8, .val (.int i9), s10, s11, s12, s13, s14, s15, s16] [])) _
  refine XS.iload X0.here hx rfl (hb hby at_51) rfl ?_
  show Steps p.tables e below (T0.setTop (mkF m 53 #[s0, .val (.int i1), s2, s3, .val (.int i4), s5, s6, s7, s8, .val (.int i9), s10, s11, s12, s13, s14, s15, s16] [(.int i4)])) _
  refine XS.bipush X0.here hx rfl (hb hby at_53) ?_
  show Steps p.tables e below (T0.setTop (mkF m 55 #[s0, .val (.int i1), s2, s3, .val (.int i4), s5, s6, s7, s8, .val (.int i9), s10, s11, s12, s13, s14, s15, s16] [(.int (7 : Int32)), (.int i4)])) _
  refine XS.iushr X0.here hx rfl (hb hby at_55) rfl ?_
  show Steps p.tables e below (T0.setTop (mkF m 56 #[s0, .val (.int i1), s2, s3, .val (.int i4), s5, s6, s7, s8, .val (.int i9), s10, s11, s12, s13, s14, s15, s16] [(.int ((i4.toUInt32 >>> ((7 : Int32) &&& 31).toUInt32).toInt32))])) _
  refine XS.iconst X0.here hx rfl (hb hby at_56) ?_
  show Steps p.tables e below (T0.setTop (mkF m 57 #[s0, .val (.int i1), s2, s3, .val (.int i4), s5, s6, s7, s8, .val (.int i9), s10, s11, s12, s13, s14, s15, s16] [(.int (1 : Int32)), (.int ((i4.toUInt32 >>> ((7 : Int32) &&& 31).toUInt32).toInt32))])) _
  refine XS.iand X0.here hx rfl (hb hby at_57) rfl ?_
  show Steps p.tables e below (T0.setTop (mkF m 58 #[s0, .val (.int i1), s2, s3, .val (.int i4), s5, s6, s7, s8, .val (.int i9), s10, s11, s12, s13, s14, s15, s16] [(.int (((i4.toUInt32 >>> ((7 : Int32) &&& 31).toUInt32).toInt32) &&& (1 : Int32)))])) _
  by_cases hc58 : (((i4.toUInt32 >>> ((7 : Int32) &&& 31).toUInt32).toInt32) &&& (1 : Int32)) = (0 : Int32)
  · refine XS.ifYes X0.here hx rfl (pc0 := 58) (pc' := 75) rfl (hb hby at_58) rfl ((if0 _ _).trans (teq hc58).1) (by decide) (by decide) ?_
    have ev : own_hb i1 i4 i9 = i9 := if_pos hc58
    rw [ev] at kt
    exact kt
  · refine XS.ifNo X0.here hx rfl (hb hby at_58) rfl ((if0 _ _).trans (feq hc58).1) ?_
    show Steps p.tables e below (T0.setTop (mkF m 61 #[s0, .val (.int i1), s2, s3, .val (.int i4), s5, s6, s7, s8, .val (.int i9), s10, s11, s12, s13, s14, s15, s16] [])) _
    refine XS.iloadN X0.here hx rfl (hb hby at_61) rfl ?_
    show Steps p.tables e below (T0.setTop (mkF m 62 #[s0, .val (.int i1), s2, s3, .val (.int i4), s5, s6, s7, s8, .val (.int i9), s10, s11, s12, s13, s14, s15, s16] [(.int i1)])) _
    refine XS.iconst X0.here hx rfl (hb hby at_62) ?_
    show Steps p.tables e below (T0.setTop (mkF m 63 #[s0, .val (.int i1), s2, s3, .val (.int i4), s5, s6, s7, s8, .val (.int i9), s10, s11, s12, s13, s14, s15, s16] [(.int (1 : Int32)), (.int i1)])) _
    refine XS.iload X0.here hx rfl (hb hby at_63) rfl ?_
    show Steps p.tables e below (T0.setTop (mkF m 65 #[s0, .val (.int i1), s2, s3, .val (.int i4), s5, s6, s7, s8, .val (.int i9), s10, s11, s12, s13, s14, s15, s16] [(.int i4), (.int (1 : Int32)), (.int i1)])) _
    refine XS.bipush X0.here hx rfl (hb hby at_65) ?_
    show Steps p.tables e below (T0.setTop (mkF m 67 #[s0, .val (.int i1), s2, s3, .val (.int i4), s5, s6, s7, s8, .val (.int i9), s10, s11, s12, s13, s14, s15, s16] [(.int (8 : Int32)), (.int i4), (.int (1 : Int32)), (.int i1)])) _
    refine XS.iushr X0.here hx rfl (hb hby at_67) rfl ?_
    show Steps p.tables e below (T0.setTop (mkF m 68 #[s0, .val (.int i1), s2, s3, .val (.int i4), s5, s6, s7, s8, .val (.int i9), s10, s11, s12, s13, s14, s15, s16] [(.int ((i4.toUInt32 >>> ((8 : Int32) &&& 31).toUInt32).toInt32)), (.int (1 : Int32)), (.int i1)])) _
    refine XS.bipush X0.here hx rfl (hb hby at_68) ?_
    show Steps p.tables e below (T0.setTop (mkF m 70 #[s0, .val (.int i1), s2, s3, .val (.int i4), s5, s6, s7, s8, .val (.int i9), s10, s11, s12, s13, s14, s15, s16] [(.int (31 : Int32)), (.int ((i4.toUInt32 >>> ((8 : Int32) &&& 31).toUInt32).toInt32)), (.int (1 : Int32)), (.int i1)])) _
    refine XS.iand X0.here hx rfl (hb hby at_70) rfl ?_
    show Steps p.tables e below (T0.setTop (mkF m 71 #[s0, .val (.int i1), s2, s3, .val (.int i4), s5, s6, s7, s8, .val (.int i9), s10, s11, s12, s13, s14, s15, s16] [(.int (((i4.toUInt32 >>> ((8 : Int32) &&& 31).toUInt32).toInt32) &&& (31 : Int32))), (.int (1 : Int32)), (.int i1)])) _
    refine XS.ishl X0.here hx rfl (hb hby at_71) rfl ?_
    show Steps p.tables e below (T0.setTop (mkF m 72 #[s0, .val (.int i1), s2, s3, .val (.int i4), s5, s6, s7, s8, .val (.int i9), s10, s11, s12, s13, s14, s15, s16] [(.int ((1 : Int32) <<< ((((i4.toUInt32 >>> ((8 : Int32) &&& 31).toUInt32).toInt32) &&& (31 : Int32)) &&& 31))), (.int i1)])) _
    refine XS.ixor X0.here hx rfl (hb hby at_72) rfl ?_
    show Steps p.tables e below (T0.setTop (mkF m 73 #[s0, .val (.int i1), s2, s3, .val (.int i4), s5, s6, s7, s8, .val (.int i9), s10, s11, s12, s13, s14, s15, s16] [(.int (i1 ^^^ ((1 : Int32) <<< ((((i4.toUInt32 >>> ((8 : Int32) &&& 31).toUInt32).toInt32) &&& (31 : Int32)) &&& 31))))])) _
    refine XS.istore X0.here hx rfl (hb hby at_73) rfl (l' := #[s0, .val (.int i1), s2, s3, .val (.int i4), s5, s6, s7, s8, .val (.int (i1 ^^^ ((1 : Int32) <<< ((((i4.toUInt32 >>> ((8 : Int32) &&& 31).toUInt32).toInt32) &&& (31 : Int32)) &&& 31)))), s10, s11, s12, s13, s14, s15, s16]) rfl ?_
    have ev : own_hb i1 i4 i9 = (i1 ^^^ ((1 : Int32) <<< ((((i4.toUInt32 >>> ((8 : Int32) &&& 31).toUInt32).toInt32) &&& (31 : Int32)) &&& 31))) := if_neg hc58
    rw [ev] at kt
    exact kt
set_option maxRecDepth 65536 in
set_option maxHeartbeats 40000000 in
theorem tn0_84_128 {p : Program} {l : Launch} {e : Env} {R : Room} {s : State} {m : MethodId} {args : Array Value} {below : List Frame} {meth : Method} {c : Code} {T0 : State} {locs : List Loc} {cells slots : Nat} {Z : State} {a0 : Array Value} {h0 : Heap} (s0 : Slot) (i1 : Int32) (s2 : Slot) (s3 : Slot) (i4 : Int32) (s5 : Slot) (s6 : Slot) (s7 : Slot) (s8 : Slot) (i9 : Int32) (i10 : Int32) (i11 : Int32) (s12 : Slot) (s13 : Slot) (s14 : Slot) (s15 : Slot) (s16 : Slot)
    (X0 : Stand p l e R s m args below meth c T0 locs cells slots) (hx : p.tables.exec = Jvm.exec) (hZ : Z.Warmed39 s.vm) (hw : ∀ d ∈ tables_1, d.before a0 Z = true) (hby : c.code = code) (hml : c.maxLocals = 17) (hown : s.vm.findClass "com/example/knit6/knit6/patch/HashFilterAddPinLaw" = some m.cls) (e0 : T0.heap = h0) :
    ∀ target, Steps p.tables e below (T0.setTop (mkF m 128 #[s0, .val (.int i1), s2, s3, .val (.int i4), s5, s6, s7, s8, .val (.int i9), .val (.int (own_qq i1 i4 i9 i10 i11)), .val (.int i11), s12, s13, s14, s15, s16] [])) target → Steps p.tables e below (T0.setTop (mkF m 84 #[s0, .val (.int i1), s2, s3, .val (.int i4), s5, s6, s7, s8, .val (.int i9), .val (.int i10), .val (.int i11), s12, s13, s14, s15, s16] [])) target := by
  intro target kt
  show Steps p.tables e below (T0.setTop (mkF m 84 #[s0, .val (.int i1), s2, s3, .val (.int i4), s5, s6, s7, s8, .val (.int i9), .val (.int i10), .val (.int i11), s12, s13, s14, s15, s16] [])) _
  refine XS.iload X0.here hx rfl (hb hby at_84) rfl ?_
  show Steps p.tables e below (T0.setTop (mkF m 86 #[s0, .val (.int i1), s2, s3, .val (.int i4), s5, s6, s7, s8, .val (.int i9), .val (.int i10), .val (.int i11), s12, s13, s14, s15, s16] [(.int i11)])) _
  refine XS.iconst X0.here hx rfl (hb hby at_86) ?_
  show Steps p.tables e below (T0.setTop (mkF m 87 #[s0, .val (.int i1), s2, s3, .val (.int i4), s5, s6, s7, s8, .val (.int i9), .val (.int i10), .val (.int i11), s12, s13, s14, s15, s16] [(.int (1 : Int32)), (.int i11)])) _
  by_cases hc87 : i11 = (1 : Int32)
  · refine XS.icmpNo X0.here hx rfl (hb hby at_87) rfl (teq hc87).2 ?_
    show Steps p.tables e below (T0.setTop (mkF m 90 #[s0, .val (.int i1), s2, s3, .val (.int i4), s5, s6, s7, s8, .val (.int i9), .val (.int i10), .val (.int i11), s12, s13, s14, s15, s16] [])) _
    refine XS.iloadN X0.here hx rfl (hb hby at_90) rfl ?_
    show Steps p.tables e below (T0.setTop (mkF m 91 #[s0, .val (.int i1), s2, s3, .val (.int i4), s5, s6, s7, s8, .val (.int i9), .val (.int i10), .val (.int i11), s12, s13, s14, s15, s16] [(.int i1)])) _
    refine XS.iconst X0.here hx rfl (hb hby at_91) ?_
    show Steps p.tables e below (T0.setTop (mkF m 92 #[s0, .val (.int i1), s2, s3, .val (.int i4), s5, s6, s7, s8, .val (.int i9), .val (.int i10), .val (.int i11), s12, s13, s14, s15, s16] [(.int (1 : Int32)), (.int i1)])) _
    refine XS.iload X0.here hx rfl (hb hby at_92) rfl ?_
    show Steps p.tables e below (T0.setTop (mkF m 94 #[s0, .val (.int i1), s2, s3, .val (.int i4), s5, s6, s7, s8, .val (.int i9), .val (.int i10), .val (.int i11), s12, s13, s14, s15, s16] [(.int i4), (.int (1 : Int32)), (.int i1)])) _
    refine XS.iconst X0.here hx rfl (hb hby at_94) ?_
    show Steps p.tables e below (T0.setTop (mkF m 95 #[s0, .val (.int i1), s2, s3, .val (.int i4), s5, s6, s7, s8, .val (.int i9), .val (.int i10), .val (.int i11), s12, s13, s14, s15, s16] [(.int (2 : Int32)), (.int i4), (.int (1 : Int32)), (.int i1)])) _
    refine XS.iushr X0.here hx rfl (hb hby at_95) rfl ?_
    show Steps p.tables e below (T0.setTop (mkF m 96 #[s0, .val (.int i1), s2, s3, .val (.int i4), s5, s6, s7, s8, .val (.int i9), .val (.int i10), .val (.int i11), s12, s13, s14, s15, s16] [(.int ((i4.toUInt32 >>> ((2 : Int32) &&& 31).toUInt32).toInt32)), (.int (1 : Int32)), (.int i1)])) _
    refine XS.bipush X0.here hx rfl (hb hby at_96) ?_
    show Steps p.tables e below (T0.setTop (mkF m 98 #[s0, .val (.int i1), s2, s3, .val (.int i4), s5, s6, s7, s8, .val (.int i9), .val (.int i10), .val (.int i11), s12, s13, s14, s15, s16] [(.int (31 : Int32)), (.int ((i4.toUInt32 >>> ((2 : Int32) &&& 31).toUInt32).toInt32)), (.int (1 : Int32)), (.int i1)])) _
    refine XS.iand X0.here hx rfl (hb hby at_98) rfl ?_
    show Steps p.tables e below (T0.setTop (mkF m 99 #[s0, .val (.int i1), s2, s3, .val (.int i4), s5, s6, s7, s8, .val (.int i9), .val (.int i10), .val (.int i11), s12, s13, s14, s15, s16] [(.int (((i4.toUInt32 >>> ((2 : Int32) &&& 31).toUInt32).toInt32) &&& (31 : Int32))), (.int (1 : Int32)), (.int i1)])) _
    refine XS.ishl X0.here hx rfl (hb hby at_99) rfl ?_
    show Steps p.tables e below (T0.setTop (mkF m 100 #[s0, .val (.int i1), s2, s3, .val (.int i4), s5, s6, s7, s8, .val (.int i9), .val (.int i10), .val (.int i11), s12, s13, s14, s15, s16] [(.int ((1 : Int32) <<< ((((i4.toUInt32 >>> ((2 : Int32) &&& 31).toUInt32).toInt32) &&& (31 : Int32)) &&& 31))), (.int i1)])) _
    refine XS.ixor X0.here hx rfl (hb hby at_100) rfl ?_
    show Steps p.tables e below (T0.setTop (mkF m 101 #[s0, .val (.int i1), s2, s3, .val (.int i4), s5, s6, s7, s8, .val (.int i9), .val (.int i10), .val (.int i11), s12, s13, s14, s15, s16] [(.int (i1 ^^^ ((1 : Int32) <<< ((((i4.toUInt32 >>> ((2 : Int32) &&& 31).toUInt32).toInt32) &&& (31 : Int32)) &&& 31))))])) _
    refine XS.istore X0.here hx rfl (hb hby at_101) rfl (l' := #[s0, .val (.int i1), s2, s3, .val (.int i4), s5, s6, s7, s8, .val (.int i9), .val (.int (i1 ^^^ ((1 : Int32) <<< ((((i4.toUInt32 >>> ((2 : Int32) &&& 31).toUInt32).toInt32) &&& (31 : Int32)) &&& 31)))), .val (.int i11), s12, s13, s14, s15, s16]) rfl ?_
    show Steps p.tables e below (T0.setTop (mkF m 103 #[s0, .val (.int i1), s2, s3, .val (.int i4), s5, s6, s7, s8, .val (.int i9), .val (.int (i1 ^^^ ((1 : Int32) <<< ((((i4.toUInt32 >>> ((2 : Int32) &&& 31).toUInt32).toInt32) &&& (31 : Int32)) &&& 31)))), .val (.int i11), s12, s13, s14, s15, s16] [])) _
    refine XS.goto X0.here hx rfl (pc0 := 103) (pc' := 128) rfl (hb hby at_103) (by decide) (by decide) ?_
    have ev : own_qq i1 i4 i9 i10 i11 = (i1 ^^^ ((1 : Int32) <<< ((((i4.toUInt32 >>> ((2 : Int32) &&& 31).toUInt32).toInt32) &&& (31 : Int32)) &&& 31))) := by unfold own_qq; rw [if_pos hc87]
    rw [ev] at kt
    exact kt
  · refine XS.icmpYes X0.here hx rfl (pc0 := 87) (pc' := 106) rfl (hb hby at_87) rfl (feq hc87).2 (by decide) (by decide) ?_
    show Steps p.tables e below (T0.setTop (mkF m 106 #[s0, .val (.int i1), s2, s3, .val (.int i4), s5, s6, s7, s8, .val (.int i9), .val (.int i10), .val (.int i11), s12, s13, s14, s15, s16] [])) _
    refine XS.iload X0.here hx rfl (hb hby at_106) rfl ?_
    show Steps p.tables e below (T0.setTop (mkF m 108 #[s0, .val (.int i1), s2, s3, .val (.int i4), s5, s6, s7, s8, .val (.int i9), .val (.int i10), .val (.int i11), s12, s13, s14, s15, s16] [(.int i11)])) _
    refine XS.iconst X0.here hx rfl (hb hby at_108) ?_
    show Steps p.tables e below (T0.setTop (mkF m 109 #[s0, .val (.int i1), s2, s3, .val (.int i4), s5, s6, s7, s8, .val (.int i9), .val (.int i10), .val (.int i11), s12, s13, s14, s15, s16] [(.int (2 : Int32)), (.int i11)])) _
    by_cases hc109 : i11 = (2 : Int32)
    · refine XS.icmpNo X0.here hx rfl (hb hby at_109) rfl (teq hc109).2 ?_
      show Steps p.tables e below (T0.setTop (mkF m 112 #[s0, .val (.int i1), s2, s3, .val (.int i4), s5, s6, s7, s8, .val (.int i9), .val (.int i10), .val (.int i11), s12, s13, s14, s15, s16] [])) _
      refine XS.iload X0.here hx rfl (hb hby at_112) rfl ?_
      show Steps p.tables e below (T0.setTop (mkF m 114 #[s0, .val (.int i1), s2, s3, .val (.int i4), s5, s6, s7, s8, .val (.int i9), .val (.int i10), .val (.int i11), s12, s13, s14, s15, s16] [(.int i9)])) _
      refine XS.istore X0.here hx rfl (hb hby at_114) rfl (l' := #[s0, .val (.int i1), s2, s3, .val (.int i4), s5, s6, s7, s8, .val (.int i9), .val (.int i9), .val (.int i11), s12, s13, s14, s15, s16]) rfl ?_
      show Steps p.tables e below (T0.setTop (mkF m 116 #[s0, .val (.int i1), s2, s3, .val (.int i4), s5, s6, s7, s8, .val (.int i9), .val (.int i9), .val (.int i11), s12, s13, s14, s15, s16] [])) _
      refine XS.goto X0.here hx rfl (pc0 := 116) (pc' := 128) rfl (hb hby at_116) (by decide) (by decide) ?_
      have ev : own_qq i1 i4 i9 i10 i11 = i9 := by unfold own_qq; rw [if_neg hc87, if_pos hc109]
      rw [ev] at kt
      exact kt
    · refine XS.icmpYes X0.here hx rfl (pc0 := 109) (pc' := 119) rfl (hb hby at_109) rfl (feq hc109).2 (by decide) (by decide) ?_
      show Steps p.tables e below (T0.setTop (mkF m 119 #[s0, .val (.int i1), s2, s3, .val (.int i4), s5, s6, s7, s8, .val (.int i9), .val (.int i10), .val (.int i11), s12, s13, s14, s15, s16] [])) _
      refine XS.iload X0.here hx rfl (hb hby at_119) rfl ?_
      show Steps p.tables e below (T0.setTop (mkF m 121 #[s0, .val (.int i1), s2, s3, .val (.int i4), s5, s6, s7, s8, .val (.int i9), .val (.int i10), .val (.int i11), s12, s13, s14, s15, s16] [(.int i11)])) _
      refine XS.iconst X0.here hx rfl (hb hby at_121) ?_
      show Steps p.tables e below (T0.setTop (mkF m 122 #[s0, .val (.int i1), s2, s3, .val (.int i4), s5, s6, s7, s8, .val (.int i9), .val (.int i10), .val (.int i11), s12, s13, s14, s15, s16] [(.int (3 : Int32)), (.int i11)])) _
      by_cases hc122 : i11 = (3 : Int32)
      · refine XS.icmpNo X0.here hx rfl (hb hby at_122) rfl (teq hc122).2 ?_
        show Steps p.tables e below (T0.setTop (mkF m 125 #[s0, .val (.int i1), s2, s3, .val (.int i4), s5, s6, s7, s8, .val (.int i9), .val (.int i10), .val (.int i11), s12, s13, s14, s15, s16] [])) _
        refine XS.iloadN X0.here hx rfl (hb hby at_125) rfl ?_
        show Steps p.tables e below (T0.setTop (mkF m 126 #[s0, .val (.int i1), s2, s3, .val (.int i4), s5, s6, s7, s8, .val (.int i9), .val (.int i10), .val (.int i11), s12, s13, s14, s15, s16] [(.int i1)])) _
        refine XS.istore X0.here hx rfl (hb hby at_126) rfl (l' := #[s0, .val (.int i1), s2, s3, .val (.int i4), s5, s6, s7, s8, .val (.int i9), .val (.int i1), .val (.int i11), s12, s13, s14, s15, s16]) rfl ?_
        have ev : own_qq i1 i4 i9 i10 i11 = i1 := by unfold own_qq; rw [if_neg hc87, if_neg hc109, if_pos hc122]
        rw [ev] at kt
        exact kt
      · refine XS.icmpYes X0.here hx rfl (pc0 := 122) (pc' := 128) rfl (hb hby at_122) rfl (feq hc122).2 (by decide) (by decide) ?_
        have ev : own_qq i1 i4 i9 i10 i11 = i10 := by unfold own_qq; rw [if_neg hc87, if_neg hc109, if_neg hc122]
        rw [ev] at kt
        exact kt
theorem os0_216 {s0 : Slot} {z1 : Value} {s2 : Slot} {s3 : Slot} {s4 : Slot} {s5 : Slot} {s6 : Slot} {s7 : Slot} {z8 : Value} {z9 : Value} {z10 : Value} {s11 : Slot} {s12 : Slot} {s13 : Slot} {s14 : Slot} {s15 : Slot} {s16 : Slot} {v : Int32} (h : One s16) : storeLocals #[s0, .val z1, s2, s3, s4, s5, s6, s7, .val z8, .val z9, .val z10, s11, s12, s13, s14, s15, s16] 16 (.int v) = some #[s0, .val z1, s2, s3, s4, s5, s6, s7, .val z8, .val z9, .val z10, s11, s12, s13, s14, s15, .val (.int v)] := by
  rcases h with rfl | ⟨w, rfl, hw⟩
  · rfl
  · cases w <;> first | rfl | (simp [Value.category] at hw)
set_option maxRecDepth 65536 in
set_option maxHeartbeats 40000000 in
theorem tn0_186_218 {p : Program} {l : Launch} {e : Env} {R : Room} {s : State} {m : MethodId} {args : Array Value} {below : List Frame} {meth : Method} {c : Code} {T0 : State} {locs : List Loc} {cells slots : Nat} {Z : State} {a0 : Array Value} {h0 : Heap} (s0 : Slot) (i1 : Int32) (s2 : Slot) (s3 : Slot) (s4 : Slot) (s5 : Slot) (s6 : Slot) (s7 : Slot) (i8 : Int32) (i9 : Int32) (i10 : Int32) (s11 : Slot) (s12 : Slot) (s13 : Slot) (s14 : Slot) (s15 : Slot) (s16 : Slot)
    (X0 : Stand p l e R s m args below meth c T0 locs cells slots) (hx : p.tables.exec = Jvm.exec) (hZ : Z.Warmed39 s.vm) (hw : ∀ d ∈ tables_1, d.before a0 Z = true) (hby : c.code = code) (hml : c.maxLocals = 17) (hown : s.vm.findClass "com/example/knit6/knit6/patch/HashFilterAddPinLaw" = some m.cls) (e0 : T0.heap = h0) (hs16 : One s16) :
    ∀ target, Steps p.tables e below (T0.setTop (mkF m 218 #[s0, .val (.int i1), s2, s3, s4, s5, s6, s7, .val (.int i8), .val (.int i9), .val (.int i10), s11, s12, s13, s14, s15, .val (.int (own_ex i1 i8 i9 i10))] [])) target → Steps p.tables e below (T0.setTop (mkF m 186 #[s0, .val (.int i1), s2, s3, s4, s5, s6, s7, .val (.int i8), .val (.int i9), .val (.int i10), s11, s12, s13, s14, s15, s16] [])) target := by
  intro target kt
  show Steps p.tables e below (T0.setTop (mkF m 186 #[s0, .val (.int i1), s2, s3, s4, s5, s6, s7, .val (.int i8), .val (.int i9), .val (.int i10), s11, s12, s13, s14, s15, s16] [])) _
  refine XS.iload X0.here hx rfl (hb hby at_186) rfl ?_
  show Steps p.tables e below (T0.setTop (mkF m 188 #[s0, .val (.int i1), s2, s3, s4, s5, s6, s7, .val (.int i8), .val (.int i9), .val (.int i10), s11, s12, s13, s14, s15, s16] [(.int i10)])) _
  refine XS.iload X0.here hx rfl (hb hby at_188) rfl ?_
  show Steps p.tables e below (T0.setTop (mkF m 190 #[s0, .val (.int i1), s2, s3, s4, s5, s6, s7, .val (.int i8), .val (.int i9), .val (.int i10), s11, s12, s13, s14, s15, s16] [(.int i8), (.int i10)])) _
  refine XS.iand X0.here hx rfl (hb hby at_190) rfl ?_
  show Steps p.tables e below (T0.setTop (mkF m 191 #[s0, .val (.int i1), s2, s3, s4, s5, s6, s7, .val (.int i8), .val (.int i9), .val (.int i10), s11, s12, s13, s14, s15, s16] [(.int (i10 &&& i8))])) _
  refine XS.iloadN X0.here hx rfl (hb hby at_191) rfl ?_
  show Steps p.tables e below (T0.setTop (mkF m 192 #[s0, .val (.int i1), s2, s3, s4, s5, s6, s7, .val (.int i8), .val (.int i9), .val (.int i10), s11, s12, s13, s14, s15, s16] [(.int i1), (.int (i10 &&& i8))])) _
  refine XS.iload X0.here hx rfl (hb hby at_192) rfl ?_
  show Steps p.tables e below (T0.setTop (mkF m 194 #[s0, .val (.int i1), s2, s3, s4, s5, s6, s7, .val (.int i8), .val (.int i9), .val (.int i10), s11, s12, s13, s14, s15, s16] [(.int i8), (.int i1), (.int (i10 &&& i8))])) _
  refine XS.iand X0.here hx rfl (hb hby at_194) rfl ?_
  show Steps p.tables e below (T0.setTop (mkF m 195 #[s0, .val (.int i1), s2, s3, s4, s5, s6, s7, .val (.int i8), .val (.int i9), .val (.int i10), s11, s12, s13, s14, s15, s16] [(.int (i1 &&& i8)), (.int (i10 &&& i8))])) _
  by_cases hc195 : (i10 &&& i8) = (i1 &&& i8)
  · refine XS.icmpYes X0.here hx rfl (pc0 := 195) (pc' := 211) rfl (hb hby at_195) rfl (teq hc195).1 (by decide) (by decide) ?_
    show Steps p.tables e below (T0.setTop (mkF m 211 #[s0, .val (.int i1), s2, s3, s4, s5, s6, s7, .val (.int i8), .val (.int i9), .val (.int i10), s11, s12, s13, s14, s15, s16] [])) _
    refine XS.iconst X0.here hx rfl (hb hby at_211) ?_
    show Steps p.tables e below (T0.setTop (mkF m 212 #[s0, .val (.int i1), s2, s3, s4, s5, s6, s7, .val (.int i8), .val (.int i9), .val (.int i10), s11, s12, s13, s14, s15, s16] [(.int (1 : Int32))])) _
    refine XS.goto X0.here hx rfl (pc0 := 212) (pc' := 216) rfl (hb hby at_212) (by decide) (by decide) ?_
    show Steps p.tables e below (T0.setTop (mkF m 216 #[s0, .val (.int i1), s2, s3, s4, s5, s6, s7, .val (.int i8), .val (.int i9), .val (.int i10), s11, s12, s13, s14, s15, s16] [(.int (1 : Int32))])) _
    refine XS.istore X0.here hx rfl (hb hby at_216) rfl (l' := #[s0, .val (.int i1), s2, s3, s4, s5, s6, s7, .val (.int i8), .val (.int i9), .val (.int i10), s11, s12, s13, s14, s15, .val (.int (1 : Int32))]) (os0_216 hs16) ?_
    have ev : own_ex i1 i8 i9 i10 = (1 : Int32) := by unfold own_ex; rw [if_pos hc195]
    rw [ev] at kt
    exact kt
  · refine XS.icmpNo X0.here hx rfl (hb hby at_195) rfl (feq hc195).1 ?_
    show Steps p.tables e below (T0.setTop (mkF m 198 #[s0, .val (.int i1), s2, s3, s4, s5, s6, s7, .val (.int i8), .val (.int i9), .val (.int i10), s11, s12, s13, s14, s15, s16] [])) _
    refine XS.iload X0.here hx rfl (hb hby at_198) rfl ?_
    show Steps p.tables e below (T0.setTop (mkF m 200 #[s0, .val (.int i1), s2, s3, s4, s5, s6, s7, .val (.int i8), .val (.int i9), .val (.int i10), s11, s12, s13, s14, s15, s16] [(.int i10)])) _
    refine XS.iload X0.here hx rfl (hb hby at_200) rfl ?_
    show Steps p.tables e below (T0.setTop (mkF m 202 #[s0, .val (.int i1), s2, s3, s4, s5, s6, s7, .val (.int i8), .val (.int i9), .val (.int i10), s11, s12, s13, s14, s15, s16] [(.int i8), (.int i10)])) _
    refine XS.iand X0.here hx rfl (hb hby at_202) rfl ?_
    show Steps p.tables e below (T0.setTop (mkF m 203 #[s0, .val (.int i1), s2, s3, s4, s5, s6, s7, .val (.int i8), .val (.int i9), .val (.int i10), s11, s12, s13, s14, s15, s16] [(.int (i10 &&& i8))])) _
    refine XS.iload X0.here hx rfl (hb hby at_203) rfl ?_
    show Steps p.tables e below (T0.setTop (mkF m 205 #[s0, .val (.int i1), s2, s3, s4, s5, s6, s7, .val (.int i8), .val (.int i9), .val (.int i10), s11, s12, s13, s14, s15, s16] [(.int i9), (.int (i10 &&& i8))])) _
    refine XS.iload X0.here hx rfl (hb hby at_205) rfl ?_
    show Steps p.tables e below (T0.setTop (mkF m 207 #[s0, .val (.int i1), s2, s3, s4, s5, s6, s7, .val (.int i8), .val (.int i9), .val (.int i10), s11, s12, s13, s14, s15, s16] [(.int i8), (.int i9), (.int (i10 &&& i8))])) _
    refine XS.iand X0.here hx rfl (hb hby at_207) rfl ?_
    show Steps p.tables e below (T0.setTop (mkF m 208 #[s0, .val (.int i1), s2, s3, s4, s5, s6, s7, .val (.int i8), .val (.int i9), .val (.int i10), s11, s12, s13, s14, s15, s16] [(.int (i9 &&& i8)), (.int (i10 &&& i8))])) _
    by_cases hc208 : (i10 &&& i8) = (i9 &&& i8)
    · refine XS.icmpNo X0.here hx rfl (hb hby at_208) rfl (teq hc208).2 ?_
      show Steps p.tables e below (T0.setTop (mkF m 211 #[s0, .val (.int i1), s2, s3, s4, s5, s6, s7, .val (.int i8), .val (.int i9), .val (.int i10), s11, s12, s13, s14, s15, s16] [])) _
      refine XS.iconst X0.here hx rfl (hb hby at_211) ?_
      show Steps p.tables e below (T0.setTop (mkF m 212 #[s0, .val (.int i1), s2, s3, s4, s5, s6, s7, .val (.int i8), .val (.int i9), .val (.int i10), s11, s12, s13, s14, s15, s16] [(.int (1 : Int32))])) _
      refine XS.goto X0.here hx rfl (pc0 := 212) (pc' := 216) rfl (hb hby at_212) (by decide) (by decide) ?_
      show Steps p.tables e below (T0.setTop (mkF m 216 #[s0, .val (.int i1), s2, s3, s4, s5, s6, s7, .val (.int i8), .val (.int i9), .val (.int i10), s11, s12, s13, s14, s15, s16] [(.int (1 : Int32))])) _
      refine XS.istore X0.here hx rfl (hb hby at_216) rfl (l' := #[s0, .val (.int i1), s2, s3, s4, s5, s6, s7, .val (.int i8), .val (.int i9), .val (.int i10), s11, s12, s13, s14, s15, .val (.int (1 : Int32))]) (os0_216 hs16) ?_
      have ev : own_ex i1 i8 i9 i10 = (1 : Int32) := by unfold own_ex; rw [if_neg hc195, if_pos hc208]
      rw [ev] at kt
      exact kt
    · refine XS.icmpYes X0.here hx rfl (pc0 := 208) (pc' := 215) rfl (hb hby at_208) rfl (feq hc208).2 (by decide) (by decide) ?_
      show Steps p.tables e below (T0.setTop (mkF m 215 #[s0, .val (.int i1), s2, s3, s4, s5, s6, s7, .val (.int i8), .val (.int i9), .val (.int i10), s11, s12, s13, s14, s15, s16] [])) _
      refine XS.iconst X0.here hx rfl (hb hby at_215) ?_
      show Steps p.tables e below (T0.setTop (mkF m 216 #[s0, .val (.int i1), s2, s3, s4, s5, s6, s7, .val (.int i8), .val (.int i9), .val (.int i10), s11, s12, s13, s14, s15, s16] [(.int (0 : Int32))])) _
      refine XS.istore X0.here hx rfl (hb hby at_216) rfl (l' := #[s0, .val (.int i1), s2, s3, s4, s5, s6, s7, .val (.int i8), .val (.int i9), .val (.int i10), s11, s12, s13, s14, s15, .val (.int (0 : Int32))]) (os0_216 hs16) ?_
      have ev : own_ex i1 i8 i9 i10 = (0 : Int32) := by unfold own_ex; rw [if_neg hc195, if_neg hc208]
      rw [ev] at kt
      exact kt
theorem pn_0 : plainName "com/example/knit6/knit6/patch/HashFilterAddPinLaw" = true := by first | (simp [plainName, overriddenIn]; done) | decide +kernel
theorem pd_0_0 : parseMethodDescriptor "(I)V" = some ⟨[.int], none⟩ := by decide +kernel
theorem pd_0_4 : parseMethodDescriptor "(I)Z" = some ⟨[.int], some .boolean⟩ := by decide +kernel
theorem ef_0 (m : MethodId) (x0 : Int32) (x1 : Int32) (x2 : Int32) (x3 : Int32) (x4 : Int32) : entryFrame m #[(.int x0), (.int x1), (.int x2), (.int x3), (.int x4)] maxLocals = mkF m 0 #[.val (.int x0), .val (.int x1), .val (.int x2), .val (.int x3), .val (.int x4), .unset, .unset, .unset, .unset, .unset, .unset, .unset, .unset, .unset, .unset, .unset, .unset] [] := by first | (simp [entryFrame, mkF, argsToLocals, Value.category, maxLocals]; done) | rfl
def Q0 (Z : State) (p1 : Int32) (p2 : Int32) (p3 : Int32) (p4 : Int32) (p5 : Int32) (h0 : Heap) (n0 : Nat) (v : Option Value) (h : Heap) (L : List Loc) : Prop := v = some (.int (1 : Int32)) ∧ Fr n0 L
set_option maxRecDepth 65536 in
set_option maxHeartbeats 40000000 in
theorem rm0 (l : Launch) (Z : State) (a0 : Array Value) (hw : ∀ d ∈ tables_1, d.before a0 Z = true) (ws : List Jvm.Cond) (p1 : Int32) (p2 : Int32) (p3 : Int32) (p4 : Int32) (p5 : Int32) (h0 : Heap) (n0 : Nat) (Z0 : n0 ≤ h0.size) :
    MetFree l x (head1 (Jvm.Cond.code x code maxLocals ret :: ws) room_1) (fun a U => a = #[(.int p1), (.int p2), (.int p3), (.int p4), (.int p5)] ∧ Z.Warmed39 U.vm ∧ U.heap = h0) (fun _ _ _ _ _ => True) (fun _ U o U' => ∃ v L, o = .returned v ∧ Q0 Z p1 p2 p3 p4 p5 h0 n0 v U'.heap L ∧ FrameEnd U o U' L room_1.cells room_1.slots) := by
  refine MetFree.of_bodySF (plainFor_of_name pn_0) hisR ?_
  intro p e s m args below meth c s₁ Bd hml0 hP hK
  obtain ⟨rfl, hZ, hh⟩ := hP
  have hx := Bd.exec
  have hby := Bd.bytes
  have hml : c.maxLocals = 17 := hml0
  have hown : s.vm.findClass "com/example/knit6/knit6/patch/HashFilterAddPinLaw" = some m.cls := findClass_of_methodNamed Bd.named
  have hnm := (name_of_methodNamed Bd.named Bd.method).1
  have X0 : Stand p l e room_1 s m #[(.int p1), (.int p2), (.int p3), (.int p4), (.int p5)] below meth c s₁ [] 0 0 := Stand.of_body Bd
  have e0 : s₁.heap = h0 := by rw [← hh, Bd.state]; rfl
  have N0 := Fr.nil n0
  have pre0 : ∀ t, Steps p.tables e below (s₁.setTop (mkF m 0 #[.val (.int p1), .val (.int p2), .val (.int p3), .val (.int p4), .val (.int p5), .unset, .unset, .unset, .unset, .unset, .unset, .unset, .unset, .unset, .unset, .unset, .unset] [])) t → Steps p.tables e below (s₁.setTop (entryFrame m #[(.int p1), (.int p2), (.int p3), (.int p4), (.int p5)] maxLocals)) t := fun t k => castTop (ef_0 m p1 p2 p3 p4 p5) k
  have hcc := own_cc p1
  have hc146 : (own_hit (0 : Int64) ((own_qq p2 p5 (own_hb p2 p5 p3) p4 (p5 &&& (3 : Int32))) &&& ((own_sz (p1 &&& (8191 : Int32))) - (1 : Int32)))) = (0 : Int32) := own_hit0 _
  have hc220 : ¬ ((1 : Int32) = (0 : Int32)) := by decide
  have hc225 : ¬ ((own_hit (own_v2 (p2 &&& ((own_sz (p1 &&& (8191 : Int32))) - (1 : Int32))) ((own_hb p2 p5 p3) &&& ((own_sz (p1 &&& (8191 : Int32))) - (1 : Int32))) ((p2 &&& ((own_sz (p1 &&& (8191 : Int32))) - (1 : Int32))) / (64 : Int32))) (p2 &&& ((own_sz (p1 &&& (8191 : Int32))) - (1 : Int32)))) = (0 : Int32)) := by rw [own_held1 hcc]; decide
  have hc230 : ¬ ((own_hit (own_v2 (p2 &&& ((own_sz (p1 &&& (8191 : Int32))) - (1 : Int32))) ((own_hb p2 p5 p3) &&& ((own_sz (p1 &&& (8191 : Int32))) - (1 : Int32))) (((own_hb p2 p5 p3) &&& ((own_sz (p1 &&& (8191 : Int32))) - (1 : Int32))) / (64 : Int32))) ((own_hb p2 p5 p3) &&& ((own_sz (p1 &&& (8191 : Int32))) - (1 : Int32)))) = (0 : Int32)) := by rw [own_held2 hcc]; decide
  have hc242 : (own_hit (own_v2 (p2 &&& ((own_sz (p1 &&& (8191 : Int32))) - (1 : Int32))) ((own_hb p2 p5 p3) &&& ((own_sz (p1 &&& (8191 : Int32))) - (1 : Int32))) (((own_qq p2 p5 (own_hb p2 p5 p3) p4 (p5 &&& (3 : Int32))) &&& ((own_sz (p1 &&& (8191 : Int32))) - (1 : Int32))) / (64 : Int32))) ((own_qq p2 p5 (own_hb p2 p5 p3) p4 (p5 &&& (3 : Int32))) &&& ((own_sz (p1 &&& (8191 : Int32))) - (1 : Int32)))) = (own_ex p2 ((own_sz (p1 &&& (8191 : Int32))) - (1 : Int32)) (own_hb p2 p5 p3) (own_qq p2 p5 (own_hb p2 p5 p3) p4 (p5 &&& (3 : Int32)))) := own_expect hcc _ _ _
  -- 3. LAWS
  obtain ⟨T6, h6, X6, e6, E6, A6, D6, -, st6⟩ := newO X0 hx hZ hown (hw _ (List.mem_of_getElem? (i := 2) rfl)) (hw _ (List.mem_of_getElem? (i := 3) rfl)) (hw _ (List.mem_of_getElem? (i := 4) rfl)) e0 (g := (mkF m 128 #[.val (.int p1), .val (.int p2), .val (.int p3), .val (.int p4), .val (.int p5), .val (.int (p1 &&& (8191 : Int32))), .val (.int ((p1 &&& (8191 : Int32)) * (64 : Int32))), .val (.int (own_sz (p1 &&& (8191 : Int32)))), .val (.int ((own_sz (p1 &&& (8191 : Int32))) - (1 : Int32))), .val (.int (own_hb p2 p5 p3)), .val (.int (own_qq p2 p5 (own_hb p2 p5 p3) p4 (p5 &&& (3 : Int32)))), .val (.int (p5 &&& (3 : Int32))), .unset, .unset, .unset, .unset, .unset] [])) rfl (hb hby at_128) (by decide) (by decide)
  obtain ⟨b6, g6⟩ : ∃ z, z = h0.size := ⟨_, rfl⟩      -- the fresh object's address
  rw [← g6] at A6 D6 st6      -- A6 : Exa Z h6 b6 "com/example/knit6/knit6/patch/HashFilter"; E6 : Ext h0 h6 (carries every older fact: .ext E6)
  have F_bits_b6 : Fld Z h6 b6 "com/example/knit6/knit6/patch/HashFilter" "bits" "[J" .null := D6 (Or.inr (hw _ (List.mem_of_getElem? (i := 27) rfl))) (ty := (.array .long)) (by decide)
  have F_mask_b6 : Fld Z h6 b6 "com/example/knit6/knit6/patch/HashFilter" "mask" "I" (.int (0 : Int32)) := D6 (Or.inr (hw _ (List.mem_of_getElem? (i := 29) rfl))) (ty := .int) (by decide)
  have E_b6 := A6
  have g_b6 : n0 ≤ b6 := Nat.le_trans Z0 (Nat.le_of_eq g6.symm)
  have sz_b6 : h0.size ≤ b6 := (Nat.le_trans (Keep.refl h0 []).1 (Nat.le_of_eq g6.symm))
  have K6 : Keep h0 h6 [] := (Keep.refl h0 []).ext E6
  -- pc 134: the constructor of com/example/knit6/knit6/patch/HashFilter by its contract rm1
  obtain ⟨_, _, ⟨T7, L7, k7, n7⟩, -, X7, ⟨Lc7, hQ7, l7, y7, z7⟩, st7⟩ := X6.specialBack hx (y := (⟨"com/example/knit6/knit6/patch/HashFilter", "<init>", "(I)V"⟩ : MethodName)) rfl hown (mvT hZ (hw _ (List.mem_of_getElem? (i := 5) rfl))) (mvT hZ (hw _ (List.mem_of_getElem? (i := 6) rfl))) (mvT hZ (hw _ (List.mem_of_getElem? (i := 7) rfl))) (by decide) (backOf (W := 1) (rm1 l Z a0 hw [] b6 (p1 &&& (8191 : Int32)) .null (.int (0 : Int32)) h6 n0 (Nat.le_trans Z0 E6.1) E_b6 F_bits_b6 g_b6 F_mask_b6 hcc) hZ (hw _ (List.mem_of_getElem? (i := 7) rfl)) (hw _ (List.mem_of_getElem? (i := 4) rfl)) (by decide) (by decide)) (g := (mkF m 134 #[.val (.int p1), .val (.int p2), .val (.int p3), .val (.int p4), .val (.int p5), .val (.int (p1 &&& (8191 : Int32))), .val (.int ((p1 &&& (8191 : Int32)) * (64 : Int32))), .val (.int (own_sz (p1 &&& (8191 : Int32)))), .val (.int ((own_sz (p1 &&& (8191 : Int32))) - (1 : Int32))), .val (.int (own_hb p2 p5 p3)), .val (.int (own_qq p2 p5 (own_hb p2 p5 p3) p4 (p5 &&& (3 : Int32)))), .val (.int (p5 &&& (3 : Int32))), .unset, .unset, .unset, .unset, .unset] [(.int (p1 &&& (8191 : Int32))), (.ref b6), (.ref b6)])) rfl (by rw [hml]; rfl) (Steps.refl _) (a := b6) (argsL := [(.int (p1 &&& (8191 : Int32)))]) (rest := [(.ref b6)]) (lenOf pd_0_0 rfl) rfl (by show 2 * 0 + _ ≤ _; exact Nat.le_of_eq rfl) (hb hby at_134) (fun _ _ => ⟨rfl, e6, (by decide : 1 + 1 ≤ _), (by decide : 2 + 4096 ≤ _)⟩)
  dsimp only [Pt.U, Pt.locs, Pt.cells, Pt.slots] at X7 l7 y7 z7 st7 hQ7
  subst l7 y7 z7
  obtain ⟨rfl, N7q, bB, kB, K7, Ex, Fb, Fm, Ar, gB, neB⟩ := hQ7      -- what it returned, that it wrote nothing old, and the rest of your Q1
  have N7 := Fr.app N0 N7q
  have Zs : n0 ≤ T7.heap.size := Nat.le_trans (Nat.le_trans Z0 E6.1) K7.1
  -- pc 143: com/example/knit6/knit6/patch/HashFilter.mayHold by the contract of the body that the receiver's class selects, rm6
  obtain ⟨cq8, kq8, q8a, q8b, q8c⟩ := isOf hZ rfl (E_b6.keep K7)
  obtain ⟨_, _, ⟨T8, L8, k8, n8⟩, -, X8, ⟨Lc8, hQ8, l8, y8, z8⟩, st8⟩ := X7.virtualBack hx (y := (⟨"com/example/knit6/knit6/patch/HashFilter", "mayHold", "(I)Z"⟩ : MethodName)) (z := (⟨"com/example/knit6/knit6/patch/HashFilter", "mayHold", "(I)Z"⟩ : MethodName)) hown (mvT hZ (hw _ (List.mem_of_getElem? (i := 30) rfl))) (mvT hZ (hw _ (List.mem_of_getElem? (i := 31) rfl))) (notFace_of_selects (args := #[]) (mvT hZ (hw _ (List.mem_of_getElem? (i := 33) rfl)))) (mvT hZ (hw _ (List.mem_of_getElem? (i := 33) rfl))) (mvT hZ (hw _ (List.mem_of_getElem? (i := 32) rfl))) (by decide) (backOf (W := 0) (rm6 l Z a0 hw [] b6 (own_qq p2 p5 (own_hb p2 p5 p3) p4 (p5 &&& (3 : Int32))) ((own_sz (p1 &&& (8191 : Int32))) - (1 : Int32)) bB (0 : Int64) _ T7.heap n0 Zs Fm Fb Ar (inb_of (sz_new _ _ _) (own_pl hcc (own_qq p2 p5 (own_hb p2 p5 p3) p4 (p5 &&& (3 : Int32))))) (get_new (own_inb (own_pl hcc (own_qq p2 p5 (own_hb p2 p5 p3) p4 (p5 &&& (3 : Int32))))))) hZ (hw _ (List.mem_of_getElem? (i := 34) rfl)) (hw _ (List.mem_of_getElem? (i := 4) rfl)) (by decide) (by decide)) q8a q8c (g := (mkF m 143 #[.val (.int p1), .val (.int p2), .val (.int p3), .val (.int p4), .val (.int p5), .val (.int (p1 &&& (8191 : Int32))), .val (.int ((p1 &&& (8191 : Int32)) * (64 : Int32))), .val (.int (own_sz (p1 &&& (8191 : Int32)))), .val (.int ((own_sz (p1 &&& (8191 : Int32))) - (1 : Int32))), .val (.int (own_hb p2 p5 p3)), .val (.int (own_qq p2 p5 (own_hb p2 p5 p3) p4 (p5 &&& (3 : Int32)))), .val (.int (p5 &&& (3 : Int32))), .val (.ref b6), .unset, .unset, .unset, .unset] [(.int (own_qq p2 p5 (own_hb p2 p5 p3) p4 (p5 &&& (3 : Int32)))), (.ref b6)])) rfl (by rw [hml]; rfl) (Steps.refl _) (argsL := [(.int (own_qq p2 p5 (own_hb p2 p5 p3) p4 (p5 &&& (3 : Int32))))]) (rest := []) (lenOf pd_0_4 rfl) rfl (by show 2 * 0 + _ ≤ _; exact Nat.le_of_eq rfl) (hb hby at_143) (fun _ _ => ⟨rfl, rfl, (by decide : 2 + 0 ≤ _), (by decide : 4098 + 0 ≤ _)⟩)
  dsimp only [Pt.U, Pt.locs, Pt.cells, Pt.slots] at X8 l8 y8 z8 st8 hQ8
  subst l8 y8 z8
  obtain ⟨rfl, N8q, q8⟩ := hQ8      -- what it returned, that it wrote nothing old, and the rest of your Q6
  have N8 := Fr.app N7 N8q
  -- pc 159: com/example/knit6/knit6/patch/HashFilter.add by the contract of the body that the receiver's class selects, rm7
  obtain ⟨cq9, kq9, q9a, q9b, q9c⟩ := isOf hZ q8 (E_b6.keep K7)
  obtain ⟨_, _, ⟨T9, L9, k9, n9⟩, -, X9, ⟨Lc9, hQ9, l9, y9, z9⟩, st9⟩ := X8.virtualBack hx (y := (⟨"com/example/knit6/knit6/patch/HashFilter", "add", "(I)V"⟩ : MethodName)) (z := (⟨"com/example/knit6/knit6/patch/HashFilter", "add", "(I)V"⟩ : MethodName)) hown (mvT hZ (hw _ (List.mem_of_getElem? (i := 35) rfl))) (mvT hZ (hw _ (List.mem_of_getElem? (i := 36) rfl))) (notFace_of_selects (args := #[]) (mvT hZ (hw _ (List.mem_of_getElem? (i := 38) rfl)))) (mvT hZ (hw _ (List.mem_of_getElem? (i := 38) rfl))) (mvT hZ (hw _ (List.mem_of_getElem? (i := 37) rfl))) (by decide) (backOf (W := 0) (rm7 l Z a0 hw [] b6 p2 ((own_sz (p1 &&& (8191 : Int32))) - (1 : Int32)) bB (0 : Int64) _ T7.heap n0 Zs Fm Fb Ar (inb_of (sz_new _ _ _) (own_pl hcc p2)) (get_new (own_inb (own_pl hcc p2))) (inb_of (sz_new _ _ _) (own_pl hcc p2)) gB) hZ (hw _ (List.mem_of_getElem? (i := 39) rfl)) (hw _ (List.mem_of_getElem? (i := 4) rfl)) (by decide) (by decide)) q9a q9c (g := (mkF m 159 #[.val (.int p1), .val (.int p2), .val (.int p3), .val (.int p4), .val (.int p5), .val (.int (p1 &&& (8191 : Int32))), .val (.int ((p1 &&& (8191 : Int32)) * (64 : Int32))), .val (.int (own_sz (p1 &&& (8191 : Int32)))), .val (.int ((own_sz (p1 &&& (8191 : Int32))) - (1 : Int32))), .val (.int (own_hb p2 p5 p3)), .val (.int (own_qq p2 p5 (own_hb p2 p5 p3) p4 (p5 &&& (3 : Int32)))), .val (.int (p5 &&& (3 : Int32))), .val (.ref b6), .val (.int (1 : Int32)), .unset, .unset, .unset] [(.int p2), (.ref b6)])) rfl (by rw [hml]; rfl) (Steps.refl _) (argsL := [(.int p2)]) (rest := []) (lenOf pd_0_0 rfl) rfl (by show 2 * 0 + _ ≤ _; exact Nat.le_of_eq rfl) (hb hby at_159) (fun _ _ => ⟨rfl, q8, (by decide : 2 + 0 ≤ _), (by decide : 4098 + 0 ≤ _)⟩)
  dsimp only [Pt.U, Pt.locs, Pt.cells, Pt.slots] at X9 l9 y9 z9 st9 hQ9
  subst l9 y9 z9
  obtain ⟨rfl, N9q, K9, Ar⟩ := hQ9      -- what it returned, that it wrote nothing old, and the rest of your Q7
  have N9 := Fr.app N8 N9q
  have Ex := Ex.keep K9
  have Fm := Fm.keep K9 (by simp; exact neB)
  have Fb := Fb.keep K9 (by simp; exact neB)
  have Zs : n0 ≤ T9.heap.size := Nat.le_trans Zs K9.1
  -- pc 166: com/example/knit6/knit6/patch/HashFilter.add by the contract of the body that the receiver's class selects, rm7
  obtain ⟨cq10, kq10, q10a, q10b, q10c⟩ := isOf hZ rfl ((E_b6.keep K7).keep K9)
  obtain ⟨_, _, ⟨T10, L10, k10, n10⟩, -, X10, ⟨Lc10, hQ10, l10, y10, z10⟩, st10⟩ := X9.virtualBack hx (y := (⟨"com/example/knit6/knit6/patch/HashFilter", "add", "(I)V"⟩ : MethodName)) (z := (⟨"com/example/knit6/knit6/patch/HashFilter", "add", "(I)V"⟩ : MethodName)) hown (mvT hZ (hw _ (List.mem_of_getElem? (i := 35) rfl))) (mvT hZ (hw _ (List.mem_of_getElem? (i := 36) rfl))) (notFace_of_selects (args := #[]) (mvT hZ (hw _ (List.mem_of_getElem? (i := 38) rfl)))) (mvT hZ (hw _ (List.mem_of_getElem? (i := 38) rfl))) (mvT hZ (hw _ (List.mem_of_getElem? (i := 37) rfl))) (by decide) (backOf (W := 0) (rm7 l Z a0 hw [] b6 (own_hb p2 p5 p3) ((own_sz (p1 &&& (8191 : Int32))) - (1 : Int32)) bB (own_v1 (p2 &&& ((own_sz (p1 &&& (8191 : Int32))) - (1 : Int32))) (((own_hb p2 p5 p3) &&& ((own_sz (p1 &&& (8191 : Int32))) - (1 : Int32))) / (64 : Int32))) _ T9.heap n0 Zs Fm Fb Ar (inb_of (own_S1 _ _ _ _) (own_pl hcc (own_hb p2 p5 p3))) (own_at1 hcc p2 (own_hb p2 p5 p3)) (inb_of (own_S1 _ _ _ _) (own_pl hcc (own_hb p2 p5 p3))) gB) hZ (hw _ (List.mem_of_getElem? (i := 39) rfl)) (hw _ (List.mem_of_getElem? (i := 4) rfl)) (by decide) (by decide)) q10a q10c (g := (mkF m 166 #[.val (.int p1), .val (.int p2), .val (.int p3), .val (.int p4), .val (.int p5), .val (.int (p1 &&& (8191 : Int32))), .val (.int ((p1 &&& (8191 : Int32)) * (64 : Int32))), .val (.int (own_sz (p1 &&& (8191 : Int32)))), .val (.int ((own_sz (p1 &&& (8191 : Int32))) - (1 : Int32))), .val (.int (own_hb p2 p5 p3)), .val (.int (own_qq p2 p5 (own_hb p2 p5 p3) p4 (p5 &&& (3 : Int32)))), .val (.int (p5 &&& (3 : Int32))), .val (.ref b6), .val (.int (1 : Int32)), .unset, .unset, .unset] [(.int (own_hb p2 p5 p3)), (.ref b6)])) rfl (by rw [hml]; rfl) (Steps.refl _) (argsL := [(.int (own_hb p2 p5 p3))]) (rest := []) (lenOf pd_0_0 rfl) rfl (by show 2 * 0 + _ ≤ _; exact Nat.le_of_eq rfl) (hb hby at_166) (fun _ _ => ⟨rfl, rfl, (by decide : 2 + 0 ≤ _), (by decide : 4098 + 0 ≤ _)⟩)
  dsimp only [Pt.U, Pt.locs, Pt.cells, Pt.slots] at X10 l10 y10 z10 st10 hQ10
  subst l10 y10 z10
  obtain ⟨rfl, N10q, K10, Ar⟩ := hQ10      -- what it returned, that it wrote nothing old, and the rest of your Q7
  have N10 := Fr.app N9 N10q
  have Ex := Ex.keep K10
  have Fm := Fm.keep K10 (by simp; exact neB)
  have Fb := Fb.keep K10 (by simp; exact neB)
  have Zs : n0 ≤ T10.heap.size := Nat.le_trans Zs K10.1
  -- pc 172: com/example/knit6/knit6/patch/HashFilter.mayHold by the contract of the body that the receiver's class selects, rm6
  obtain ⟨cq11, kq11, q11a, q11b, q11c⟩ := isOf hZ rfl (((E_b6.keep K7).keep K9).keep K10)
  obtain ⟨_, _, ⟨T11, L11, k11, n11⟩, -, X11, ⟨Lc11, hQ11, l11, y11, z11⟩, st11⟩ := X10.virtualBack hx (y := (⟨"com/example/knit6/knit6/patch/HashFilter", "mayHold", "(I)Z"⟩ : MethodName)) (z := (⟨"com/example/knit6/knit6/patch/HashFilter", "mayHold", "(I)Z"⟩ : MethodName)) hown (mvT hZ (hw _ (List.mem_of_getElem? (i := 30) rfl))) (mvT hZ (hw _ (List.mem_of_getElem? (i := 31) rfl))) (notFace_of_selects (args := #[]) (mvT hZ (hw _ (List.mem_of_getElem? (i := 33) rfl)))) (mvT hZ (hw _ (List.mem_of_getElem? (i := 33) rfl))) (mvT hZ (hw _ (List.mem_of_getElem? (i := 32) rfl))) (by decide) (backOf (W := 0) (rm6 l Z a0 hw [] b6 p2 ((own_sz (p1 &&& (8191 : Int32))) - (1 : Int32)) bB (own_v2 (p2 &&& ((own_sz (p1 &&& (8191 : Int32))) - (1 : Int32))) ((own_hb p2 p5 p3) &&& ((own_sz (p1 &&& (8191 : Int32))) - (1 : Int32))) ((p2 &&& ((own_sz (p1 &&& (8191 : Int32))) - (1 : Int32))) / (64 : Int32))) _ T10.heap n0 Zs Fm Fb Ar (inb_of (own_S2 _ _ _ _ _ _) (own_pl hcc p2)) (own_at2 hcc p2 (own_hb p2 p5 p3) p2)) hZ (hw _ (List.mem_of_getElem? (i := 34) rfl)) (hw _ (List.mem_of_getElem? (i := 4) rfl)) (by decide) (by decide)) q11a q11c (g := (mkF m 172 #[.val (.int p1), .val (.int p2), .val (.int p3), .val (.int p4), .val (.int p5), .val (.int (p1 &&& (8191 : Int32))), .val (.int ((p1 &&& (8191 : Int32)) * (64 : Int32))), .val (.int (own_sz (p1 &&& (8191 : Int32)))), .val (.int ((own_sz (p1 &&& (8191 : Int32))) - (1 : Int32))), .val (.int (own_hb p2 p5 p3)), .val (.int (own_qq p2 p5 (own_hb p2 p5 p3) p4 (p5 &&& (3 : Int32)))), .val (.int (p5 &&& (3 : Int32))), .val (.ref b6), .val (.int (1 : Int32)), .unset, .unset, .unset] [(.int p2), (.ref b6)])) rfl (by rw [hml]; rfl) (Steps.refl _) (argsL := [(.int p2)]) (rest := []) (lenOf pd_0_4 rfl) rfl (by show 2 * 0 + _ ≤ _; exact Nat.le_of_eq rfl) (hb hby at_172) (fun _ _ => ⟨rfl, rfl, (by decide : 2 + 0 ≤ _), (by decide : 4098 + 0 ≤ _)⟩)
  dsimp only [Pt.U, Pt.locs, Pt.cells, Pt.slots] at X11 l11 y11 z11 st11 hQ11
  subst l11 y11 z11
  obtain ⟨rfl, N11q, q11⟩ := hQ11      -- what it returned, that it wrote nothing old, and the rest of your Q6
  have N11 := Fr.app N10 N11q
  -- pc 181: com/example/knit6/knit6/patch/HashFilter.mayHold by the contract of the body that the receiver's class selects, rm6
  obtain ⟨cq12, kq12, q12a, q12b, q12c⟩ := isOf hZ q11 (((E_b6.keep K7).keep K9).keep K10)
  obtain ⟨_, _, ⟨T12, L12, k12, n12⟩, -, X12, ⟨Lc12, hQ12, l12, y12, z12⟩, st12⟩ := X11.virtualBack hx (y := (⟨"com/example/knit6/knit6/patch/HashFilter", "mayHold", "(I)Z"⟩ : MethodName)) (z := (⟨"com/example/knit6/knit6/patch/HashFilter", "mayHold", "(I)Z"⟩ : MethodName)) hown (mvT hZ (hw _ (List.mem_of_getElem? (i := 30) rfl))) (mvT hZ (hw _ (List.mem_of_getElem? (i := 31) rfl))) (notFace_of_selects (args := #[]) (mvT hZ (hw _ (List.mem_of_getElem? (i := 33) rfl)))) (mvT hZ (hw _ (List.mem_of_getElem? (i := 33) rfl))) (mvT hZ (hw _ (List.mem_of_getElem? (i := 32) rfl))) (by decide) (backOf (W := 0) (rm6 l Z a0 hw [] b6 (own_hb p2 p5 p3) ((own_sz (p1 &&& (8191 : Int32))) - (1 : Int32)) bB (own_v2 (p2 &&& ((own_sz (p1 &&& (8191 : Int32))) - (1 : Int32))) ((own_hb p2 p5 p3) &&& ((own_sz (p1 &&& (8191 : Int32))) - (1 : Int32))) (((own_hb p2 p5 p3) &&& ((own_sz (p1 &&& (8191 : Int32))) - (1 : Int32))) / (64 : Int32))) _ T10.heap n0 Zs Fm Fb Ar (inb_of (own_S2 _ _ _ _ _ _) (own_pl hcc (own_hb p2 p5 p3))) (own_at2 hcc p2 (own_hb p2 p5 p3) (own_hb p2 p5 p3))) hZ (hw _ (List.mem_of_getElem? (i := 34) rfl)) (hw _ (List.mem_of_getElem? (i := 4) rfl)) (by decide) (by decide)) q12a q12c (g := (mkF m 181 #[.val (.int p1), .val (.int p2), .val (.int p3), .val (.int p4), .val (.int p5), .val (.int (p1 &&& (8191 : Int32))), .val (.int ((p1 &&& (8191 : Int32)) * (64 : Int32))), .val (.int (own_sz (p1 &&& (8191 : Int32)))), .val (.int ((own_sz (p1 &&& (8191 : Int32))) - (1 : Int32))), .val (.int (own_hb p2 p5 p3)), .val (.int (own_qq p2 p5 (own_hb p2 p5 p3) p4 (p5 &&& (3 : Int32)))), .val (.int (p5 &&& (3 : Int32))), .val (.ref b6), .val (.int (1 : Int32)), .val (.int (own_hit (own_v2 (p2 &&& ((own_sz (p1 &&& (8191 : Int32))) - (1 : Int32))) ((own_hb p2 p5 p3) &&& ((own_sz (p1 &&& (8191 : Int32))) - (1 : Int32))) ((p2 &&& ((own_sz (p1 &&& (8191 : Int32))) - (1 : Int32))) / (64 : Int32))) (p2 &&& ((own_sz (p1 &&& (8191 : Int32))) - (1 : Int32))))), .unset, .unset] [(.int (own_hb p2 p5 p3)), (.ref b6)])) rfl (by rw [hml]; rfl) (Steps.refl _) (argsL := [(.int (own_hb p2 p5 p3))]) (rest := []) (lenOf pd_0_4 rfl) rfl (by show 2 * 0 + _ ≤ _; exact Nat.le_of_eq rfl) (hb hby at_181) (fun _ _ => ⟨rfl, q11, (by decide : 2 + 0 ≤ _), (by decide : 4098 + 0 ≤ _)⟩)
  dsimp only [Pt.U, Pt.locs, Pt.cells, Pt.slots] at X12 l12 y12 z12 st12 hQ12
  subst l12 y12 z12
  obtain ⟨rfl, N12q, q12⟩ := hQ12      -- what it returned, that it wrote nothing old, and the rest of your Q6
  have N12 := Fr.app N11 N12q
  -- pc 237: com/example/knit6/knit6/patch/HashFilter.mayHold by the contract of the body that the receiver's class selects, rm6
  obtain ⟨cq13, kq13, q13a, q13b, q13c⟩ := isOf hZ q12 (((E_b6.keep K7).keep K9).keep K10)
  obtain ⟨_, _, ⟨T13, L13, k13, n13⟩, -, X13, ⟨Lc13, hQ13, l13, y13, z13⟩, st13⟩ := X12.virtualBack hx (y := (⟨"com/example/knit6/knit6/patch/HashFilter", "mayHold", "(I)Z"⟩ : MethodName)) (z := (⟨"com/example/knit6/knit6/patch/HashFilter", "mayHold", "(I)Z"⟩ : MethodName)) hown (mvT hZ (hw _ (List.mem_of_getElem? (i := 30) rfl))) (mvT hZ (hw _ (List.mem_of_getElem? (i := 31) rfl))) (notFace_of_selects (args := #[]) (mvT hZ (hw _ (List.mem_of_getElem? (i := 33) rfl)))) (mvT hZ (hw _ (List.mem_of_getElem? (i := 33) rfl))) (mvT hZ (hw _ (List.mem_of_getElem? (i := 32) rfl))) (by decide) (backOf (W := 0) (rm6 l Z a0 hw [] b6 (own_qq p2 p5 (own_hb p2 p5 p3) p4 (p5 &&& (3 : Int32))) ((own_sz (p1 &&& (8191 : Int32))) - (1 : Int32)) bB (own_v2 (p2 &&& ((own_sz (p1 &&& (8191 : Int32))) - (1 : Int32))) ((own_hb p2 p5 p3) &&& ((own_sz (p1 &&& (8191 : Int32))) - (1 : Int32))) (((own_qq p2 p5 (own_hb p2 p5 p3) p4 (p5 &&& (3 : Int32))) &&& ((own_sz (p1 &&& (8191 : Int32))) - (1 : Int32))) / (64 : Int32))) _ T10.heap n0 Zs Fm Fb Ar (inb_of (own_S2 _ _ _ _ _ _) (own_pl hcc (own_qq p2 p5 (own_hb p2 p5 p3) p4 (p5 &&& (3 : Int32))))) (own_at2 hcc p2 (own_hb p2 p5 p3) (own_qq p2 p5 (own_hb p2 p5 p3) p4 (p5 &&& (3 : Int32))))) hZ (hw _ (List.mem_of_getElem? (i := 34) rfl)) (hw _ (List.mem_of_getElem? (i := 4) rfl)) (by decide) (by decide)) q13a q13c (g := (mkF m 237 #[.val (.int p1), .val (.int p2), .val (.int p3), .val (.int p4), .val (.int p5), .val (.int (p1 &&& (8191 : Int32))), .val (.int ((p1 &&& (8191 : Int32)) * (64 : Int32))), .val (.int (own_sz (p1 &&& (8191 : Int32)))), .val (.int ((own_sz (p1 &&& (8191 : Int32))) - (1 : Int32))), .val (.int (own_hb p2 p5 p3)), .val (.int (own_qq p2 p5 (own_hb p2 p5 p3) p4 (p5 &&& (3 : Int32)))), .val (.int (p5 &&& (3 : Int32))), .val (.ref b6), .val (.int (1 : Int32)), .val (.int (own_hit (own_v2 (p2 &&& ((own_sz (p1 &&& (8191 : Int32))) - (1 : Int32))) ((own_hb p2 p5 p3) &&& ((own_sz (p1 &&& (8191 : Int32))) - (1 : Int32))) ((p2 &&& ((own_sz (p1 &&& (8191 : Int32))) - (1 : Int32))) / (64 : Int32))) (p2 &&& ((own_sz (p1 &&& (8191 : Int32))) - (1 : Int32))))), .val (.int (own_hit (own_v2 (p2 &&& ((own_sz (p1 &&& (8191 : Int32))) - (1 : Int32))) ((own_hb p2 p5 p3) &&& ((own_sz (p1 &&& (8191 : Int32))) - (1 : Int32))) (((own_hb p2 p5 p3) &&& ((own_sz (p1 &&& (8191 : Int32))) - (1 : Int32))) / (64 : Int32))) ((own_hb p2 p5 p3) &&& ((own_sz (p1 &&& (8191 : Int32))) - (1 : Int32))))), .val (.int (own_ex p2 ((own_sz (p1 &&& (8191 : Int32))) - (1 : Int32)) (own_hb p2 p5 p3) (own_qq p2 p5 (own_hb p2 p5 p3) p4 (p5 &&& (3 : Int32)))))] [(.int (own_qq p2 p5 (own_hb p2 p5 p3) p4 (p5 &&& (3 : Int32)))), (.ref b6)])) rfl (by rw [hml]; rfl) (Steps.refl _) (argsL := [(.int (own_qq p2 p5 (own_hb p2 p5 p3) p4 (p5 &&& (3 : Int32))))]) (rest := []) (lenOf pd_0_4 rfl) rfl (by show 2 * 0 + _ ≤ _; exact Nat.le_of_eq rfl) (hb hby at_237) (fun _ _ => ⟨rfl, q12, (by decide : 2 + 0 ≤ _), (by decide : 4098 + 0 ≤ _)⟩)
  dsimp only [Pt.U, Pt.locs, Pt.cells, Pt.slots] at X13 l13 y13 z13 st13 hQ13
  subst l13 y13 z13
  obtain ⟨rfl, N13q, q13⟩ := hQ13      -- what it returned, that it wrote nothing old, and the rest of your Q6
  have N13 := Fr.app N12 N13q
  obtain ⟨fs, hr, hrun, hended, hW, hsame⟩ := X13.leave (v := some (.int (1 : Int32))) (fun h => by rw [Bd.returns] at h; cases h)
  refine ⟨_, _, pre0 _ ?_, hrun, hended, _, _, rfl, ?_, ⟨_, rfl⟩, hW, hsame.mono (by decide) (by decide)⟩
  -- 4. STEPS
  · show Steps p.tables e below (s₁.setTop (mkF m 0 #[.val (.int p1), .val (.int p2), .val (.int p3), .val (.int p4), .val (.int p5), .unset, .unset, .unset, .unset, .unset, .unset, .unset, .unset, .unset, .unset, .unset, .unset] [])) _
    refine XS.iloadN X0.here hx rfl (hb hby at_0) rfl ?_
    show Steps p.tables e below (s₁.setTop (mkF m 1 #[.val (.int p1), .val (.int p2), .val (.int p3), .val (.int p4), .val (.int p5), .unset, .unset, .unset, .unset, .unset, .unset, .unset, .unset, .unset, .unset, .unset, .unset] [(.int p1)])) _
    refine XS.sipush X0.here hx rfl (hb hby at_1) ?_
    show Steps p.tables e below (s₁.setTop (mkF m 4 #[.val (.int p1), .val (.int p2), .val (.int p3), .val (.int p4), .val (.int p5), .unset, .unset, .unset, .unset, .unset, .unset, .unset, .unset, .unset, .unset, .unset, .unset] [(.int (8191 : Int32)), (.int p1)])) _
    refine XS.iand X0.here hx rfl (hb hby at_4) rfl ?_
    show Steps p.tables e below (s₁.setTop (mkF m 5 #[.val (.int p1), .val (.int p2), .val (.int p3), .val (.int p4), .val (.int p5), .unset, .unset, .unset, .unset, .unset, .unset, .unset, .unset, .unset, .unset, .unset, .unset] [(.int (p1 &&& (8191 : Int32)))])) _
    refine XS.istore X0.here hx rfl (hb hby at_5) rfl (l' := #[.val (.int p1), .val (.int p2), .val (.int p3), .val (.int p4), .val (.int p5), .val (.int (p1 &&& (8191 : Int32))), .unset, .unset, .unset, .unset, .unset, .unset, .unset, .unset, .unset, .unset, .unset]) rfl ?_
    show Steps p.tables e below (s₁.setTop (mkF m 7 #[.val (.int p1), .val (.int p2), .val (.int p3), .val (.int p4), .val (.int p5), .val (.int (p1 &&& (8191 : Int32))), .unset, .unset, .unset, .unset, .unset, .unset, .unset, .unset, .unset, .unset, .unset] [])) _
    show Steps p.tables e below (s₁.setTop (mkF m 7 #[.val (.int p1), .val (.int p2), .val (.int p3), .val (.int p4), .val (.int p5), .val (.int (p1 &&& (8191 : Int32))), .unset, .unset, .unset, .unset, .unset, .unset, .unset, .unset, .unset, .unset, .unset] [])) _
    refine XS.iload X0.here hx rfl (hb hby at_7) rfl ?_
    show Steps p.tables e below (s₁.setTop (mkF m 9 #[.val (.int p1), .val (.int p2), .val (.int p3), .val (.int p4), .val (.int p5), .val (.int (p1 &&& (8191 : Int32))), .unset, .unset, .unset, .unset, .unset, .unset, .unset, .unset, .unset, .unset, .unset] [(.int (p1 &&& (8191 : Int32)))])) _
    refine XS.bipush X0.here hx rfl (hb hby at_9) ?_
    show Steps p.tables e below (s₁.setTop (mkF m 11 #[.val (.int p1), .val (.int p2), .val (.int p3), .val (.int p4), .val (.int p5), .val (.int (p1 &&& (8191 : Int32))), .unset, .unset, .unset, .unset, .unset, .unset, .unset, .unset, .unset, .unset, .unset] [(.int (64 : Int32)), (.int (p1 &&& (8191 : Int32)))])) _
    refine XS.imul X0.here hx rfl (hb hby at_11) rfl ?_
    show Steps p.tables e below (s₁.setTop (mkF m 12 #[.val (.int p1), .val (.int p2), .val (.int p3), .val (.int p4), .val (.int p5), .val (.int (p1 &&& (8191 : Int32))), .unset, .unset, .unset, .unset, .unset, .unset, .unset, .unset, .unset, .unset, .unset] [(.int ((p1 &&& (8191 : Int32)) * (64 : Int32)))])) _
    refine XS.istore X0.here hx rfl (hb hby at_12) rfl (l' := #[.val (.int p1), .val (.int p2), .val (.int p3), .val (.int p4), .val (.int p5), .val (.int (p1 &&& (8191 : Int32))), .val (.int ((p1 &&& (8191 : Int32)) * (64 : Int32))), .unset, .unset, .unset, .unset, .unset, .unset, .unset, .unset, .unset, .unset]) rfl ?_
    show Steps p.tables e below (s₁.setTop (mkF m 14 #[.val (.int p1), .val (.int p2), .val (.int p3), .val (.int p4), .val (.int p5), .val (.int (p1 &&& (8191 : Int32))), .val (.int ((p1 &&& (8191 : Int32)) * (64 : Int32))), .unset, .unset, .unset, .unset, .unset, .unset, .unset, .unset, .unset, .unset] [])) _
    refine tn0_14_42 _ _ _ _ _ _ ((p1 &&& (8191 : Int32)) * (64 : Int32)) _ _ _ _ _ _ _ _ _ _ X0 hx hZ hw hby hml hown e0 One.u _ ?_
    show Steps p.tables e below (s₁.setTop (mkF m 42 #[.val (.int p1), .val (.int p2), .val (.int p3), .val (.int p4), .val (.int p5), .val (.int (p1 &&& (8191 : Int32))), .val (.int ((p1 &&& (8191 : Int32)) * (64 : Int32))), .val (.int (own_size ((p1 &&& (8191 : Int32)) * (64 : Int32)))), .unset, .unset, .unset, .unset, .unset, .unset, .unset, .unset, .unset] [])) _
    refine XS.iload X0.here hx rfl (hb hby at_42) rfl ?_
    show Steps p.tables e below (s₁.setTop (mkF m 44 #[.val (.int p1), .val (.int p2), .val (.int p3), .val (.int p4), .val (.int p5), .val (.int (p1 &&& (8191 : Int32))), .val (.int ((p1 &&& (8191 : Int32)) * (64 : Int32))), .val (.int (own_size ((p1 &&& (8191 : Int32)) * (64 : Int32)))), .unset, .unset, .unset, .unset, .unset, .unset, .unset, .unset, .unset] [(.int (own_size ((p1 &&& (8191 : Int32)) * (64 : Int32))))])) _
    refine XS.iconst X0.here hx rfl (hb hby at_44) ?_
    show Steps p.tables e below (s₁.setTop (mkF m 45 #[.val (.int p1), .val (.int p2), .val (.int p3), .val (.int p4), .val (.int p5), .val (.int (p1 &&& (8191 : Int32))), .val (.int ((p1 &&& (8191 : Int32)) * (64 : Int32))), .val (.int (own_size ((p1 &&& (8191 : Int32)) * (64 : Int32)))), .unset, .unset, .unset, .unset, .unset, .unset, .unset, .unset, .unset] [(.int (1 : Int32)), (.int (own_size ((p1 &&& (8191 : Int32)) * (64 : Int32))))])) _
    refine XS.isub X0.here hx rfl (hb hby at_45) rfl ?_
    show Steps p.tables e below (s₁.setTop (mkF m 46 #[.val (.int p1), .val (.int p2), .val (.int p3), .val (.int p4), .val (.int p5), .val (.int (p1 &&& (8191 : Int32))), .val (.int ((p1 &&& (8191 : Int32)) * (64 : Int32))), .val (.int (own_size ((p1 &&& (8191 : Int32)) * (64 : Int32)))), .unset, .unset, .unset, .unset, .unset, .unset, .unset, .unset, .unset] [(.int ((own_size ((p1 &&& (8191 : Int32)) * (64 : Int32))) - (1 : Int32)))])) _
    refine XS.istore X0.here hx rfl (hb hby at_46) rfl (l' := #[.val (.int p1), .val (.int p2), .val (.int p3), .val (.int p4), .val (.int p5), .val (.int (p1 &&& (8191 : Int32))), .val (.int ((p1 &&& (8191 : Int32)) * (64 : Int32))), .val (.int (own_size ((p1 &&& (8191 : Int32)) * (64 : Int32)))), .val (.int ((own_size ((p1 &&& (8191 : Int32)) * (64 : Int32))) - (1 : Int32))), .unset, .unset, .unset, .unset, .unset, .unset, .unset, .unset]) rfl ?_
    show Steps p.tables e below (s₁.setTop (mkF m 48 #[.val (.int p1), .val (.int p2), .val (.int p3), .val (.int p4), .val (.int p5), .val (.int (p1 &&& (8191 : Int32))), .val (.int ((p1 &&& (8191 : Int32)) * (64 : Int32))), .val (.int (own_size ((p1 &&& (8191 : Int32)) * (64 : Int32)))), .val (.int ((own_size ((p1 &&& (8191 : Int32)) * (64 : Int32))) - (1 : Int32))), .unset, .unset, .unset, .unset, .unset, .unset, .unset, .unset] [])) _
    refine XS.iloadN X0.here hx rfl (hb hby at_48) rfl ?_
    show Steps p.tables e below (s₁.setTop (mkF m 49 #[.val (.int p1), .val (.int p2), .val (.int p3), .val (.int p4), .val (.int p5), .val (.int (p1 &&& (8191 : Int32))), .val (.int ((p1 &&& (8191 : Int32)) * (64 : Int32))), .val (.int (own_size ((p1 &&& (8191 : Int32)) * (64 : Int32)))), .val (.int ((own_size ((p1 &&& (8191 : Int32)) * (64 : Int32))) - (1 : Int32))), .unset, .unset, .unset, .unset, .unset, .unset, .unset, .unset] [(.int p3)])) _
    refine XS.istore X0.here hx rfl (hb hby at_49) rfl (l' := #[.val (.int p1), .val (.int p2), .val (.int p3), .val (.int p4), .val (.int p5), .val (.int (p1 &&& (8191 : Int32))), .val (.int ((p1 &&& (8191 : Int32)) * (64 : Int32))), .val (.int (own_size ((p1 &&& (8191 : Int32)) * (64 : Int32)))), .val (.int ((own_size ((p1 &&& (8191 : Int32)) * (64 : Int32))) - (1 : Int32))), .val (.int p3), .unset, .unset, .unset, .unset, .unset, .unset, .unset]) rfl ?_
    show Steps p.tables e below (s₁.setTop (mkF m 51 #[.val (.int p1), .val (.int p2), .val (.int p3), .val (.int p4), .val (.int p5), .val (.int (p1 &&& (8191 : Int32))), .val (.int ((p1 &&& (8191 : Int32)) * (64 : Int32))), .val (.int (own_size ((p1 &&& (8191 : Int32)) * (64 : Int32)))), .val (.int ((own_size ((p1 &&& (8191 : Int32)) * (64 : Int32))) - (1 : Int32))), .val (.int p3), .unset, .unset, .unset, .unset, .unset, .unset, .unset] [])) _
    refine tn0_51_75 _ p2 _ _ p5 _ _ _ _ p3 _ _ _ _ _ _ _ X0 hx hZ hw hby hml hown e0 _ ?_
    show Steps p.tables e below (s₁.setTop (mkF m 75 #[.val (.int p1), .val (.int p2), .val (.int p3), .val (.int p4), .val (.int p5), .val (.int (p1 &&& (8191 : Int32))), .val (.int ((p1 &&& (8191 : Int32)) * (64 : Int32))), .val (.int (own_size ((p1 &&& (8191 : Int32)) * (64 : Int32)))), .val (.int ((own_size ((p1 &&& (8191 : Int32)) * (64 : Int32))) - (1 : Int32))), .val (.int (own_hb p2 p5 p3)), .unset, .unset, .unset, .unset, .unset, .unset, .unset] [])) _
    refine XS.iloadN X0.here hx rfl (hb hby at_75) rfl ?_
    show Steps p.tables e below (s₁.setTop (mkF m 76 #[.val (.int p1), .val (.int p2), .val (.int p3), .val (.int p4), .val (.int p5), .val (.int (p1 &&& (8191 : Int32))), .val (.int ((p1 &&& (8191 : Int32)) * (64 : Int32))), .val (.int (own_size ((p1 &&& (8191 : Int32)) * (64 : Int32)))), .val (.int ((own_size ((p1 &&& (8191 : Int32)) * (64 : Int32))) - (1 : Int32))), .val (.int (own_hb p2 p5 p3)), .unset, .unset, .unset, .unset, .unset, .unset, .unset] [(.int p4)])) _
    refine XS.istore X0.here hx rfl (hb hby at_76) rfl (l' := #[.val (.int p1), .val (.int p2), .val (.int p3), .val (.int p4), .val (.int p5), .val (.int (p1 &&& (8191 : Int32))), .val (.int ((p1 &&& (8191 : Int32)) * (64 : Int32))), .val (.int (own_size ((p1 &&& (8191 : Int32)) * (64 : Int32)))), .val (.int ((own_size ((p1 &&& (8191 : Int32)) * (64 : Int32))) - (1 : Int32))), .val (.int (own_hb p2 p5 p3)), .val (.int p4), .unset, .unset, .unset, .unset, .unset, .unset]) rfl ?_
    show Steps p.tables e below (s₁.setTop (mkF m 78 #[.val (.int p1), .val (.int p2), .val (.int p3), .val (.int p4), .val (.int p5), .val (.int (p1 &&& (8191 : Int32))), .val (.int ((p1 &&& (8191 : Int32)) * (64 : Int32))), .val (.int (own_size ((p1 &&& (8191 : Int32)) * (64 : Int32)))), .val (.int ((own_size ((p1 &&& (8191 : Int32)) * (64 : Int32))) - (1 : Int32))), .val (.int (own_hb p2 p5 p3)), .val (.int p4), .unset, .unset, .unset, .unset, .unset, .unset] [])) _
    refine XS.iload X0.here hx rfl (hb hby at_78) rfl ?_
    show Steps p.tables e below (s₁.setTop (mkF m 80 #[.val (.int p1), .val (.int p2), .val (.int p3), .val (.int p4), .val (.int p5), .val (.int (p1 &&& (8191 : Int32))), .val (.int ((p1 &&& (8191 : Int32)) * (64 : Int32))), .val (.int (own_size ((p1 &&& (8191 : Int32)) * (64 : Int32)))), .val (.int ((own_size ((p1 &&& (8191 : Int32)) * (64 : Int32))) - (1 : Int32))), .val (.int (own_hb p2 p5 p3)), .val (.int p4), .unset, .unset, .unset, .unset, .unset, .unset] [(.int p5)])) _
    refine XS.iconst X0.here hx rfl (hb hby at_80) ?_
    show Steps p.tables e below (s₁.setTop (mkF m 81 #[.val (.int p1), .val (.int p2), .val (.int p3), .val (.int p4), .val (.int p5), .val (.int (p1 &&& (8191 : Int32))), .val (.int ((p1 &&& (8191 : Int32)) * (64 : Int32))), .val (.int (own_size ((p1 &&& (8191 : Int32)) * (64 : Int32)))), .val (.int ((own_size ((p1 &&& (8191 : Int32)) * (64 : Int32))) - (1 : Int32))), .val (.int (own_hb p2 p5 p3)), .val (.int p4), .unset, .unset, .unset, .unset, .unset, .unset] [(.int (3 : Int32)), (.int p5)])) _
    refine XS.iand X0.here hx rfl (hb hby at_81) rfl ?_
    show Steps p.tables e below (s₁.setTop (mkF m 82 #[.val (.int p1), .val (.int p2), .val (.int p3), .val (.int p4), .val (.int p5), .val (.int (p1 &&& (8191 : Int32))), .val (.int ((p1 &&& (8191 : Int32)) * (64 : Int32))), .val (.int (own_size ((p1 &&& (8191 : Int32)) * (64 : Int32)))), .val (.int ((own_size ((p1 &&& (8191 : Int32)) * (64 : Int32))) - (1 : Int32))), .val (.int (own_hb p2 p5 p3)), .val (.int p4), .unset, .unset, .unset, .unset, .unset, .unset] [(.int (p5 &&& (3 : Int32)))])) _
    refine XS.istore X0.here hx rfl (hb hby at_82) rfl (l' := #[.val (.int p1), .val (.int p2), .val (.int p3), .val (.int p4), .val (.int p5), .val (.int (p1 &&& (8191 : Int32))), .val (.int ((p1 &&& (8191 : Int32)) * (64 : Int32))), .val (.int (own_size ((p1 &&& (8191 : Int32)) * (64 : Int32)))), .val (.int ((own_size ((p1 &&& (8191 : Int32)) * (64 : Int32))) - (1 : Int32))), .val (.int (own_hb p2 p5 p3)), .val (.int p4), .val (.int (p5 &&& (3 : Int32))), .unset, .unset, .unset, .unset, .unset]) rfl ?_
    show Steps p.tables e below (s₁.setTop (mkF m 84 #[.val (.int p1), .val (.int p2), .val (.int p3), .val (.int p4), .val (.int p5), .val (.int (p1 &&& (8191 : Int32))), .val (.int ((p1 &&& (8191 : Int32)) * (64 : Int32))), .val (.int (own_size ((p1 &&& (8191 : Int32)) * (64 : Int32)))), .val (.int ((own_size ((p1 &&& (8191 : Int32)) * (64 : Int32))) - (1 : Int32))), .val (.int (own_hb p2 p5 p3)), .val (.int p4), .val (.int (p5 &&& (3 : Int32))), .unset, .unset, .unset, .unset, .unset] [])) _
    refine tn0_84_128 _ p2 _ _ p5 _ _ _ _ (own_hb p2 p5 p3) p4 (p5 &&& (3 : Int32)) _ _ _ _ _ X0 hx hZ hw hby hml hown e0 _ ?_
    show Steps p.tables e below (s₁.setTop (mkF m 128 #[.val (.int p1), .val (.int p2), .val (.int p3), .val (.int p4), .val (.int p5), .val (.int (p1 &&& (8191 : Int32))), .val (.int ((p1 &&& (8191 : Int32)) * (64 : Int32))), .val (.int (own_size ((p1 &&& (8191 : Int32)) * (64 : Int32)))), .val (.int ((own_size ((p1 &&& (8191 : Int32)) * (64 : Int32))) - (1 : Int32))), .val (.int (own_hb p2 p5 p3)), .val (.int (own_qq p2 p5 (own_hb p2 p5 p3) p4 (p5 &&& (3 : Int32)))), .val (.int (p5 &&& (3 : Int32))), .unset, .unset, .unset, .unset, .unset] [])) _
    rw [own_mask hcc]
    show Steps p.tables e below (s₁.setTop (mkF m 128 #[.val (.int p1), .val (.int p2), .val (.int p3), .val (.int p4), .val (.int p5), .val (.int (p1 &&& (8191 : Int32))), .val (.int ((p1 &&& (8191 : Int32)) * (64 : Int32))), .val (.int (own_sz (p1 &&& (8191 : Int32)))), .val (.int ((own_sz (p1 &&& (8191 : Int32))) - (1 : Int32))), .val (.int (own_hb p2 p5 p3)), .val (.int (own_qq p2 p5 (own_hb p2 p5 p3) p4 (p5 &&& (3 : Int32)))), .val (.int (p5 &&& (3 : Int32))), .unset, .unset, .unset, .unset, .unset] [])) _
    refine st6 _ ?_
    show Steps p.tables e below (T6.setTop (mkF m 131 #[.val (.int p1), .val (.int p2), .val (.int p3), .val (.int p4), .val (.int p5), .val (.int (p1 &&& (8191 : Int32))), .val (.int ((p1 &&& (8191 : Int32)) * (64 : Int32))), .val (.int (own_sz (p1 &&& (8191 : Int32)))), .val (.int ((own_sz (p1 &&& (8191 : Int32))) - (1 : Int32))), .val (.int (own_hb p2 p5 p3)), .val (.int (own_qq p2 p5 (own_hb p2 p5 p3) p4 (p5 &&& (3 : Int32)))), .val (.int (p5 &&& (3 : Int32))), .unset, .unset, .unset, .unset, .unset] [(.ref b6)])) _
    refine XS.dup X6.here hx rfl (hb hby at_131) rfl rfl ?_
    show Steps p.tables e below (T6.setTop (mkF m 132 #[.val (.int p1), .val (.int p2), .val (.int p3), .val (.int p4), .val (.int p5), .val (.int (p1 &&& (8191 : Int32))), .val (.int ((p1 &&& (8191 : Int32)) * (64 : Int32))), .val (.int (own_sz (p1 &&& (8191 : Int32)))), .val (.int ((own_sz (p1 &&& (8191 : Int32))) - (1 : Int32))), .val (.int (own_hb p2 p5 p3)), .val (.int (own_qq p2 p5 (own_hb p2 p5 p3) p4 (p5 &&& (3 : Int32)))), .val (.int (p5 &&& (3 : Int32))), .unset, .unset, .unset, .unset, .unset] [(.ref b6), (.ref b6)])) _
    refine XS.iload X6.here hx rfl (hb hby at_132) rfl ?_
    show Steps p.tables e below (T6.setTop (mkF m 134 #[.val (.int p1), .val (.int p2), .val (.int p3), .val (.int p4), .val (.int p5), .val (.int (p1 &&& (8191 : Int32))), .val (.int ((p1 &&& (8191 : Int32)) * (64 : Int32))), .val (.int (own_sz (p1 &&& (8191 : Int32)))), .val (.int ((own_sz (p1 &&& (8191 : Int32))) - (1 : Int32))), .val (.int (own_hb p2 p5 p3)), .val (.int (own_qq p2 p5 (own_hb p2 p5 p3) p4 (p5 &&& (3 : Int32)))), .val (.int (p5 &&& (3 : Int32))), .unset, .unset, .unset, .unset, .unset] [(.int (p1 &&& (8191 : Int32))), (.ref b6), (.ref b6)])) _
    refine st7.trans ?_
    show Steps p.tables e below (T7.setTop (mkF m 137 #[.val (.int p1), .val (.int p2), .val (.int p3), .val (.int p4), .val (.int p5), .val (.int (p1 &&& (8191 : Int32))), .val (.int ((p1 &&& (8191 : Int32)) * (64 : Int32))), .val (.int (own_sz (p1 &&& (8191 : Int32)))), .val (.int ((own_sz (p1 &&& (8191 : Int32))) - (1 : Int32))), .val (.int (own_hb p2 p5 p3)), .val (.int (own_qq p2 p5 (own_hb p2 p5 p3) p4 (p5 &&& (3 : Int32)))), .val (.int (p5 &&& (3 : Int32))), .unset, .unset, .unset, .unset, .unset] [(.ref b6)])) _
    refine XS.astore X7.here hx rfl (hb hby at_137) rfl rfl (l' := #[.val (.int p1), .val (.int p2), .val (.int p3), .val (.int p4), .val (.int p5), .val (.int (p1 &&& (8191 : Int32))), .val (.int ((p1 &&& (8191 : Int32)) * (64 : Int32))), .val (.int (own_sz (p1 &&& (8191 : Int32)))), .val (.int ((own_sz (p1 &&& (8191 : Int32))) - (1 : Int32))), .val (.int (own_hb p2 p5 p3)), .val (.int (own_qq p2 p5 (own_hb p2 p5 p3) p4 (p5 &&& (3 : Int32)))), .val (.int (p5 &&& (3 : Int32))), .val (.ref b6), .unset, .unset, .unset, .unset]) rfl ?_
    show Steps p.tables e below (T7.setTop (mkF m 139 #[.val (.int p1), .val (.int p2), .val (.int p3), .val (.int p4), .val (.int p5), .val (.int (p1 &&& (8191 : Int32))), .val (.int ((p1 &&& (8191 : Int32)) * (64 : Int32))), .val (.int (own_sz (p1 &&& (8191 : Int32)))), .val (.int ((own_sz (p1 &&& (8191 : Int32))) - (1 : Int32))), .val (.int (own_hb p2 p5 p3)), .val (.int (own_qq p2 p5 (own_hb p2 p5 p3) p4 (p5 &&& (3 : Int32)))), .val (.int (p5 &&& (3 : Int32))), .val (.ref b6), .unset, .unset, .unset, .unset] [])) _
    refine XS.aload X7.here hx rfl (hb hby at_139) rfl rfl ?_
    show Steps p.tables e below (T7.setTop (mkF m 141 #[.val (.int p1), .val (.int p2), .val (.int p3), .val (.int p4), .val (.int p5), .val (.int (p1 &&& (8191 : Int32))), .val (.int ((p1 &&& (8191 : Int32)) * (64 : Int32))), .val (.int (own_sz (p1 &&& (8191 : Int32)))), .val (.int ((own_sz (p1 &&& (8191 : Int32))) - (1 : Int32))), .val (.int (own_hb p2 p5 p3)), .val (.int (own_qq p2 p5 (own_hb p2 p5 p3) p4 (p5 &&& (3 : Int32)))), .val (.int (p5 &&& (3 : Int32))), .val (.ref b6), .unset, .unset, .unset, .unset] [(.ref b6)])) _
    refine XS.iload X7.here hx rfl (hb hby at_141) rfl ?_
    show Steps p.tables e below (T7.setTop (mkF m 143 #[.val (.int p1), .val (.int p2), .val (.int p3), .val (.int p4), .val (.int p5), .val (.int (p1 &&& (8191 : Int32))), .val (.int ((p1 &&& (8191 : Int32)) * (64 : Int32))), .val (.int (own_sz (p1 &&& (8191 : Int32)))), .val (.int ((own_sz (p1 &&& (8191 : Int32))) - (1 : Int32))), .val (.int (own_hb p2 p5 p3)), .val (.int (own_qq p2 p5 (own_hb p2 p5 p3) p4 (p5 &&& (3 : Int32)))), .val (.int (p5 &&& (3 : Int32))), .val (.ref b6), .unset, .unset, .unset, .unset] [(.int (own_qq p2 p5 (own_hb p2 p5 p3) p4 (p5 &&& (3 : Int32)))), (.ref b6)])) _
    refine st8.trans ?_
    show Steps p.tables e below (T8.setTop (mkF m 146 #[.val (.int p1), .val (.int p2), .val (.int p3), .val (.int p4), .val (.int p5), .val (.int (p1 &&& (8191 : Int32))), .val (.int ((p1 &&& (8191 : Int32)) * (64 : Int32))), .val (.int (own_sz (p1 &&& (8191 : Int32)))), .val (.int ((own_sz (p1 &&& (8191 : Int32))) - (1 : Int32))), .val (.int (own_hb p2 p5 p3)), .val (.int (own_qq p2 p5 (own_hb p2 p5 p3) p4 (p5 &&& (3 : Int32)))), .val (.int (p5 &&& (3 : Int32))), .val (.ref b6), .unset, .unset, .unset, .unset] [(.int (own_hit (0 : Int64) ((own_qq p2 p5 (own_hb p2 p5 p3) p4 (p5 &&& (3 : Int32))) &&& ((own_sz (p1 &&& (8191 : Int32))) - (1 : Int32)))))])) _
    refine XS.ifNo X8.here hx rfl (hb hby at_146) rfl ((if0 _ _).trans (teq hc146).2) ?_
    show Steps p.tables e below (T8.setTop (mkF m 149 #[.val (.int p1), .val (.int p2), .val (.int p3), .val (.int p4), .val (.int p5), .val (.int (p1 &&& (8191 : Int32))), .val (.int ((p1 &&& (8191 : Int32)) * (64 : Int32))), .val (.int (own_sz (p1 &&& (8191 : Int32)))), .val (.int ((own_sz (p1 &&& (8191 : Int32))) - (1 : Int32))), .val (.int (own_hb p2 p5 p3)), .val (.int (own_qq p2 p5 (own_hb p2 p5 p3) p4 (p5 &&& (3 : Int32)))), .val (.int (p5 &&& (3 : Int32))), .val (.ref b6), .unset, .unset, .unset, .unset] [])) _
    refine XS.iconst X8.here hx rfl (hb hby at_149) ?_
    show Steps p.tables e below (T8.setTop (mkF m 150 #[.val (.int p1), .val (.int p2), .val (.int p3), .val (.int p4), .val (.int p5), .val (.int (p1 &&& (8191 : Int32))), .val (.int ((p1 &&& (8191 : Int32)) * (64 : Int32))), .val (.int (own_sz (p1 &&& (8191 : Int32)))), .val (.int ((own_sz (p1 &&& (8191 : Int32))) - (1 : Int32))), .val (.int (own_hb p2 p5 p3)), .val (.int (own_qq p2 p5 (own_hb p2 p5 p3) p4 (p5 &&& (3 : Int32)))), .val (.int (p5 &&& (3 : Int32))), .val (.ref b6), .unset, .unset, .unset, .unset] [(.int (1 : Int32))])) _
    refine XS.goto X8.here hx rfl (pc0 := 150) (pc' := 154) rfl (hb hby at_150) (by decide) (by decide) ?_
    show Steps p.tables e below (T8.setTop (mkF m 154 #[.val (.int p1), .val (.int p2), .val (.int p3), .val (.int p4), .val (.int p5), .val (.int (p1 &&& (8191 : Int32))), .val (.int ((p1 &&& (8191 : Int32)) * (64 : Int32))), .val (.int (own_sz (p1 &&& (8191 : Int32)))), .val (.int ((own_sz (p1 &&& (8191 : Int32))) - (1 : Int32))), .val (.int (own_hb p2 p5 p3)), .val (.int (own_qq p2 p5 (own_hb p2 p5 p3) p4 (p5 &&& (3 : Int32)))), .val (.int (p5 &&& (3 : Int32))), .val (.ref b6), .unset, .unset, .unset, .unset] [(.int (1 : Int32))])) _
    refine XS.istore X8.here hx rfl (hb hby at_154) rfl (l' := #[.val (.int p1), .val (.int p2), .val (.int p3), .val (.int p4), .val (.int p5), .val (.int (p1 &&& (8191 : Int32))), .val (.int ((p1 &&& (8191 : Int32)) * (64 : Int32))), .val (.int (own_sz (p1 &&& (8191 : Int32)))), .val (.int ((own_sz (p1 &&& (8191 : Int32))) - (1 : Int32))), .val (.int (own_hb p2 p5 p3)), .val (.int (own_qq p2 p5 (own_hb p2 p5 p3) p4 (p5 &&& (3 : Int32)))), .val (.int (p5 &&& (3 : Int32))), .val (.ref b6), .val (.int (1 : Int32)), .unset, .unset, .unset]) rfl ?_
    show Steps p.tables e below (T8.setTop (mkF m 156 #[.val (.int p1), .val (.int p2), .val (.int p3), .val (.int p4), .val (.int p5), .val (.int (p1 &&& (8191 : Int32))), .val (.int ((p1 &&& (8191 : Int32)) * (64 : Int32))), .val (.int (own_sz (p1 &&& (8191 : Int32)))), .val (.int ((own_sz (p1 &&& (8191 : Int32))) - (1 : Int32))), .val (.int (own_hb p2 p5 p3)), .val (.int (own_qq p2 p5 (own_hb p2 p5 p3) p4 (p5 &&& (3 : Int32)))), .val (.int (p5 &&& (3 : Int32))), .val (.ref b6), .val (.int (1 : Int32)), .unset, .unset, .unset] [])) _
    refine XS.aload X8.here hx rfl (hb hby at_156) rfl rfl ?_
    show Steps p.tables e below (T8.setTop (mkF m 158 #[.val (.int p1), .val (.int p2), .val (.int p3), .val (.int p4), .val (.int p5), .val (.int (p1 &&& (8191 : Int32))), .val (.int ((p1 &&& (8191 : Int32)) * (64 : Int32))), .val (.int (own_sz (p1 &&& (8191 : Int32)))), .val (.int ((own_sz (p1 &&& (8191 : Int32))) - (1 : Int32))), .val (.int (own_hb p2 p5 p3)), .val (.int (own_qq p2 p5 (own_hb p2 p5 p3) p4 (p5 &&& (3 : Int32)))), .val (.int (p5 &&& (3 : Int32))), .val (.ref b6), .val (.int (1 : Int32)), .unset, .unset, .unset] [(.ref b6)])) _
    refine XS.iloadN X8.here hx rfl (hb hby at_158) rfl ?_
    show Steps p.tables e below (T8.setTop (mkF m 159 #[.val (.int p1), .val (.int p2), .val (.int p3), .val (.int p4), .val (.int p5), .val (.int (p1 &&& (8191 : Int32))), .val (.int ((p1 &&& (8191 : Int32)) * (64 : Int32))), .val (.int (own_sz (p1 &&& (8191 : Int32)))), .val (.int ((own_sz (p1 &&& (8191 : Int32))) - (1 : Int32))), .val (.int (own_hb p2 p5 p3)), .val (.int (own_qq p2 p5 (own_hb p2 p5 p3) p4 (p5 &&& (3 : Int32)))), .val (.int (p5 &&& (3 : Int32))), .val (.ref b6), .val (.int (1 : Int32)), .unset, .unset, .unset] [(.int p2), (.ref b6)])) _
    refine st9.trans ?_
    show Steps p.tables e below (T9.setTop (mkF m 162 #[.val (.int p1), .val (.int p2), .val (.int p3), .val (.int p4), .val (.int p5), .val (.int (p1 &&& (8191 : Int32))), .val (.int ((p1 &&& (8191 : Int32)) * (64 : Int32))), .val (.int (own_sz (p1 &&& (8191 : Int32)))), .val (.int ((own_sz (p1 &&& (8191 : Int32))) - (1 : Int32))), .val (.int (own_hb p2 p5 p3)), .val (.int (own_qq p2 p5 (own_hb p2 p5 p3) p4 (p5 &&& (3 : Int32)))), .val (.int (p5 &&& (3 : Int32))), .val (.ref b6), .val (.int (1 : Int32)), .unset, .unset, .unset] [])) _
    refine XS.aload X9.here hx rfl (hb hby at_162) rfl rfl ?_
    show Steps p.tables e below (T9.setTop (mkF m 164 #[.val (.int p1), .val (.int p2), .val (.int p3), .val (.int p4), .val (.int p5), .val (.int (p1 &&& (8191 : Int32))), .val (.int ((p1 &&& (8191 : Int32)) * (64 : Int32))), .val (.int (own_sz (p1 &&& (8191 : Int32)))), .val (.int ((own_sz (p1 &&& (8191 : Int32))) - (1 : Int32))), .val (.int (own_hb p2 p5 p3)), .val (.int (own_qq p2 p5 (own_hb p2 p5 p3) p4 (p5 &&& (3 : Int32)))), .val (.int (p5 &&& (3 : Int32))), .val (.ref b6), .val (.int (1 : Int32)), .unset, .unset, .unset] [(.ref b6)])) _
    refine XS.iload X9.here hx rfl (hb hby at_164) rfl ?_
    show Steps p.tables e below (T9.setTop (mkF m 166 #[.val (.int p1), .val (.int p2), .val (.int p3), .val (.int p4), .val (.int p5), .val (.int (p1 &&& (8191 : Int32))), .val (.int ((p1 &&& (8191 : Int32)) * (64 : Int32))), .val (.int (own_sz (p1 &&& (8191 : Int32)))), .val (.int ((own_sz (p1 &&& (8191 : Int32))) - (1 : Int32))), .val (.int (own_hb p2 p5 p3)), .val (.int (own_qq p2 p5 (own_hb p2 p5 p3) p4 (p5 &&& (3 : Int32)))), .val (.int (p5 &&& (3 : Int32))), .val (.ref b6), .val (.int (1 : Int32)), .unset, .unset, .unset] [(.int (own_hb p2 p5 p3)), (.ref b6)])) _
    refine st10.trans ?_
    show Steps p.tables e below (T10.setTop (mkF m 169 #[.val (.int p1), .val (.int p2), .val (.int p3), .val (.int p4), .val (.int p5), .val (.int (p1 &&& (8191 : Int32))), .val (.int ((p1 &&& (8191 : Int32)) * (64 : Int32))), .val (.int (own_sz (p1 &&& (8191 : Int32)))), .val (.int ((own_sz (p1 &&& (8191 : Int32))) - (1 : Int32))), .val (.int (own_hb p2 p5 p3)), .val (.int (own_qq p2 p5 (own_hb p2 p5 p3) p4 (p5 &&& (3 : Int32)))), .val (.int (p5 &&& (3 : Int32))), .val (.ref b6), .val (.int (1 : Int32)), .unset, .unset, .unset] [])) _
    refine XS.aload X10.here hx rfl (hb hby at_169) rfl rfl ?_
    show Steps p.tables e below (T10.setTop (mkF m 171 #[.val (.int p1), .val (.int p2), .val (.int p3), .val (.int p4), .val (.int p5), .val (.int (p1 &&& (8191 : Int32))), .val (.int ((p1 &&& (8191 : Int32)) * (64 : Int32))), .val (.int (own_sz (p1 &&& (8191 : Int32)))), .val (.int ((own_sz (p1 &&& (8191 : Int32))) - (1 : Int32))), .val (.int (own_hb p2 p5 p3)), .val (.int (own_qq p2 p5 (own_hb p2 p5 p3) p4 (p5 &&& (3 : Int32)))), .val (.int (p5 &&& (3 : Int32))), .val (.ref b6), .val (.int (1 : Int32)), .unset, .unset, .unset] [(.ref b6)])) _
    refine XS.iloadN X10.here hx rfl (hb hby at_171) rfl ?_
    show Steps p.tables e below (T10.setTop (mkF m 172 #[.val (.int p1), .val (.int p2), .val (.int p3), .val (.int p4), .val (.int p5), .val (.int (p1 &&& (8191 : Int32))), .val (.int ((p1 &&& (8191 : Int32)) * (64 : Int32))), .val (.int (own_sz (p1 &&& (8191 : Int32)))), .val (.int ((own_sz (p1 &&& (8191 : Int32))) - (1 : Int32))), .val (.int (own_hb p2 p5 p3)), .val (.int (own_qq p2 p5 (own_hb p2 p5 p3) p4 (p5 &&& (3 : Int32)))), .val (.int (p5 &&& (3 : Int32))), .val (.ref b6), .val (.int (1 : Int32)), .unset, .unset, .unset] [(.int p2), (.ref b6)])) _
    refine st11.trans ?_
    show Steps p.tables e below (T11.setTop (mkF m 175 #[.val (.int p1), .val (.int p2), .val (.int p3), .val (.int p4), .val (.int p5), .val (.int (p1 &&& (8191 : Int32))), .val (.int ((p1 &&& (8191 : Int32)) * (64 : Int32))), .val (.int (own_sz (p1 &&& (8191 : Int32)))), .val (.int ((own_sz (p1 &&& (8191 : Int32))) - (1 : Int32))), .val (.int (own_hb p2 p5 p3)), .val (.int (own_qq p2 p5 (own_hb p2 p5 p3) p4 (p5 &&& (3 : Int32)))), .val (.int (p5 &&& (3 : Int32))), .val (.ref b6), .val (.int (1 : Int32)), .unset, .unset, .unset] [(.int (own_hit (own_v2 (p2 &&& ((own_sz (p1 &&& (8191 : Int32))) - (1 : Int32))) ((own_hb p2 p5 p3) &&& ((own_sz (p1 &&& (8191 : Int32))) - (1 : Int32))) ((p2 &&& ((own_sz (p1 &&& (8191 : Int32))) - (1 : Int32))) / (64 : Int32))) (p2 &&& ((own_sz (p1 &&& (8191 : Int32))) - (1 : Int32)))))])) _
    refine XS.istore X11.here hx rfl (hb hby at_175) rfl (l' := #[.val (.int p1), .val (.int p2), .val (.int p3), .val (.int p4), .val (.int p5), .val (.int (p1 &&& (8191 : Int32))), .val (.int ((p1 &&& (8191 : Int32)) * (64 : Int32))), .val (.int (own_sz (p1 &&& (8191 : Int32)))), .val (.int ((own_sz (p1 &&& (8191 : Int32))) - (1 : Int32))), .val (.int (own_hb p2 p5 p3)), .val (.int (own_qq p2 p5 (own_hb p2 p5 p3) p4 (p5 &&& (3 : Int32)))), .val (.int (p5 &&& (3 : Int32))), .val (.ref b6), .val (.int (1 : Int32)), .val (.int (own_hit (own_v2 (p2 &&& ((own_sz (p1 &&& (8191 : Int32))) - (1 : Int32))) ((own_hb p2 p5 p3) &&& ((own_sz (p1 &&& (8191 : Int32))) - (1 : Int32))) ((p2 &&& ((own_sz (p1 &&& (8191 : Int32))) - (1 : Int32))) / (64 : Int32))) (p2 &&& ((own_sz (p1 &&& (8191 : Int32))) - (1 : Int32))))), .unset, .unset]) rfl ?_
    show Steps p.tables e below (T11.setTop (mkF m 177 #[.val (.int p1), .val (.int p2), .val (.int p3), .val (.int p4), .val (.int p5), .val (.int (p1 &&& (8191 : Int32))), .val (.int ((p1 &&& (8191 : Int32)) * (64 : Int32))), .val (.int (own_sz (p1 &&& (8191 : Int32)))), .val (.int ((own_sz (p1 &&& (8191 : Int32))) - (1 : Int32))), .val (.int (own_hb p2 p5 p3)), .val (.int (own_qq p2 p5 (own_hb p2 p5 p3) p4 (p5 &&& (3 : Int32)))), .val (.int (p5 &&& (3 : Int32))), .val (.ref b6), .val (.int (1 : Int32)), .val (.int (own_hit (own_v2 (p2 &&& ((own_sz (p1 &&& (8191 : Int32))) - (1 : Int32))) ((own_hb p2 p5 p3) &&& ((own_sz (p1 &&& (8191 : Int32))) - (1 : Int32))) ((p2 &&& ((own_sz (p1 &&& (8191 : Int32))) - (1 : Int32))) / (64 : Int32))) (p2 &&& ((own_sz (p1 &&& (8191 : Int32))) - (1 : Int32))))), .unset, .unset] [])) _
    refine XS.aload X11.here hx rfl (hb hby at_177) rfl rfl ?_
    show Steps p.tables e below (T11.setTop (mkF m 179 #[.val (.int p1), .val (.int p2), .val (.int p3), .val (.int p4), .val (.int p5), .val (.int (p1 &&& (8191 : Int32))), .val (.int ((p1 &&& (8191 : Int32)) * (64 : Int32))), .val (.int (own_sz (p1 &&& (8191 : Int32)))), .val (.int ((own_sz (p1 &&& (8191 : Int32))) - (1 : Int32))), .val (.int (own_hb p2 p5 p3)), .val (.int (own_qq p2 p5 (own_hb p2 p5 p3) p4 (p5 &&& (3 : Int32)))), .val (.int (p5 &&& (3 : Int32))), .val (.ref b6), .val (.int (1 : Int32)), .val (.int (own_hit (own_v2 (p2 &&& ((own_sz (p1 &&& (8191 : Int32))) - (1 : Int32))) ((own_hb p2 p5 p3) &&& ((own_sz (p1 &&& (8191 : Int32))) - (1 : Int32))) ((p2 &&& ((own_sz (p1 &&& (8191 : Int32))) - (1 : Int32))) / (64 : Int32))) (p2 &&& ((own_sz (p1 &&& (8191 : Int32))) - (1 : Int32))))), .unset, .unset] [(.ref b6)])) _
    refine XS.iload X11.here hx rfl (hb hby at_179) rfl ?_
    show Steps p.tables e below (T11.setTop (mkF m 181 #[.val (.int p1), .val (.int p2), .val (.int p3), .val (.int p4), .val (.int p5), .val (.int (p1 &&& (8191 : Int32))), .val (.int ((p1 &&& (8191 : Int32)) * (64 : Int32))), .val (.int (own_sz (p1 &&& (8191 : Int32)))), .val (.int ((own_sz (p1 &&& (8191 : Int32))) - (1 : Int32))), .val (.int (own_hb p2 p5 p3)), .val (.int (own_qq p2 p5 (own_hb p2 p5 p3) p4 (p5 &&& (3 : Int32)))), .val (.int (p5 &&& (3 : Int32))), .val (.ref b6), .val (.int (1 : Int32)), .val (.int (own_hit (own_v2 (p2 &&& ((own_sz (p1 &&& (8191 : Int32))) - (1 : Int32))) ((own_hb p2 p5 p3) &&& ((own_sz (p1 &&& (8191 : Int32))) - (1 : Int32))) ((p2 &&& ((own_sz (p1 &&& (8191 : Int32))) - (1 : Int32))) / (64 : Int32))) (p2 &&& ((own_sz (p1 &&& (8191 : Int32))) - (1 : Int32))))), .unset, .unset] [(.int (own_hb p2 p5 p3)), (.ref b6)])) _
    refine st12.trans ?_
    show Steps p.tables e below (T12.setTop (mkF m 184 #[.val (.int p1), .val (.int p2), .val (.int p3), .val (.int p4), .val (.int p5), .val (.int (p1 &&& (8191 : Int32))), .val (.int ((p1 &&& (8191 : Int32)) * (64 : Int32))), .val (.int (own_sz (p1 &&& (8191 : Int32)))), .val (.int ((own_sz (p1 &&& (8191 : Int32))) - (1 : Int32))), .val (.int (own_hb p2 p5 p3)), .val (.int (own_qq p2 p5 (own_hb p2 p5 p3) p4 (p5 &&& (3 : Int32)))), .val (.int (p5 &&& (3 : Int32))), .val (.ref b6), .val (.int (1 : Int32)), .val (.int (own_hit (own_v2 (p2 &&& ((own_sz (p1 &&& (8191 : Int32))) - (1 : Int32))) ((own_hb p2 p5 p3) &&& ((own_sz (p1 &&& (8191 : Int32))) - (1 : Int32))) ((p2 &&& ((own_sz (p1 &&& (8191 : Int32))) - (1 : Int32))) / (64 : Int32))) (p2 &&& ((own_sz (p1 &&& (8191 : Int32))) - (1 : Int32))))), .unset, .unset] [(.int (own_hit (own_v2 (p2 &&& ((own_sz (p1 &&& (8191 : Int32))) - (1 : Int32))) ((own_hb p2 p5 p3) &&& ((own_sz (p1 &&& (8191 : Int32))) - (1 : Int32))) (((own_hb p2 p5 p3) &&& ((own_sz (p1 &&& (8191 : Int32))) - (1 : Int32))) / (64 : Int32))) ((own_hb p2 p5 p3) &&& ((own_sz (p1 &&& (8191 : Int32))) - (1 : Int32)))))])) _
    refine XS.istore X12.here hx rfl (hb hby at_184) rfl (l' := #[.val (.int p1), .val (.int p2), .val (.int p3), .val (.int p4), .val (.int p5), .val (.int (p1 &&& (8191 : Int32))), .val (.int ((p1 &&& (8191 : Int32)) * (64 : Int32))), .val (.int (own_sz (p1 &&& (8191 : Int32)))), .val (.int ((own_sz (p1 &&& (8191 : Int32))) - (1 : Int32))), .val (.int (own_hb p2 p5 p3)), .val (.int (own_qq p2 p5 (own_hb p2 p5 p3) p4 (p5 &&& (3 : Int32)))), .val (.int (p5 &&& (3 : Int32))), .val (.ref b6), .val (.int (1 : Int32)), .val (.int (own_hit (own_v2 (p2 &&& ((own_sz (p1 &&& (8191 : Int32))) - (1 : Int32))) ((own_hb p2 p5 p3) &&& ((own_sz (p1 &&& (8191 : Int32))) - (1 : Int32))) ((p2 &&& ((own_sz (p1 &&& (8191 : Int32))) - (1 : Int32))) / (64 : Int32))) (p2 &&& ((own_sz (p1 &&& (8191 : Int32))) - (1 : Int32))))), .val (.int (own_hit (own_v2 (p2 &&& ((own_sz (p1 &&& (8191 : Int32))) - (1 : Int32))) ((own_hb p2 p5 p3) &&& ((own_sz (p1 &&& (8191 : Int32))) - (1 : Int32))) (((own_hb p2 p5 p3) &&& ((own_sz (p1 &&& (8191 : Int32))) - (1 : Int32))) / (64 : Int32))) ((own_hb p2 p5 p3) &&& ((own_sz (p1 &&& (8191 : Int32))) - (1 : Int32))))), .unset]) rfl ?_
    show Steps p.tables e below (T12.setTop (mkF m 186 #[.val (.int p1), .val (.int p2), .val (.int p3), .val (.int p4), .val (.int p5), .val (.int (p1 &&& (8191 : Int32))), .val (.int ((p1 &&& (8191 : Int32)) * (64 : Int32))), .val (.int (own_sz (p1 &&& (8191 : Int32)))), .val (.int ((own_sz (p1 &&& (8191 : Int32))) - (1 : Int32))), .val (.int (own_hb p2 p5 p3)), .val (.int (own_qq p2 p5 (own_hb p2 p5 p3) p4 (p5 &&& (3 : Int32)))), .val (.int (p5 &&& (3 : Int32))), .val (.ref b6), .val (.int (1 : Int32)), .val (.int (own_hit (own_v2 (p2 &&& ((own_sz (p1 &&& (8191 : Int32))) - (1 : Int32))) ((own_hb p2 p5 p3) &&& ((own_sz (p1 &&& (8191 : Int32))) - (1 : Int32))) ((p2 &&& ((own_sz (p1 &&& (8191 : Int32))) - (1 : Int32))) / (64 : Int32))) (p2 &&& ((own_sz (p1 &&& (8191 : Int32))) - (1 : Int32))))), .val (.int (own_hit (own_v2 (p2 &&& ((own_sz (p1 &&& (8191 : Int32))) - (1 : Int32))) ((own_hb p2 p5 p3) &&& ((own_sz (p1 &&& (8191 : Int32))) - (1 : Int32))) (((own_hb p2 p5 p3) &&& ((own_sz (p1 &&& (8191 : Int32))) - (1 : Int32))) / (64 : Int32))) ((own_hb p2 p5 p3) &&& ((own_sz (p1 &&& (8191 : Int32))) - (1 : Int32))))), .unset] [])) _
    refine tn0_186_218 _ p2 _ _ _ _ _ _ ((own_sz (p1 &&& (8191 : Int32))) - (1 : Int32)) (own_hb p2 p5 p3) (own_qq p2 p5 (own_hb p2 p5 p3) p4 (p5 &&& (3 : Int32))) _ _ _ _ _ _ X12 hx hZ hw hby hml hown q12 One.u _ ?_
    show Steps p.tables e below (T12.setTop (mkF m 218 #[.val (.int p1), .val (.int p2), .val (.int p3), .val (.int p4), .val (.int p5), .val (.int (p1 &&& (8191 : Int32))), .val (.int ((p1 &&& (8191 : Int32)) * (64 : Int32))), .val (.int (own_sz (p1 &&& (8191 : Int32)))), .val (.int ((own_sz (p1 &&& (8191 : Int32))) - (1 : Int32))), .val (.int (own_hb p2 p5 p3)), .val (.int (own_qq p2 p5 (own_hb p2 p5 p3) p4 (p5 &&& (3 : Int32)))), .val (.int (p5 &&& (3 : Int32))), .val (.ref b6), .val (.int (1 : Int32)), .val (.int (own_hit (own_v2 (p2 &&& ((own_sz (p1 &&& (8191 : Int32))) - (1 : Int32))) ((own_hb p2 p5 p3) &&& ((own_sz (p1 &&& (8191 : Int32))) - (1 : Int32))) ((p2 &&& ((own_sz (p1 &&& (8191 : Int32))) - (1 : Int32))) / (64 : Int32))) (p2 &&& ((own_sz (p1 &&& (8191 : Int32))) - (1 : Int32))))), .val (.int (own_hit (own_v2 (p2 &&& ((own_sz (p1 &&& (8191 : Int32))) - (1 : Int32))) ((own_hb p2 p5 p3) &&& ((own_sz (p1 &&& (8191 : Int32))) - (1 : Int32))) (((own_hb p2 p5 p3) &&& ((own_sz (p1 &&& (8191 : Int32))) - (1 : Int32))) / (64 : Int32))) ((own_hb p2 p5 p3) &&& ((own_sz (p1 &&& (8191 : Int32))) - (1 : Int32))))), .val (.int (own_ex p2 ((own_sz (p1 &&& (8191 : Int32))) - (1 : Int32)) (own_hb p2 p5 p3) (own_qq p2 p5 (own_hb p2 p5 p3) p4 (p5 &&& (3 : Int32)))))] [])) _
    refine XS.iload X12.here hx rfl (hb hby at_218) rfl ?_
    show Steps p.tables e below (T12.setTop (mkF m 220 #[.val (.int p1), .val (.int p2), .val (.int p3), .val (.int p4), .val (.int p5), .val (.int (p1 &&& (8191 : Int32))), .val (.int ((p1 &&& (8191 : Int32)) * (64 : Int32))), .val (.int (own_sz (p1 &&& (8191 : Int32)))), .val (.int ((own_sz (p1 &&& (8191 : Int32))) - (1 : Int32))), .val (.int (own_hb p2 p5 p3)), .val (.int (own_qq p2 p5 (own_hb p2 p5 p3) p4 (p5 &&& (3 : Int32)))), .val (.int (p5 &&& (3 : Int32))), .val (.ref b6), .val (.int (1 : Int32)), .val (.int (own_hit (own_v2 (p2 &&& ((own_sz (p1 &&& (8191 : Int32))) - (1 : Int32))) ((own_hb p2 p5 p3) &&& ((own_sz (p1 &&& (8191 : Int32))) - (1 : Int32))) ((p2 &&& ((own_sz (p1 &&& (8191 : Int32))) - (1 : Int32))) / (64 : Int32))) (p2 &&& ((own_sz (p1 &&& (8191 : Int32))) - (1 : Int32))))), .val (.int (own_hit (own_v2 (p2 &&& ((own_sz (p1 &&& (8191 : Int32))) - (1 : Int32))) ((own_hb p2 p5 p3) &&& ((own_sz (p1 &&& (8191 : Int32))) - (1 : Int32))) (((own_hb p2 p5 p3) &&& ((own_sz (p1 &&& (8191 : Int32))) - (1 : Int32))) / (64 : Int32))) ((own_hb p2 p5 p3) &&& ((own_sz (p1 &&& (8191 : Int32))) - (1 : Int32))))), .val (.int (own_ex p2 ((own_sz (p1 &&& (8191 : Int32))) - (1 : Int32)) (own_hb p2 p5 p3) (own_qq p2 p5 (own_hb p2 p5 p3) p4 (p5 &&& (3 : Int32)))))] [(.int (1 : Int32))])) _
    refine XS.ifNo X12.here hx rfl (hb hby at_220) rfl ((if0 _ _).trans (feq hc220).1) ?_
    show Steps p.tables e below (T12.setTop (mkF m 223 #[.val (.int p1), .val (.int p2), .val (.int p3), .val (.int p4), .val (.int p5), .val (.int (p1 &&& (8191 : Int32))), .val (.int ((p1 &&& (8191 : Int32)) * (64 : Int32))), .val (.int (own_sz (p1 &&& (8191 : Int32)))), .val (.int ((own_sz (p1 &&& (8191 : Int32))) - (1 : Int32))), .val (.int (own_hb p2 p5 p3)), .val (.int (own_qq p2 p5 (own_hb p2 p5 p3) p4 (p5 &&& (3 : Int32)))), .val (.int (p5 &&& (3 : Int32))), .val (.ref b6), .val (.int (1 : Int32)), .val (.int (own_hit (own_v2 (p2 &&& ((own_sz (p1 &&& (8191 : Int32))) - (1 : Int32))) ((own_hb p2 p5 p3) &&& ((own_sz (p1 &&& (8191 : Int32))) - (1 : Int32))) ((p2 &&& ((own_sz (p1 &&& (8191 : Int32))) - (1 : Int32))) / (64 : Int32))) (p2 &&& ((own_sz (p1 &&& (8191 : Int32))) - (1 : Int32))))), .val (.int (own_hit (own_v2 (p2 &&& ((own_sz (p1 &&& (8191 : Int32))) - (1 : Int32))) ((own_hb p2 p5 p3) &&& ((own_sz (p1 &&& (8191 : Int32))) - (1 : Int32))) (((own_hb p2 p5 p3) &&& ((own_sz (p1 &&& (8191 : Int32))) - (1 : Int32))) / (64 : Int32))) ((own_hb p2 p5 p3) &&& ((own_sz (p1 &&& (8191 : Int32))) - (1 : Int32))))), .val (.int (own_ex p2 ((own_sz (p1 &&& (8191 : Int32))) - (1 : Int32)) (own_hb p2 p5 p3) (own_qq p2 p5 (own_hb p2 p5 p3) p4 (p5 &&& (3 : Int32)))))] [])) _
    refine XS.iload X12.here hx rfl (hb hby at_223) rfl ?_
    show Steps p.tables e below (T12.setTop (mkF m 225 #[.val (.int p1), .val (.int p2), .val (.int p3), .val (.int p4), .val (.int p5), .val (.int (p1 &&& (8191 : Int32))), .val (.int ((p1 &&& (8191 : Int32)) * (64 : Int32))), .val (.int (own_sz (p1 &&& (8191 : Int32)))), .val (.int ((own_sz (p1 &&& (8191 : Int32))) - (1 : Int32))), .val (.int (own_hb p2 p5 p3)), .val (.int (own_qq p2 p5 (own_hb p2 p5 p3) p4 (p5 &&& (3 : Int32)))), .val (.int (p5 &&& (3 : Int32))), .val (.ref b6), .val (.int (1 : Int32)), .val (.int (own_hit (own_v2 (p2 &&& ((own_sz (p1 &&& (8191 : Int32))) - (1 : Int32))) ((own_hb p2 p5 p3) &&& ((own_sz (p1 &&& (8191 : Int32))) - (1 : Int32))) ((p2 &&& ((own_sz (p1 &&& (8191 : Int32))) - (1 : Int32))) / (64 : Int32))) (p2 &&& ((own_sz (p1 &&& (8191 : Int32))) - (1 : Int32))))), .val (.int (own_hit (own_v2 (p2 &&& ((own_sz (p1 &&& (8191 : Int32))) - (1 : Int32))) ((own_hb p2 p5 p3) &&& ((own_sz (p1 &&& (8191 : Int32))) - (1 : Int32))) (((own_hb p2 p5 p3) &&& ((own_sz (p1 &&& (8191 : Int32))) - (1 : Int32))) / (64 : Int32))) ((own_hb p2 p5 p3) &&& ((own_sz (p1 &&& (8191 : Int32))) - (1 : Int32))))), .val (.int (own_ex p2 ((own_sz (p1 &&& (8191 : Int32))) - (1 : Int32)) (own_hb p2 p5 p3) (own_qq p2 p5 (own_hb p2 p5 p3) p4 (p5 &&& (3 : Int32)))))] [(.int (own_hit (own_v2 (p2 &&& ((own_sz (p1 &&& (8191 : Int32))) - (1 : Int32))) ((own_hb p2 p5 p3) &&& ((own_sz (p1 &&& (8191 : Int32))) - (1 : Int32))) ((p2 &&& ((own_sz (p1 &&& (8191 : Int32))) - (1 : Int32))) / (64 : Int32))) (p2 &&& ((own_sz (p1 &&& (8191 : Int32))) - (1 : Int32)))))])) _
    refine XS.ifNo X12.here hx rfl (hb hby at_225) rfl ((if0 _ _).trans (feq hc225).1) ?_
    show Steps p.tables e below (T12.setTop (mkF m 228 #[.val (.int p1), .val (.int p2), .val (.int p3), .val (.int p4), .val (.int p5), .val (.int (p1 &&& (8191 : Int32))), .val (.int ((p1 &&& (8191 : Int32)) * (64 : Int32))), .val (.int (own_sz (p1 &&& (8191 : Int32)))), .val (.int ((own_sz (p1 &&& (8191 : Int32))) - (1 : Int32))), .val (.int (own_hb p2 p5 p3)), .val (.int (own_qq p2 p5 (own_hb p2 p5 p3) p4 (p5 &&& (3 : Int32)))), .val (.int (p5 &&& (3 : Int32))), .val (.ref b6), .val (.int (1 : Int32)), .val (.int (own_hit (own_v2 (p2 &&& ((own_sz (p1 &&& (8191 : Int32))) - (1 : Int32))) ((own_hb p2 p5 p3) &&& ((own_sz (p1 &&& (8191 : Int32))) - (1 : Int32))) ((p2 &&& ((own_sz (p1 &&& (8191 : Int32))) - (1 : Int32))) / (64 : Int32))) (p2 &&& ((own_sz (p1 &&& (8191 : Int32))) - (1 : Int32))))), .val (.int (own_hit (own_v2 (p2 &&& ((own_sz (p1 &&& (8191 : Int32))) - (1 : Int32))) ((own_hb p2 p5 p3) &&& ((own_sz (p1 &&& (8191 : Int32))) - (1 : Int32))) (((own_hb p2 p5 p3) &&& ((own_sz (p1 &&& (8191 : Int32))) - (1 : Int32))) / (64 : Int32))) ((own_hb p2 p5 p3) &&& ((own_sz (p1 &&& (8191 : Int32))) - (1 : Int32))))), .val (.int (own_ex p2 ((own_sz (p1 &&& (8191 : Int32))) - (1 : Int32)) (own_hb p2 p5 p3) (own_qq p2 p5 (own_hb p2 p5 p3) p4 (p5 &&& (3 : Int32)))))] [])) _
    refine XS.iload X12.here hx rfl (hb hby at_228) rfl ?_
    show Steps p.tables e below (T12.setTop (mkF m 230 #[.val (.int p1), .val (.int p2), .val (.int p3), .val (.int p4), .val (.int p5), .val (.int (p1 &&& (8191 : Int32))), .val (.int ((p1 &&& (8191 : Int32)) * (64 : Int32))), .val (.int (own_sz (p1 &&& (8191 : Int32)))), .val (.int ((own_sz (p1 &&& (8191 : Int32))) - (1 : Int32))), .val (.int (own_hb p2 p5 p3)), .val (.int (own_qq p2 p5 (own_hb p2 p5 p3) p4 (p5 &&& (3 : Int32)))), .val (.int (p5 &&& (3 : Int32))), .val (.ref b6), .val (.int (1 : Int32)), .val (.int (own_hit (own_v2 (p2 &&& ((own_sz (p1 &&& (8191 : Int32))) - (1 : Int32))) ((own_hb p2 p5 p3) &&& ((own_sz (p1 &&& (8191 : Int32))) - (1 : Int32))) ((p2 &&& ((own_sz (p1 &&& (8191 : Int32))) - (1 : Int32))) / (64 : Int32))) (p2 &&& ((own_sz (p1 &&& (8191 : Int32))) - (1 : Int32))))), .val (.int (own_hit (own_v2 (p2 &&& ((own_sz (p1 &&& (8191 : Int32))) - (1 : Int32))) ((own_hb p2 p5 p3) &&& ((own_sz (p1 &&& (8191 : Int32))) - (1 : Int32))) (((own_hb p2 p5 p3) &&& ((own_sz (p1 &&& (8191 : Int32))) - (1 : Int32))) / (64 : Int32))) ((own_hb p2 p5 p3) &&& ((own_sz (p1 &&& (8191 : Int32))) - (1 : Int32))))), .val (.int (own_ex p2 ((own_sz (p1 &&& (8191 : Int32))) - (1 : Int32)) (own_hb p2 p5 p3) (own_qq p2 p5 (own_hb p2 p5 p3) p4 (p5 &&& (3 : Int32)))))] [(.int (own_hit (own_v2 (p2 &&& ((own_sz (p1 &&& (8191 : Int32))) - (1 : Int32))) ((own_hb p2 p5 p3) &&& ((own_sz (p1 &&& (8191 : Int32))) - (1 : Int32))) (((own_hb p2 p5 p3) &&& ((own_sz (p1 &&& (8191 : Int32))) - (1 : Int32))) / (64 : Int32))) ((own_hb p2 p5 p3) &&& ((own_sz (p1 &&& (8191 : Int32))) - (1 : Int32)))))])) _
    refine XS.ifNo X12.here hx rfl (hb hby at_230) rfl ((if0 _ _).trans (feq hc230).1) ?_
    show Steps p.tables e below (T12.setTop (mkF m 233 #[.val (.int p1), .val (.int p2), .val (.int p3), .val (.int p4), .val (.int p5), .val (.int (p1 &&& (8191 : Int32))), .val (.int ((p1 &&& (8191 : Int32)) * (64 : Int32))), .val (.int (own_sz (p1 &&& (8191 : Int32)))), .val (.int ((own_sz (p1 &&& (8191 : Int32))) - (1 : Int32))), .val (.int (own_hb p2 p5 p3)), .val (.int (own_qq p2 p5 (own_hb p2 p5 p3) p4 (p5 &&& (3 : Int32)))), .val (.int (p5 &&& (3 : Int32))), .val (.ref b6), .val (.int (1 : Int32)), .val (.int (own_hit (own_v2 (p2 &&& ((own_sz (p1 &&& (8191 : Int32))) - (1 : Int32))) ((own_hb p2 p5 p3) &&& ((own_sz (p1 &&& (8191 : Int32))) - (1 : Int32))) ((p2 &&& ((own_sz (p1 &&& (8191 : Int32))) - (1 : Int32))) / (64 : Int32))) (p2 &&& ((own_sz (p1 &&& (8191 : Int32))) - (1 : Int32))))), .val (.int (own_hit (own_v2 (p2 &&& ((own_sz (p1 &&& (8191 : Int32))) - (1 : Int32))) ((own_hb p2 p5 p3) &&& ((own_sz (p1 &&& (8191 : Int32))) - (1 : Int32))) (((own_hb p2 p5 p3) &&& ((own_sz (p1 &&& (8191 : Int32))) - (1 : Int32))) / (64 : Int32))) ((own_hb p2 p5 p3) &&& ((own_sz (p1 &&& (8191 : Int32))) - (1 : Int32))))), .val (.int (own_ex p2 ((own_sz (p1 &&& (8191 : Int32))) - (1 : Int32)) (own_hb p2 p5 p3) (own_qq p2 p5 (own_hb p2 p5 p3) p4 (p5 &&& (3 : Int32)))))] [])) _
    refine XS.aload X12.here hx rfl (hb hby at_233) rfl rfl ?_
    show Steps p.tables e below (T12.setTop (mkF m 235 #[.val (.int p1), .val (.int p2), .val (.int p3), .val (.int p4), .val (.int p5), .val (.int (p1 &&& (8191 : Int32))), .val (.int ((p1 &&& (8191 : Int32)) * (64 : Int32))), .val (.int (own_sz (p1 &&& (8191 : Int32)))), .val (.int ((own_sz (p1 &&& (8191 : Int32))) - (1 : Int32))), .val (.int (own_hb p2 p5 p3)), .val (.int (own_qq p2 p5 (own_hb p2 p5 p3) p4 (p5 &&& (3 : Int32)))), .val (.int (p5 &&& (3 : Int32))), .val (.ref b6), .val (.int (1 : Int32)), .val (.int (own_hit (own_v2 (p2 &&& ((own_sz (p1 &&& (8191 : Int32))) - (1 : Int32))) ((own_hb p2 p5 p3) &&& ((own_sz (p1 &&& (8191 : Int32))) - (1 : Int32))) ((p2 &&& ((own_sz (p1 &&& (8191 : Int32))) - (1 : Int32))) / (64 : Int32))) (p2 &&& ((own_sz (p1 &&& (8191 : Int32))) - (1 : Int32))))), .val (.int (own_hit (own_v2 (p2 &&& ((own_sz (p1 &&& (8191 : Int32))) - (1 : Int32))) ((own_hb p2 p5 p3) &&& ((own_sz (p1 &&& (8191 : Int32))) - (1 : Int32))) (((own_hb p2 p5 p3) &&& ((own_sz (p1 &&& (8191 : Int32))) - (1 : Int32))) / (64 : Int32))) ((own_hb p2 p5 p3) &&& ((own_sz (p1 &&& (8191 : Int32))) - (1 : Int32))))), .val (.int (own_ex p2 ((own_sz (p1 &&& (8191 : Int32))) - (1 : Int32)) (own_hb p2 p5 p3) (own_qq p2 p5 (own_hb p2 p5 p3) p4 (p5 &&& (3 : Int32)))))] [(.ref b6)])) _
    refine XS.iload X12.here hx rfl (hb hby at_235) rfl ?_
    show Steps p.tables e below (T12.setTop (mkF m 237 #[.val (.int p1), .val (.int p2), .val (.int p3), .val (.int p4), .val (.int p5), .val (.int (p1 &&& (8191 : Int32))), .val (.int ((p1 &&& (8191 : Int32)) * (64 : Int32))), .val (.int (own_sz (p1 &&& (8191 : Int32)))), .val (.int ((own_sz (p1 &&& (8191 : Int32))) - (1 : Int32))), .val (.int (own_hb p2 p5 p3)), .val (.int (own_qq p2 p5 (own_hb p2 p5 p3) p4 (p5 &&& (3 : Int32)))), .val (.int (p5 &&& (3 : Int32))), .val (.ref b6), .val (.int (1 : Int32)), .val (.int (own_hit (own_v2 (p2 &&& ((own_sz (p1 &&& (8191 : Int32))) - (1 : Int32))) ((own_hb p2 p5 p3) &&& ((own_sz (p1 &&& (8191 : Int32))) - (1 : Int32))) ((p2 &&& ((own_sz (p1 &&& (8191 : Int32))) - (1 : Int32))) / (64 : Int32))) (p2 &&& ((own_sz (p1 &&& (8191 : Int32))) - (1 : Int32))))), .val (.int (own_hit (own_v2 (p2 &&& ((own_sz (p1 &&& (8191 : Int32))) - (1 : Int32))) ((own_hb p2 p5 p3) &&& ((own_sz (p1 &&& (8191 : Int32))) - (1 : Int32))) (((own_hb p2 p5 p3) &&& ((own_sz (p1 &&& (8191 : Int32))) - (1 : Int32))) / (64 : Int32))) ((own_hb p2 p5 p3) &&& ((own_sz (p1 &&& (8191 : Int32))) - (1 : Int32))))), .val (.int (own_ex p2 ((own_sz (p1 &&& (8191 : Int32))) - (1 : Int32)) (own_hb p2 p5 p3) (own_qq p2 p5 (own_hb p2 p5 p3) p4 (p5 &&& (3 : Int32)))))] [(.int (own_qq p2 p5 (own_hb p2 p5 p3) p4 (p5 &&& (3 : Int32)))), (.ref b6)])) _
    refine st13.trans ?_
    show Steps p.tables e below (T13.setTop (mkF m 240 #[.val (.int p1), .val (.int p2), .val (.int p3), .val (.int p4), .val (.int p5), .val (.int (p1 &&& (8191 : Int32))), .val (.int ((p1 &&& (8191 : Int32)) * (64 : Int32))), .val (.int (own_sz (p1 &&& (8191 : Int32)))), .val (.int ((own_sz (p1 &&& (8191 : Int32))) - (1 : Int32))), .val (.int (own_hb p2 p5 p3)), .val (.int (own_qq p2 p5 (own_hb p2 p5 p3) p4 (p5 &&& (3 : Int32)))), .val (.int (p5 &&& (3 : Int32))), .val (.ref b6), .val (.int (1 : Int32)), .val (.int (own_hit (own_v2 (p2 &&& ((own_sz (p1 &&& (8191 : Int32))) - (1 : Int32))) ((own_hb p2 p5 p3) &&& ((own_sz (p1 &&& (8191 : Int32))) - (1 : Int32))) ((p2 &&& ((own_sz (p1 &&& (8191 : Int32))) - (1 : Int32))) / (64 : Int32))) (p2 &&& ((own_sz (p1 &&& (8191 : Int32))) - (1 : Int32))))), .val (.int (own_hit (own_v2 (p2 &&& ((own_sz (p1 &&& (8191 : Int32))) - (1 : Int32))) ((own_hb p2 p5 p3) &&& ((own_sz (p1 &&& (8191 : Int32))) - (1 : Int32))) (((own_hb p2 p5 p3) &&& ((own_sz (p1 &&& (8191 : Int32))) - (1 : Int32))) / (64 : Int32))) ((own_hb p2 p5 p3) &&& ((own_sz (p1 &&& (8191 : Int32))) - (1 : Int32))))), .val (.int (own_ex p2 ((own_sz (p1 &&& (8191 : Int32))) - (1 : Int32)) (own_hb p2 p5 p3) (own_qq p2 p5 (own_hb p2 p5 p3) p4 (p5 &&& (3 : Int32)))))] [(.int (own_hit (own_v2 (p2 &&& ((own_sz (p1 &&& (8191 : Int32))) - (1 : Int32))) ((own_hb p2 p5 p3) &&& ((own_sz (p1 &&& (8191 : Int32))) - (1 : Int32))) (((own_qq p2 p5 (own_hb p2 p5 p3) p4 (p5 &&& (3 : Int32))) &&& ((own_sz (p1 &&& (8191 : Int32))) - (1 : Int32))) / (64 : Int32))) ((own_qq p2 p5 (own_hb p2 p5 p3) p4 (p5 &&& (3 : Int32))) &&& ((own_sz (p1 &&& (8191 : Int32))) - (1 : Int32)))))])) _
    refine XS.iload X13.here hx rfl (hb hby at_240) rfl ?_
    show Steps p.tables e below (T13.setTop (mkF m 242 #[.val (.int p1), .val (.int p2), .val (.int p3), .val (.int p4), .val (.int p5), .val (.int (p1 &&& (8191 : Int32))), .val (.int ((p1 &&& (8191 : Int32)) * (64 : Int32))), .val (.int (own_sz (p1 &&& (8191 : Int32)))), .val (.int ((own_sz (p1 &&& (8191 : Int32))) - (1 : Int32))), .val (.int (own_hb p2 p5 p3)), .val (.int (own_qq p2 p5 (own_hb p2 p5 p3) p4 (p5 &&& (3 : Int32)))), .val (.int (p5 &&& (3 : Int32))), .val (.ref b6), .val (.int (1 : Int32)), .val (.int (own_hit (own_v2 (p2 &&& ((own_sz (p1 &&& (8191 : Int32))) - (1 : Int32))) ((own_hb p2 p5 p3) &&& ((own_sz (p1 &&& (8191 : Int32))) - (1 : Int32))) ((p2 &&& ((own_sz (p1 &&& (8191 : Int32))) - (1 : Int32))) / (64 : Int32))) (p2 &&& ((own_sz (p1 &&& (8191 : Int32))) - (1 : Int32))))), .val (.int (own_hit (own_v2 (p2 &&& ((own_sz (p1 &&& (8191 : Int32))) - (1 : Int32))) ((own_hb p2 p5 p3) &&& ((own_sz (p1 &&& (8191 : Int32))) - (1 : Int32))) (((own_hb p2 p5 p3) &&& ((own_sz (p1 &&& (8191 : Int32))) - (1 : Int32))) / (64 : Int32))) ((own_hb p2 p5 p3) &&& ((own_sz (p1 &&& (8191 : Int32))) - (1 : Int32))))), .val (.int (own_ex p2 ((own_sz (p1 &&& (8191 : Int32))) - (1 : Int32)) (own_hb p2 p5 p3) (own_qq p2 p5 (own_hb p2 p5 p3) p4 (p5 &&& (3 : Int32)))))] [(.int (own_ex p2 ((own_sz (p1 &&& (8191 : Int32))) - (1 : Int32)) (own_hb p2 p5 p3) (own_qq p2 p5 (own_hb p2 p5 p3) p4 (p5 &&& (3 : Int32))))), (.int (own_hit (own_v2 (p2 &&& ((own_sz (p1 &&& (8191 : Int32))) - (1 : Int32))) ((own_hb p2 p5 p3) &&& ((own_sz (p1 &&& (8191 : Int32))) - (1 : Int32))) (((own_qq p2 p5 (own_hb p2 p5 p3) p4 (p5 &&& (3 : Int32))) &&& ((own_sz (p1 &&& (8191 : Int32))) - (1 : Int32))) / (64 : Int32))) ((own_qq p2 p5 (own_hb p2 p5 p3) p4 (p5 &&& (3 : Int32))) &&& ((own_sz (p1 &&& (8191 : Int32))) - (1 : Int32)))))])) _
    refine XS.icmpNo X13.here hx rfl (hb hby at_242) rfl (teq hc242).2 ?_
    show Steps p.tables e below (T13.setTop (mkF m 245 #[.val (.int p1), .val (.int p2), .val (.int p3), .val (.int p4), .val (.int p5), .val (.int (p1 &&& (8191 : Int32))), .val (.int ((p1 &&& (8191 : Int32)) * (64 : Int32))), .val (.int (own_sz (p1 &&& (8191 : Int32)))), .val (.int ((own_sz (p1 &&& (8191 : Int32))) - (1 : Int32))), .val (.int (own_hb p2 p5 p3)), .val (.int (own_qq p2 p5 (own_hb p2 p5 p3) p4 (p5 &&& (3 : Int32)))), .val (.int (p5 &&& (3 : Int32))), .val (.ref b6), .val (.int (1 : Int32)), .val (.int (own_hit (own_v2 (p2 &&& ((own_sz (p1 &&& (8191 : Int32))) - (1 : Int32))) ((own_hb p2 p5 p3) &&& ((own_sz (p1 &&& (8191 : Int32))) - (1 : Int32))) ((p2 &&& ((own_sz (p1 &&& (8191 : Int32))) - (1 : Int32))) / (64 : Int32))) (p2 &&& ((own_sz (p1 &&& (8191 : Int32))) - (1 : Int32))))), .val (.int (own_hit (own_v2 (p2 &&& ((own_sz (p1 &&& (8191 : Int32))) - (1 : Int32))) ((own_hb p2 p5 p3) &&& ((own_sz (p1 &&& (8191 : Int32))) - (1 : Int32))) (((own_hb p2 p5 p3) &&& ((own_sz (p1 &&& (8191 : Int32))) - (1 : Int32))) / (64 : Int32))) ((own_hb p2 p5 p3) &&& ((own_sz (p1 &&& (8191 : Int32))) - (1 : Int32))))), .val (.int (own_ex p2 ((own_sz (p1 &&& (8191 : Int32))) - (1 : Int32)) (own_hb p2 p5 p3) (own_qq p2 p5 (own_hb p2 p5 p3) p4 (p5 &&& (3 : Int32)))))] [])) _
    refine XS.iconst X13.here hx rfl (hb hby at_245) ?_
    show Steps p.tables e below (T13.setTop (mkF m 246 #[.val (.int p1), .val (.int p2), .val (.int p3), .val (.int p4), .val (.int p5), .val (.int (p1 &&& (8191 : Int32))), .val (.int ((p1 &&& (8191 : Int32)) * (64 : Int32))), .val (.int (own_sz (p1 &&& (8191 : Int32)))), .val (.int ((own_sz (p1 &&& (8191 : Int32))) - (1 : Int32))), .val (.int (own_hb p2 p5 p3)), .val (.int (own_qq p2 p5 (own_hb p2 p5 p3) p4 (p5 &&& (3 : Int32)))), .val (.int (p5 &&& (3 : Int32))), .val (.ref b6), .val (.int (1 : Int32)), .val (.int (own_hit (own_v2 (p2 &&& ((own_sz (p1 &&& (8191 : Int32))) - (1 : Int32))) ((own_hb p2 p5 p3) &&& ((own_sz (p1 &&& (8191 : Int32))) - (1 : Int32))) ((p2 &&& ((own_sz (p1 &&& (8191 : Int32))) - (1 : Int32))) / (64 : Int32))) (p2 &&& ((own_sz (p1 &&& (8191 : Int32))) - (1 : Int32))))), .val (.int (own_hit (own_v2 (p2 &&& ((own_sz (p1 &&& (8191 : Int32))) - (1 : Int32))) ((own_hb p2 p5 p3) &&& ((own_sz (p1 &&& (8191 : Int32))) - (1 : Int32))) (((own_hb p2 p5 p3) &&& ((own_sz (p1 &&& (8191 : Int32))) - (1 : Int32))) / (64 : Int32))) ((own_hb p2 p5 p3) &&& ((own_sz (p1 &&& (8191 : Int32))) - (1 : Int32))))), .val (.int (own_ex p2 ((own_sz (p1 &&& (8191 : Int32))) - (1 : Int32)) (own_hb p2 p5 p3) (own_qq p2 p5 (own_hb p2 p5 p3) p4 (p5 &&& (3 : Int32)))))] [(.int (1 : Int32))])) _
    refine XS.goto X13.here hx rfl (pc0 := 246) (pc' := 250) rfl (hb hby at_246) (by decide) (by decide) ?_
    show Steps p.tables e below (T13.setTop (mkF m 250 #[.val (.int p1), .val (.int p2), .val (.int p3), .val (.int p4), .val (.int p5), .val (.int (p1 &&& (8191 : Int32))), .val (.int ((p1 &&& (8191 : Int32)) * (64 : Int32))), .val (.int (own_sz (p1 &&& (8191 : Int32)))), .val (.int ((own_sz (p1 &&& (8191 : Int32))) - (1 : Int32))), .val (.int (own_hb p2 p5 p3)), .val (.int (own_qq p2 p5 (own_hb p2 p5 p3) p4 (p5 &&& (3 : Int32)))), .val (.int (p5 &&& (3 : Int32))), .val (.ref b6), .val (.int (1 : Int32)), .val (.int (own_hit (own_v2 (p2 &&& ((own_sz (p1 &&& (8191 : Int32))) - (1 : Int32))) ((own_hb p2 p5 p3) &&& ((own_sz (p1 &&& (8191 : Int32))) - (1 : Int32))) ((p2 &&& ((own_sz (p1 &&& (8191 : Int32))) - (1 : Int32))) / (64 : Int32))) (p2 &&& ((own_sz (p1 &&& (8191 : Int32))) - (1 : Int32))))), .val (.int (own_hit (own_v2 (p2 &&& ((own_sz (p1 &&& (8191 : Int32))) - (1 : Int32))) ((own_hb p2 p5 p3) &&& ((own_sz (p1 &&& (8191 : Int32))) - (1 : Int32))) (((own_hb p2 p5 p3) &&& ((own_sz (p1 &&& (8191 : Int32))) - (1 : Int32))) / (64 : Int32))) ((own_hb p2 p5 p3) &&& ((own_sz (p1 &&& (8191 : Int32))) - (1 : Int32))))), .val (.int (own_ex p2 ((own_sz (p1 &&& (8191 : Int32))) - (1 : Int32)) (own_hb p2 p5 p3) (own_qq p2 p5 (own_hb p2 p5 p3) p4 (p5 &&& (3 : Int32)))))] [(.int (1 : Int32))])) _
    exact retN X13 hx (t := .boolean) Bd.returns (by simp) (hb hby at_250) hr
  · show Q0 Z p1 p2 p3 p4 p5 h0 n0 _ T13.heap _
    rw [q13]
    exact ⟨rfl, N13⟩
set_option maxRecDepth 65536 in
set_option maxHeartbeats 40000000 in
theorem comes_1 {Post : Tables → Env → Array Value → State → Outcome → State → Prop} (hpost : ∀ tb e args s v u, (limb_1_1.after args s (.returned v) u = true ∧ limb_1_2.after args s (.returned v) u = true ∧ True) → FrameEnd s (.returned v) u (Jvm.fieldLocs frame_1_writes args s ++ Jvm.arrayLocs frame_1_arrays args s ++ Jvm.staticLocs frame_1_statics s) 16 8320 → Post tb e args s (.returned v) u) :
    ArmFor flags0 classFile x code maxLocals ret World_1 tables_1 room_1 Calls_1 rest_1 Pre_1 Post := by
  intro l hfl _ _ p e ha hc hk s m args below hf hA hF happ hP
  obtain ⟨hcalls, hrest, hpre⟩ := hP
  obtain ⟨-, -, -, hnamed, -, -, -, hat⟩ := (Spec.applies_iff hf).mp happ
  obtain ⟨hg, hn⟩ := and_e (Cond.before_iff.mp (show (Jvm.Cond.and given_1 narrow_1).before args s = true from hpre))
  obtain ⟨g14, g15⟩ := and_e hg
  obtain ⟨g16, g17⟩ := and_e g15
  obtain ⟨g18, g19⟩ := and_e g17
  obtain ⟨g20, g21⟩ := and_e g19
  obtain ⟨g22, g23⟩ := and_e g21
  obtain ⟨w0, w1, w2, w3, w4, rfl⟩ : ∃ w0 w1 w2 w3 w4 : Value, args = #[w0, w1, w2, w3, w4] := by
    have hs : args.size = 5 := by simpa [Cond.value, given_1] using g14
    obtain ⟨L⟩ := args
    match L, hs with
    | [w0, w1, w2, w3, w4], _ => exact ⟨w0, w1, w2, w3, w4, rfl⟩
  have hw := fun d (hd : d ∈ tables_1) => atoms_spec (ws := Jvm.Cond.code x code maxLocals ret :: tables_1) hat d (List.mem_cons_of_mem _ hd)
  have hfit : Fit s := fun {y c} hc i hi => by
    obtain ⟨ha, rfl⟩ := Array.getElem?_eq_some_iff.mp hc
    have q := List.all_eq_true.mp ((Array.all_eq_true_iff_forall_mem.mp hF) _ (Array.getElem_mem ha)) i (List.mem_range.mpr hi)
    simpa [Array.getElem?_eq_getElem hi] using q
  obtain ⟨i0, ei0⟩ := is_v g16
  obtain rfl : w0 = (.int i0) := Option.some.inj ei0
  obtain ⟨i1, ei1⟩ := is_v g18
  obtain rfl : w1 = (.int i1) := Option.some.inj ei1
  obtain ⟨i2, ei2⟩ := is_v g20
  obtain rfl : w2 = (.int i2) := Option.some.inj ei2
  obtain ⟨i3, ei3⟩ := is_v g22
  obtain rfl : w3 = (.int i3) := Option.some.inj ei3
  obtain ⟨i4, ei4⟩ := is_v g23
  obtain rfl : w4 = (.int i4) := Option.some.inj ei4
  obtain ⟨n, o, h1, h2, h3, _, L, rfl, ⟨rfl, N⟩, hq⟩ := rm0 l s _ hw tables_1 i0 i1 i2 i3 i4 s.heap s.heap.size (Nat.le_refl _) p e ha hc hk s m _ below hf ((Spec.applies_iff_loose hf).mp happ).1 ⟨rfl, State.Warmed39.refl s, rfl⟩ trivial
  refine ⟨n, _, h1, h2, h3, hpost _ _ _ _ _ _ ⟨Cond.after_iff.mpr rfl, Cond.after_iff.mpr (eq_i res_at (Term.int_eval (1)) rfl), trivial⟩ ⟨hq.1, hq.2.1, (hq.2.2.sift fun y hy => Or.inr (N y hy)).mono (by decide) (by decide)⟩⟩
theorem main_1_1 : Claimed_1_1 := comes_1 fun _ _ _ _ _ _ h hF => ⟨h.1, hF⟩
theorem main_1_2 : Claimed_1_2 := comes_1 fun _ _ _ _ _ _ h hF => ⟨h.2.1, hF⟩

end Jvm.Pilot.@@N@@
namespace Jvm.Pilot.@@N@@
open Jvm Jvm.ClassFile Sem Op Lib Jvm.Free Jvm.Stand Jvm.Pilot.@@N@@.Jvm.D
/-! MADE BY PROGRAM (witnessworld.py) out of the Statement's table words and the real class files: 17 classes; the members and pool entries that the words name. The judged class is class 1, her method 1. -/
namespace start1
open Jvm.ClassFile
def u (s : String) : CpInfo := .utf8 (stringToUtf16 s)
/-- a pool by its gaps: so many unusable entries, then the entry; so many at the end -/
def gap : Nat → List CpInfo → List CpInfo
  | 0, r => r
  | n + 1, r => .unusable :: gap n r
def poolList (es : List (Nat × CpInfo)) (last : Nat) : List CpInfo := es.foldr (fun e r => gap e.1 (e.2 :: r)) (gap last [])
def pool (es : List (Nat × CpInfo)) (last : Nat) : Array CpInfo := ⟨poolList es last⟩
def fileOf (pool : Array CpInfo) (this : Nat) (attrs : Array Attribute := #[]) (ms : Array MethodInfo := #[]) (fl : Nat := 33) (sup : Nat := 0) (ifs : Array Nat := #[]) (fds : Array FieldInfo := #[]) : ClassFile where
  minorVersion := 0
  majorVersion := 65
  constantPool := pool
  accessFlags := fl
  thisClass := this
  superClass := sup
  interfaces := ifs
  fields := fds
  methods := ms
  attributes := attrs
def plain (name : String) (sup : Option ClassId) : Class where
  name := name
  kind := .ordinary
  loader := none
  accessFlags := 33
  super := sup
  interfaces := #[]
  cf := none
  fields := #[]
  methods := #[]
  instanceTypes := #[]
  staticTypes := #[]
  resolved := #[]
  callSites := []
  init := .initialized
  statics := none
  mirror := none

def pool0 : Array CpInfo := pool [(5, u "<init>"), (0, u "()V"), (1, .class_ 10), (1, u "java/lang/Object")] 113

def k0c0 : Code := { maxStack := 0, maxLocals := 1, code := object_method_1_code, exceptionTable := #[], attributes := #[] }
def k0m0 : Method := { name := "<init>", desc := "()V", sig := { parameters := [], returnType := none }, accessFlags := 1, code := some k0c0 }
/-- java/lang/Object -/
def k0 : Class := { plain "java/lang/Object" none with
  accessFlags := 33
  interfaces := #[]
  cf := some (fileOf pool0 8 #[] #[{ accessFlags := 1, nameIndex := 5, descriptorIndex := 6, attributes := #[] }] 33 0 #[] #[])
  fields := #[]
  methods := #[k0m0]
  instanceTypes := #[]
  staticTypes := #[]
  resolved := Array.replicate 124 none
  statics := none }

def pool1 : Array CpInfo := pool [(2, .class_ 4), (1, u "java/lang/Object"), (0, u "<init>"), (0, u "()V"), (0, .integer 131072), (0, .integer 65536), (0, .integer 262144), (0, .class_ 11), (0, u "com/example/knit6/knit6/patch/HashFilter"), (0, .methodref 10 13), (0, .nameAndType 5 14), (0, u "(I)V"), (0, .methodref 10 16), (0, .nameAndType 17 18), (0, u "mayHold"), (0, u "(I)Z"), (0, .methodref 10 20), (0, .nameAndType 21 14), (0, u "add"), (0, .class_ 23), (0, u "com/example/knit6/knit6/patch/HashFilterAddPinLaw"), (2, u "law"), (0, u "(IIIII)Z")] 3

def k1m0 : Method := { name := "<init>", desc := "()V", sig := { parameters := [], returnType := none }, accessFlags := 1, code := none }
def k1c1 : Code := { maxStack := 4, maxLocals := 17, code := code, exceptionTable := #[], attributes := #[] }
def k1m1 : Method := { name := "law", desc := "(IIIII)Z", sig := { parameters := [.int, .int, .int, .int, .int], returnType := some .boolean }, accessFlags := 9, code := some k1c1 }
/-- com/example/knit6/knit6/patch/HashFilterAddPinLaw -/
def k1 : Class := { plain "com/example/knit6/knit6/patch/HashFilterAddPinLaw" (some 0) with
  accessFlags := 49
  interfaces := #[]
  cf := some (fileOf pool1 22 #[] #[{ accessFlags := 1, nameIndex := 5, descriptorIndex := 6, attributes := #[] }, { accessFlags := 9, nameIndex := 26, descriptorIndex := 27, attributes := #[] }] 49 2 #[] #[])
  fields := #[]
  methods := #[k1m0, k1m1]
  instanceTypes := #[]
  staticTypes := #[]
  resolved := Array.replicate 31 none
  statics := none }

def pool2 : Array CpInfo := pool [(1, .methodref 2 3), (0, .class_ 4), (0, .nameAndType 5 6), (0, u "java/lang/Object"), (0, u "<init>"), (0, u "()V"), (0, .class_ 8), (0, u "com/example/knit6/knit6/patch/HashFilter"), (0, .integer 65536), (0, .methodref 11 12), (0, .class_ 13), (0, .nameAndType 14 15), (0, u "java/lang/Math"), (0, u "max"), (0, u "(II)I"), (0, .methodref 17 18), (0, .class_ 19), (0, .nameAndType 20 21), (0, u "java/lang/Integer"), (0, u "highestOneBit"), (0, u "(I)I"), (2, .fieldref 7 25), (0, .nameAndType 26 27), (0, u "bits"), (0, u "[J"), (0, .fieldref 7 29), (0, .nameAndType 30 31), (0, u "mask"), (0, u "I"), (0, u "BITS_PER_CODE"), (2, u "LEAST_BITS"), (0, u "(I)V"), (2, u "add"), (0, u "mayHold"), (0, u "(I)Z")] 3

def k2c0 : Code := { maxStack := 3, maxLocals := 3, code := prog_8_method_1_code, exceptionTable := #[], attributes := #[] }
def k2m0 : Method := { name := "<init>", desc := "(I)V", sig := { parameters := [.int], returnType := none }, accessFlags := 0, code := some k2c0 }
def k2c1 : Code := { maxStack := 7, maxLocals := 3, code := prog_8_method_2_code, exceptionTable := #[], attributes := #[] }
def k2m1 : Method := { name := "add", desc := "(I)V", sig := { parameters := [.int], returnType := none }, accessFlags := 0, code := some k2c1 }
def k2c2 : Code := { maxStack := 5, maxLocals := 3, code := prog_8_method_3_code, exceptionTable := #[], attributes := #[] }
def k2m2 : Method := { name := "mayHold", desc := "(I)Z", sig := { parameters := [.int], returnType := some .boolean }, accessFlags := 0, code := some k2c2 }
/-- com/example/knit6/knit6/patch/HashFilter -/
def k2 : Class := { plain "com/example/knit6/knit6/patch/HashFilter" (some 0) with
  accessFlags := 48
  interfaces := #[]
  cf := some (fileOf pool2 7 #[] #[{ accessFlags := 0, nameIndex := 5, descriptorIndex := 36, attributes := #[] }, { accessFlags := 0, nameIndex := 39, descriptorIndex := 36, attributes := #[] }, { accessFlags := 0, nameIndex := 40, descriptorIndex := 41, attributes := #[] }] 48 2 #[] #[{ accessFlags := 26, nameIndex := 32, descriptorIndex := 31, attributes := #[] }, { accessFlags := 26, nameIndex := 35, descriptorIndex := 31, attributes := #[] }, { accessFlags := 18, nameIndex := 26, descriptorIndex := 27, attributes := #[] }, { accessFlags := 18, nameIndex := 30, descriptorIndex := 31, attributes := #[] }])
  fields := #[{ name := "BITS_PER_CODE", type := .int, accessFlags := 26, slot := 0, constantValue := 0 }, { name := "LEAST_BITS", type := .int, accessFlags := 26, slot := 1, constantValue := 0 }, { name := "bits", type := (.array .long), accessFlags := 18, slot := 0, constantValue := 0 }, { name := "mask", type := .int, accessFlags := 18, slot := 1, constantValue := 0 }]
  methods := #[k2m0, k2m1, k2m2]
  instanceTypes := #[(.array .long), .int]
  staticTypes := #[.int, .int]
  resolved := Array.replicate 45 none
  statics := none }

def pool3 : Array CpInfo := pool [(1, .class_ 2), (0, u "java/lang/Math"), (1, .class_ 6), (1, u "java/lang/Object"), (0, u "<init>"), (0, u "()V"), (89, .class_ 100), (1, u "java/lang/Math$RandomNumberGeneratorHolder"), (71, u "negativeZeroFloatBits"), (0, u "J"), (2, u "negativeZeroDoubleBits"), (21, u "max"), (46, u "$assertionsDisabled"), (0, u "Z"), (88, u "(II)I"), (2, u "twoToTheDoubleScaleDown"), (0, u "D"), (4, u "twoToTheDoubleScaleUp"), (9, u "E"), (3, u "PI"), (2, u "TAU"), (2, u "DEGREES_TO_RADIANS"), (0, u "RADIANS_TO_DEGREES")] 94

def k3m0 : Method := { name := "<init>", desc := "()V", sig := { parameters := [], returnType := none }, accessFlags := 2, code := none }
def k3c1 : Code := { maxStack := 2, maxLocals := 2, code := jdk_29_method_65_code, exceptionTable := #[], attributes := #[] }
def k3m1 : Method := { name := "max", desc := "(II)I", sig := { parameters := [.int, .int], returnType := some .int }, accessFlags := 9, code := some k3c1 }
/-- java/lang/Math -/
def k3 : Class := { plain "java/lang/Math" (some 0) with
  accessFlags := 49
  interfaces := #[]
  cf := some (fileOf pool3 1 #[.nestMembers #[98]] #[{ accessFlags := 2, nameIndex := 7, descriptorIndex := 8, attributes := #[] }, { accessFlags := 9, nameIndex := 198, descriptorIndex := 335, attributes := #[] }] 49 4 #[] #[{ accessFlags := 25, nameIndex := 354, descriptorIndex := 339, attributes := #[] }, { accessFlags := 25, nameIndex := 358, descriptorIndex := 339, attributes := #[] }, { accessFlags := 25, nameIndex := 361, descriptorIndex := 339, attributes := #[] }, { accessFlags := 26, nameIndex := 364, descriptorIndex := 339, attributes := #[] }, { accessFlags := 26, nameIndex := 365, descriptorIndex := 339, attributes := #[] }, { accessFlags := 26, nameIndex := 172, descriptorIndex := 173, attributes := #[] }, { accessFlags := 26, nameIndex := 176, descriptorIndex := 173, attributes := #[] }, { accessFlags := 8, nameIndex := 344, descriptorIndex := 339, attributes := #[] }, { accessFlags := 8, nameIndex := 338, descriptorIndex := 339, attributes := #[] }, { accessFlags := 4120, nameIndex := 245, descriptorIndex := 246, attributes := #[] }])
  fields := #[{ name := "E", type := .double, accessFlags := 25, slot := 0, constantValue := 0 }, { name := "PI", type := .double, accessFlags := 25, slot := 1, constantValue := 0 }, { name := "TAU", type := .double, accessFlags := 25, slot := 2, constantValue := 0 }, { name := "DEGREES_TO_RADIANS", type := .double, accessFlags := 26, slot := 3, constantValue := 0 }, { name := "RADIANS_TO_DEGREES", type := .double, accessFlags := 26, slot := 4, constantValue := 0 }, { name := "negativeZeroFloatBits", type := .long, accessFlags := 26, slot := 5, constantValue := 0 }, { name := "negativeZeroDoubleBits", type := .long, accessFlags := 26, slot := 6, constantValue := 0 }, { name := "twoToTheDoubleScaleUp", type := .double, accessFlags := 8, slot := 7, constantValue := 0 }, { name := "twoToTheDoubleScaleDown", type := .double, accessFlags := 8, slot := 8, constantValue := 0 }, { name := "$assertionsDisabled", type := .boolean, accessFlags := 4120, slot := 9, constantValue := 0 }]
  methods := #[k3m0, k3m1]
  instanceTypes := #[]
  staticTypes := #[.double, .double, .double, .double, .double, .long, .long, .double, .double, .boolean]
  resolved := Array.replicate 460 none
  statics := none }

def pool4 : Array CpInfo := pool [(1, .class_ 2), (0, u "java/io/Serializable"), (0, .class_ 4), (0, u "java/lang/Object")] 2

/-- java/io/Serializable -/
def k4 : Class := { plain "java/io/Serializable" (some 0) with
  accessFlags := 1537
  interfaces := #[]
  cf := some (fileOf pool4 1 #[] #[] 1537 3 #[] #[])
  fields := #[]
  methods := #[]
  instanceTypes := #[]
  staticTypes := #[]
  resolved := Array.replicate 7 none
  statics := none }

def pool5 : Array CpInfo := pool [(2, .class_ 4), (1, u "java/lang/Object"), (0, u "<init>"), (0, u "()V"), (1, .class_ 10), (1, u "java/lang/Number"), (2, .class_ 14), (0, u "java/io/Serializable"), (0, u "serialVersionUID"), (0, u "J")] 20

def k5m0 : Method := { name := "<init>", desc := "()V", sig := { parameters := [], returnType := none }, accessFlags := 1, code := none }
/-- java/lang/Number -/
def k5 : Class := { plain "java/lang/Number" (some 0) with
  accessFlags := 1057
  interfaces := #[4]
  cf := some (fileOf pool5 8 #[] #[{ accessFlags := 1, nameIndex := 5, descriptorIndex := 6, attributes := #[] }] 1057 2 #[13] #[{ accessFlags := 26, nameIndex := 15, descriptorIndex := 16, attributes := #[] }])
  fields := #[{ name := "serialVersionUID", type := .long, accessFlags := 26, slot := 0, constantValue := 0 }]
  methods := #[k5m0]
  instanceTypes := #[]
  staticTypes := #[.long]
  resolved := Array.replicate 37 none
  statics := none }

def pool6 : Array CpInfo := pool [(1, .class_ 2), (0, u "java/lang/Comparable"), (0, .class_ 4), (0, u "java/lang/Object")] 7

/-- java/lang/Comparable -/
def k6 : Class := { plain "java/lang/Comparable" (some 0) with
  accessFlags := 1537
  interfaces := #[]
  cf := some (fileOf pool6 1 #[] #[] 1537 3 #[] #[])
  fields := #[]
  methods := #[]
  instanceTypes := #[]
  staticTypes := #[]
  resolved := Array.replicate 12 none
  statics := none }

def pool7 : Array CpInfo := pool [(1, .class_ 2), (0, u "java/lang/constant/Constable"), (0, .class_ 4), (0, u "java/lang/Object")] 6

/-- java/lang/constant/Constable -/
def k7 : Class := { plain "java/lang/constant/Constable" (some 0) with
  accessFlags := 1537
  interfaces := #[]
  cf := some (fileOf pool7 1 #[] #[] 1537 3 #[] #[])
  fields := #[]
  methods := #[]
  instanceTypes := #[]
  staticTypes := #[]
  resolved := Array.replicate 11 none
  statics := none }

def pool8 : Array CpInfo := pool [(1, .class_ 2), (0, u "java/lang/constant/ConstantDesc"), (0, .class_ 4), (0, u "java/lang/Object")] 32

/-- java/lang/constant/ConstantDesc -/
def k8 : Class := { plain "java/lang/constant/ConstantDesc" (some 0) with
  accessFlags := 1537
  interfaces := #[]
  cf := some (fileOf pool8 1 #[] #[] 1537 3 #[] #[])
  fields := #[]
  methods := #[]
  instanceTypes := #[]
  staticTypes := #[]
  resolved := Array.replicate 37 none
  statics := none }

def pool9 : Array CpInfo := pool [(1, .class_ 2), (0, u "java/lang/Integer"), (16, u "digits"), (0, u "[C"), (30, .methodref 1 52), (0, .nameAndType 53 54), (0, u "numberOfLeadingZeros"), (0, u "(I)I"), (30, u "DigitOnes"), (0, u "[B"), (2, u "DigitTens"), (37, .integer 2147483648), (61, .class_ 190), (0, u "java/lang/Integer$IntegerCache"), (3, u "I"), (8, .class_ 204), (0, u "java/lang/Number"), (2, u "value"), (56, .integer 65536), (37, u "TYPE"), (0, u "Ljava/lang/Class;"), (0, .class_ 305), (0, u "java/lang/Comparable"), (0, .class_ 307), (0, u "java/lang/constant/Constable"), (0, .class_ 309), (0, u "java/lang/constant/ConstantDesc"), (0, u "MIN_VALUE"), (1, u "MAX_VALUE"), (3, u "SIZE"), (1, u "BYTES"), (1, u "serialVersionUID"), (0, u "J"), (81, u "highestOneBit")] 49

def k9c0 : Code := { maxStack := 3, maxLocals := 1, code := jdk_33_method_45_code, exceptionTable := #[], attributes := #[] }
def k9m0 : Method := { name := "highestOneBit", desc := "(I)I", sig := { parameters := [.int], returnType := some .int }, accessFlags := 9, code := some k9c0 }
def k9c1 : Code := { maxStack := 3, maxLocals := 2, code := jdk_33_method_47_code, exceptionTable := #[], attributes := #[] }
def k9m1 : Method := { name := "numberOfLeadingZeros", desc := "(I)I", sig := { parameters := [.int], returnType := some .int }, accessFlags := 9, code := some k9c1 }
/-- java/lang/Integer -/
def k9 : Class := { plain "java/lang/Integer" (some 5) with
  accessFlags := 49
  interfaces := #[6, 7, 8]
  cf := some (fileOf pool9 1 #[.nestMembers #[189]] #[{ accessFlags := 9, nameIndex := 403, descriptorIndex := 54, attributes := #[] }, { accessFlags := 9, nameIndex := 53, descriptorIndex := 54, attributes := #[] }] 49 203 #[304, 306, 308] #[{ accessFlags := 25, nameIndex := 310, descriptorIndex := 194, attributes := #[] }, { accessFlags := 25, nameIndex := 312, descriptorIndex := 194, attributes := #[] }, { accessFlags := 25, nameIndex := 302, descriptorIndex := 303, attributes := #[] }, { accessFlags := 24, nameIndex := 19, descriptorIndex := 20, attributes := #[] }, { accessFlags := 24, nameIndex := 89, descriptorIndex := 86, attributes := #[] }, { accessFlags := 24, nameIndex := 85, descriptorIndex := 86, attributes := #[] }, { accessFlags := 18, nameIndex := 207, descriptorIndex := 194, attributes := #[] }, { accessFlags := 25, nameIndex := 316, descriptorIndex := 194, attributes := #[] }, { accessFlags := 25, nameIndex := 318, descriptorIndex := 194, attributes := #[] }, { accessFlags := 26, nameIndex := 320, descriptorIndex := 321, attributes := #[] }])
  fields := #[{ name := "MIN_VALUE", type := .int, accessFlags := 25, slot := 0, constantValue := 0 }, { name := "MAX_VALUE", type := .int, accessFlags := 25, slot := 1, constantValue := 0 }, { name := "TYPE", type := (.object "java/lang/Class"), accessFlags := 25, slot := 2, constantValue := 0 }, { name := "digits", type := (.array .char), accessFlags := 24, slot := 3, constantValue := 0 }, { name := "DigitTens", type := (.array .byte), accessFlags := 24, slot := 4, constantValue := 0 }, { name := "DigitOnes", type := (.array .byte), accessFlags := 24, slot := 5, constantValue := 0 }, { name := "value", type := .int, accessFlags := 18, slot := 0, constantValue := 0 }, { name := "SIZE", type := .int, accessFlags := 25, slot := 6, constantValue := 0 }, { name := "BYTES", type := .int, accessFlags := 25, slot := 7, constantValue := 0 }, { name := "serialVersionUID", type := .long, accessFlags := 26, slot := 8, constantValue := 0 }]
  methods := #[k9m0, k9m1]
  instanceTypes := #[.int]
  staticTypes := #[.int, .int, (.object "java/lang/Class"), (.array .char), (.array .byte), (.array .byte), .int, .int, .long]
  resolved := Array.replicate 453 none
  statics := none }

def pool10 : Array CpInfo := pool [(1, u "java/lang/Cloneable"), (0, .class_ 1), (0, u "java/lang/Object"), (0, .class_ 3)] 3

/-- java/lang/Cloneable -/
def k10 : Class := { plain "java/lang/Cloneable" (some 0) with
  accessFlags := 1537
  interfaces := #[]
  cf := some (fileOf pool10 2 #[] #[] 1537 4 #[] #[])
  fields := #[]
  methods := #[]
  instanceTypes := #[]
  staticTypes := #[]
  resolved := Array.replicate 8 none
  statics := none }

/-- the primitive byte -/
def k11 : Class := { plain "byte" none with kind := .primitive 'B', accessFlags := 0x411 }
/-- [B -/
def k12 : Class := { plain "[B" (some 0) with kind := .array 11 .byte, interfaces := #[10, 4], accessFlags := 1041 }

/-- the primitive int -/
def k13 : Class := { plain "int" none with kind := .primitive 'I', accessFlags := 0x411 }
/-- [I -/
def k14 : Class := { plain "[I" (some 0) with kind := .array 13 .int, interfaces := #[10, 4], accessFlags := 1041 }

/-- the primitive long -/
def k15 : Class := { plain "long" none with kind := .primitive 'J', accessFlags := 0x411 }
/-- [J -/
def k16 : Class := { plain "[J" (some 0) with kind := .array 15 .long, interfaces := #[10, 4], accessFlags := 1041 }

def heap : Heap := #[]
def classes : Array Class := #[k0, k1, k2, k3, k4, k5, k6, k7, k8, k9, k10, k11, k12, k13, k14, k15, k16]
def interned : List (Array UInt16 × Addr) := []
def slotsUsed : Nat := 0
def theMethod : MethodId := ⟨1, 1⟩
def args0 : Array Value := #[.int 100, .int 2, .int 3, .int 4, .int 5]
def aboutOver (below : List Frame) : State where
  vm := { classes := classes, interned := interned.toArray }
  heap := heap
  slotsUsed := slotsUsed
  threads := #[{ frames := .invoking theMethod args0 :: below }]
def below0 : List Frame := [.native { method := ⟨0, 0⟩, args := #[] }]
def about1 : State := aboutOver below0
def p0 : Program := .bare "" "" ""
def e0 : Env := launch0.env 0 0 0
theorem w_frames : about1.frames = Frame.invoking theMethod args0 :: below0 := rfl
set_option maxRecDepth 65536 in
theorem w_args : argsFit about1.vm theMethod args0 = true := by decide +kernel
set_option maxRecDepth 65536 in
theorem w_heap : heapFits about1 = true := by decide +kernel
set_option maxRecDepth 65536 in
theorem w_runnable : about1.curStatus? = some .runnable := by decide +kernel
set_option maxRecDepth 65536 in
theorem w_alone : about1.alone = true := by decide +kernel
set_option maxRecDepth 65536 in
theorem w_named : about1.methodNamed? x = some theMethod := by decide +kernel
set_option maxRecDepth 65536 in
theorem w_hears : about1.hears theMethod below0 = true := by decide +kernel
set_option maxRecDepth 65536 in
theorem w_ripe : about1.ripe theMethod args0 below0 = true := by decide +kernel
theorem w_running : about1.status = .running := rfl
set_option maxRecDepth 65536 in
theorem w_room : about1.hasRoom e0.platform room_1 = true :=
  launch0.hasRoom_least _ room_1 (by decide +kernel) (by decide +kernel) (by decide +kernel) (by decide +kernel) (by decide +kernel) (by decide +kernel)
theorem allAtoms_all (ts : List Jvm.Cond) (a : Array Jvm.Value) (st : Jvm.State) : (allAtoms ts).before a st = ts.all (fun c => c.before a st) := by
  induction ts with
  | nil => rfl
  | cons c t ih =>
    show (Jvm.Cond.and c (allAtoms t)).before a st = _
    rw [Jvm.Cond.before_and, ih, List.all_cons]
def words1 : List Jvm.Cond := Jvm.Cond.code x code maxLocals ret :: tables_1
/-- a 'code' word, met by the world's own term for the bytes: nothing is compared byte by byte -/
theorem code_word {y : MethodName} {bytes : ByteArray} {mx : Nat} {rt : Option FieldType} {a : Array Value} {s : State} {m : MethodId} {meth : Method} {c : Code} (h1 : s.methodNamed? y = some m) (h2 : s.vm.method? m = some meth) (h3 : meth.code = some c) (h4 : c.code = bytes)
    (h5 : (c.maxLocals == mx && c.exceptionTable.isEmpty && decide (c.maxStack ≤ mostOperands) && decide (meth.sig.returnType = rt) && !meth.locks && decide (parseMethodDescriptor y.desc = some meth.sig)) = true) : (Jvm.Cond.code y bytes mx rt).before a s = true := by
  simp only [Bool.and_eq_true, beq_iff_eq, Bool.not_eq_true', decide_eq_true_eq] at h5
  obtain ⟨⟨⟨⟨⟨g1, g2⟩, g3⟩, g4⟩, g5⟩, g6⟩ := h5
  simp [Cond.before, Cond.holds, Cond.value, h1, h2, h3, h4, g1, g2, g3, g4, g5, g6]
def isCode : Jvm.Cond → Bool
  | .code _ _ _ _ => true
  | _ => false
theorem all_split {L : List Jvm.Cond} {P : Jvm.Cond → Bool} (h1 : L.all (fun c => isCode c || P c) = true) (h2 : ∀ c ∈ L.filter isCode, P c = true) : L.all P = true := by
  refine List.all_eq_true.mpr fun c hc => ?_
  have h := List.all_eq_true.mp h1 c hc
  rcases Bool.eq_false_or_eq_true (isCode c) with hi | hi
  · exact h2 c (List.mem_filter.mpr ⟨hc, hi⟩)
  · simpa [hi] using h
set_option maxRecDepth 65536 in
theorem w_c0 : (Jvm.Cond.code x code maxLocals ret).before args0 about1 = true := code_word (m := ⟨1, 1⟩) (meth := k1m1) (c := k1c1) (by decide +kernel) rfl rfl rfl (by decide +kernel)
set_option maxRecDepth 65536 in
theorem w_c1 : (Jvm.Cond.code ({ cls := "com/example/knit6/knit6/patch/HashFilter", name := "<init>", desc := "(I)V" } : Jvm.MethodName) prog_8_method_1_code (3 : Nat) (Option.none : Option Jvm.ClassFile.FieldType)).before args0 about1 = true := code_word (m := ⟨2, 0⟩) (meth := k2m0) (c := k2c0) (by decide +kernel) rfl rfl rfl (by decide +kernel)
set_option maxRecDepth 65536 in
theorem w_c2 : (Jvm.Cond.code ({ cls := "java/lang/Object", name := "<init>", desc := "()V" } : Jvm.MethodName) object_method_1_code (1 : Nat) (Option.none : Option Jvm.ClassFile.FieldType)).before args0 about1 = true := code_word (m := ⟨0, 0⟩) (meth := k0m0) (c := k0c0) (by decide +kernel) rfl rfl rfl (by decide +kernel)
set_option maxRecDepth 65536 in
theorem w_c3 : (Jvm.Cond.code ({ cls := "java/lang/Math", name := "max", desc := "(II)I" } : Jvm.MethodName) jdk_29_method_65_code (2 : Nat) (Option.some Jvm.ClassFile.FieldType.int)).before args0 about1 = true := code_word (m := ⟨3, 1⟩) (meth := k3m1) (c := k3c1) (by decide +kernel) rfl rfl rfl (by decide +kernel)
set_option maxRecDepth 65536 in
theorem w_c4 : (Jvm.Cond.code ({ cls := "java/lang/Integer", name := "highestOneBit", desc := "(I)I" } : Jvm.MethodName) jdk_33_method_45_code (1 : Nat) (Option.some Jvm.ClassFile.FieldType.int)).before args0 about1 = true := code_word (m := ⟨9, 0⟩) (meth := k9m0) (c := k9c0) (by decide +kernel) rfl rfl rfl (by decide +kernel)
set_option maxRecDepth 65536 in
theorem w_c5 : (Jvm.Cond.code ({ cls := "java/lang/Integer", name := "numberOfLeadingZeros", desc := "(I)I" } : Jvm.MethodName) jdk_33_method_47_code (2 : Nat) (Option.some Jvm.ClassFile.FieldType.int)).before args0 about1 = true := code_word (m := ⟨9, 1⟩) (meth := k9m1) (c := k9c1) (by decide +kernel) rfl rfl rfl (by decide +kernel)
set_option maxRecDepth 65536 in
theorem w_c6 : (Jvm.Cond.code ({ cls := "com/example/knit6/knit6/patch/HashFilter", name := "mayHold", desc := "(I)Z" } : Jvm.MethodName) prog_8_method_3_code (3 : Nat) (Option.some Jvm.ClassFile.FieldType.boolean)).before args0 about1 = true := code_word (m := ⟨2, 2⟩) (meth := k2m2) (c := k2c2) (by decide +kernel) rfl rfl rfl (by decide +kernel)
set_option maxRecDepth 65536 in
theorem w_c7 : (Jvm.Cond.code ({ cls := "com/example/knit6/knit6/patch/HashFilter", name := "add", desc := "(I)V" } : Jvm.MethodName) prog_8_method_2_code (3 : Nat) (Option.none : Option Jvm.ClassFile.FieldType)).before args0 about1 = true := code_word (m := ⟨2, 1⟩) (meth := k2m1) (c := k2c1) (by decide +kernel) rfl rfl rfl (by decide +kernel)
def codes1 : List Jvm.Cond := [Jvm.Cond.code x code maxLocals ret, Jvm.Cond.code ({ cls := "com/example/knit6/knit6/patch/HashFilter", name := "<init>", desc := "(I)V" } : Jvm.MethodName) prog_8_method_1_code (3 : Nat) (Option.none : Option Jvm.ClassFile.FieldType), Jvm.Cond.code ({ cls := "java/lang/Object", name := "<init>", desc := "()V" } : Jvm.MethodName) object_method_1_code (1 : Nat) (Option.none : Option Jvm.ClassFile.FieldType), Jvm.Cond.code ({ cls := "java/lang/Math", name := "max", desc := "(II)I" } : Jvm.MethodName) jdk_29_method_65_code (2 : Nat) (Option.some Jvm.ClassFile.FieldType.int), Jvm.Cond.code ({ cls := "java/lang/Integer", name := "highestOneBit", desc := "(I)I" } : Jvm.MethodName) jdk_33_method_45_code (1 : Nat) (Option.some Jvm.ClassFile.FieldType.int), Jvm.Cond.code ({ cls := "java/lang/Integer", name := "numberOfLeadingZeros", desc := "(I)I" } : Jvm.MethodName) jdk_33_method_47_code (2 : Nat) (Option.some Jvm.ClassFile.FieldType.int), Jvm.Cond.code ({ cls := "com/example/knit6/knit6/patch/HashFilter", name := "mayHold", desc := "(I)Z" } : Jvm.MethodName) prog_8_method_3_code (3 : Nat) (Option.some Jvm.ClassFile.FieldType.boolean), Jvm.Cond.code ({ cls := "com/example/knit6/knit6/patch/HashFilter", name := "add", desc := "(I)V" } : Jvm.MethodName) prog_8_method_2_code (3 : Nat) (Option.none : Option Jvm.ClassFile.FieldType)]
set_option maxRecDepth 65536 in
theorem codes_eq : words1.filter isCode = codes1 := rfl
theorem w_codes : ∀ c ∈ words1.filter isCode, c.before args0 about1 = true := by
  rw [codes_eq]
  intro c hc
  simp only [codes1, List.mem_cons, List.not_mem_nil, or_false] at hc
  rcases hc with rfl | rfl | rfl | rfl | rfl | rfl | rfl | rfl
  · exact w_c0
  · exact w_c1
  · exact w_c2
  · exact w_c3
  · exact w_c4
  · exact w_c5
  · exact w_c6
  · exact w_c7
set_option maxRecDepth 65536 in
theorem w_t1 : (words1.take 24).all (fun c => isCode c || c.before args0 about1) = true := by decide +kernel
set_option maxRecDepth 65536 in
theorem w_t2 : (words1.drop 24).all (fun c => isCode c || c.before args0 about1) = true := by decide +kernel
theorem w_tables : (allAtoms (Jvm.Cond.code x code maxLocals ret :: tables_1)).before args0 about1 = true := by
  rw [allAtoms_all]
  show words1.all (fun c => c.before args0 about1) = true
  refine all_split ?_ w_codes
  rw [← List.take_append_drop 24 words1, List.all_append, w_t1, w_t2]
  rfl
set_option maxRecDepth 65536 in
theorem w_case : (Jvm.Cond.and given_1 narrow_1).before args0 about1 = true := by decide +kernel
theorem w_applies : (headSpec (Jvm.Cond.code x code maxLocals ret :: tables_1) room_1).applies x e0.platform about1 = true :=
  (Spec.applies_iff w_frames).mpr ⟨w_running, w_runnable, w_alone, w_named, w_hears, w_ripe, w_room, w_tables⟩
theorem atStart : AtStart classFile x code maxLocals ret World_1 tables_1 room_1 Calls_1 rest_1 Pre_1 launch0 p0 e0 about1 theMethod args0 below0 :=
  ⟨lists_1, trivial, launch0.admits_env _ _ _, launch0.least_env, fairChoices_fair.cas, fairChoices_fair.clock, w_frames, w_args, w_heap, w_applies, trivial, trivial, w_case⟩
end start1
theorem witness_1 : WitnessClaimed_1 := ⟨start1.p0, start1.e0, start1.about1, start1.theMethod, start1.args0, start1.below0, start1.atStart⟩
end Jvm.Pilot.@@N@@
