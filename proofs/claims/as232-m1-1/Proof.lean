import JvmDerived
import JvmDerived.Pilot.@@N@@Statement
import JvmDerived.Pilot.@@N@@Code
set_option linter.unusedVariables false
set_option linter.unusedSimpArgs false
@@BLOCK:NumsL.lean.txt@@
namespace Jvm.Pilot.@@N@@
open Jvm Jvm.ClassFile Sem Op Lib Jvm.Free Jvm.Stand Jvm.LawKit Jvm.RoadKit Bundle Jvm.Pilot.@@N@@.Jvm.D
/-- the words that the law lays into both arrays -/
def own_ws (a b c d : Int64) : List Int64 := [a, b, c, d, a ^^^ c, b ^^^ d, a ^^^ (-1)]
theorem own_getD (ws : List Int64) (i : Nat) : (ws.map Value.long).getD i (.long (0 : Int64)) = .long (ws.getD i 0) := by
  simp only [List.getD_eq_getElem?_getD, List.getElem?_map]
  cases ws[i]? <;> rfl
/-- the bit -/
def own_bit (n : Int32) : Int64 := (1 : Int64) <<< ((n % (64 : Int32)) &&& 0x3f).toInt64
theorem own_nn {x : Int32} (h : 0 ≤ x.toInt) : ¬ x < 0 := by rw [Int32.lt_iff_toInt_lt]; exact Int.not_lt.mpr h
/-- the array behind the call of add, word by word -/
theorem own_after {cA : Cell} {ws : List Int64} (S : cA.slots.size = (7 : Int32).toNatClampNeg) (H : Has cA (ws.map Value.long) (.long (0 : Int64))) (j : Int32) (hj : ¬ j < 0 ∧ j < 7) (bit : Int64) (i : Int32) (hi : ¬ i < 0 ∧ i < 7) :
    (cA.setSlot j.toNatClampNeg (.long (ws.getD j.toNatClampNeg 0 ||| bit))).slots[i.toNatClampNeg]? = some (.long (if i = j then ws.getD i.toNatClampNeg 0 ||| bit else ws.getD i.toNatClampNeg 0)) := by
  by_cases e : i = j
  · rw [get_hit (inb_of S hj) e, if_pos e, e]
  · rw [get_miss hj.1 hi.1 e, if_neg e, H _ (Nat.lt_of_not_le fun q => (inb_of S hi) (Or.inr q)), own_getD]
theorem own_at {cB : Cell} {ws : List Int64} (S : cB.slots.size = (7 : Int32).toNatClampNeg) (H : Has cB (ws.map Value.long) (.long (0 : Int64))) (i : Int32) (hi : ¬ i < 0 ∧ i < 7) :
    cB.slots[i.toNatClampNeg]? = some (.long (ws.getD i.toNatClampNeg 0)) := by
  rw [H _ (Nat.lt_of_not_le fun q => (inb_of S hi) (Or.inr q)), own_getD]
/-- the place that is written: offset + number / 64 -/
def own_j (p1 p2 : Int32) : Int32 := (p1 &&& (3 : Int32)) + ((p2 &&& (255 : Int32)) / (64 : Int32))
theorem own_n (p2 : Int32) : 0 ≤ (p2 &&& (255 : Int32)).toInt ∧ (p2 &&& (255 : Int32)).toInt ≤ 255 := c_and p2 255 (by decide)
theorem own_j_in (p1 p2 : Int32) : ¬ own_j p1 p2 < 0 ∧ own_j p1 p2 < 7 := by
  have h1 : 0 ≤ (p1 &&& (3 : Int32)).toInt ∧ (p1 &&& (3 : Int32)).toInt ≤ 3 := c_and p1 3 (by decide)
  have h2 := own_n p2
  have h3 : ((p2 &&& (255 : Int32)) / (64 : Int32)).toInt = (p2 &&& (255 : Int32)).toInt / 64 := (c_idiv (p2 &&& 255) 64 64 rfl (by decide)).1 h2.1
  have h4 : (own_j p1 p2).toInt = (p1 &&& (3 : Int32)).toInt + ((p2 &&& (255 : Int32)) / (64 : Int32)).toInt := Jvm.Kit.i32_add (by omega) (by omega)
  refine ⟨own_nn (by omega), ?_⟩
  rw [Int32.lt_iff_toInt_lt, show (7 : Int32).toInt = 7 from rfl]; omega
theorem d1_0 : decode prog_31_method_30_code 0 = .ok (.aload_n 0, 1) := by decide +kernel
theorem d1_1 : decode prog_31_method_30_code 1 = .ok (.iload_n 1, 1) := by decide +kernel
theorem d1_2 : decode prog_31_method_30_code 2 = .ok (.iload_n 2, 1) := by decide +kernel
theorem d1_3 : decode prog_31_method_30_code 3 = .ok (.bipush 64, 2) := by decide +kernel
theorem d1_5 : decode prog_31_method_30_code 5 = .ok (.idiv, 1) := by decide +kernel
theorem d1_6 : decode prog_31_method_30_code 6 = .ok (.iadd, 1) := by decide +kernel
theorem d1_7 : decode prog_31_method_30_code 7 = .ok (.dup2, 1) := by decide +kernel
theorem d1_8 : decode prog_31_method_30_code 8 = .ok (.laload, 1) := by decide +kernel
theorem d1_9 : decode prog_31_method_30_code 9 = .ok (.lconst 1, 1) := by decide +kernel
theorem d1_10 : decode prog_31_method_30_code 10 = .ok (.iload_n 2, 1) := by decide +kernel
theorem d1_11 : decode prog_31_method_30_code 11 = .ok (.bipush 64, 2) := by decide +kernel
theorem d1_13 : decode prog_31_method_30_code 13 = .ok (.irem, 1) := by decide +kernel
theorem d1_14 : decode prog_31_method_30_code 14 = .ok (.lshl, 1) := by decide +kernel
theorem d1_15 : decode prog_31_method_30_code 15 = .ok (.lor, 1) := by decide +kernel
theorem d1_16 : decode prog_31_method_30_code 16 = .ok (.lastore, 1) := by decide +kernel
theorem d1_17 : decode prog_31_method_30_code 17 = .ok (.return_, 1) := by decide +kernel
theorem pn_1 : plainName "com/example/rillpath/rillpath/engine/StepSets" = true := by first | (simp [plainName, overriddenIn]; done) | decide +kernel
theorem ef_1 (m : MethodId) (x0 : Addr) (x1 : Int32) (x2 : Int32) : entryFrame m #[(.ref x0), (.int x1), (.int x2)] 3 = mkF m 0 #[.val (.ref x0), .val (.int x1), .val (.int x2)] [] := by first | (simp [entryFrame, mkF, argsToLocals, Value.category]; done) | rfl
def Q1 (Z : State) (a1 : Addr) (p2 : Int32) (p3 : Int32) (w4 : Int64) (cl_a1 : Cell) (h0 : Heap) (n0 : Nat) (v : Option Value) (h : Heap) (L : List Loc) : Prop := v = none ∧ Fr n0 L ∧ Keep h0 h [a1] ∧ Arr Z h a1 (cl_a1.setSlot (p2 + (p3 / (64 : Int32))).toNatClampNeg (.long (w4 ||| own_bit p3))) .long
set_option maxRecDepth 65536 in
set_option maxHeartbeats 40000000 in
theorem rm1 (l : Launch) (Z : State) (a0 : Array Value) (hw : ∀ d ∈ tables_1, d.before a0 Z = true) (ws : List Jvm.Cond) (a1 : Addr) (p2 : Int32) (p3 : Int32) (w4 : Int64) (cl_a1 : Cell) (h0 : Heap) (n0 : Nat) (Z0 : n0 ≤ h0.size) (Ar_a1 : Arr Z h0 a1 cl_a1 .long) (hin8 : ¬ ((p2 + (p3 / (64 : Int32))) < 0 ∨ cl_a1.slots.size ≤ ((p2 + (p3 / (64 : Int32)))).toNatClampNeg)) (hat8 : cl_a1.slots[((p2 + (p3 / (64 : Int32)))).toNatClampNeg]? = some (.long w4)) (hin16 : ¬ ((p2 + (p3 / (64 : Int32))) < 0 ∨ cl_a1.slots.size ≤ ((p2 + (p3 / (64 : Int32)))).toNatClampNeg)) (g_a1 : n0 ≤ a1) :
    MetFree l (⟨"com/example/rillpath/rillpath/engine/StepSets", "add", "([JII)V"⟩ : MethodName) (head1 (Jvm.Cond.code (⟨"com/example/rillpath/rillpath/engine/StepSets", "add", "([JII)V"⟩ : MethodName) prog_31_method_30_code 3 none :: ws) ({ frames := 0, cells := 0, slots := 0, locals := 0 } : Room)) (fun a U => a = #[(.ref a1), (.int p2), (.int p3)] ∧ Z.Warmed39 U.vm ∧ U.heap = h0) (fun _ _ _ _ _ => True) (fun _ U o U' => ∃ v L, o = .returned v ∧ Q1 Z a1 p2 p3 w4 cl_a1 h0 n0 v U'.heap L ∧ FrameEnd U o U' L ({ frames := 0, cells := 0, slots := 0, locals := 0 } : Room).cells ({ frames := 0, cells := 0, slots := 0, locals := 0 } : Room).slots) := by
  refine MetFree.of_bodySF (plainFor_of_name pn_1) hisR ?_
  intro p e s m args below meth c s₁ Bd hml0 hP hK
  obtain ⟨rfl, hZ, hh⟩ := hP
  have hx := Bd.exec
  have hby := Bd.bytes
  have hml : c.maxLocals = 3 := hml0
  have hown : s.vm.findClass "com/example/rillpath/rillpath/engine/StepSets" = some m.cls := findClass_of_methodNamed Bd.named
  have hnm := (name_of_methodNamed Bd.named Bd.method).1
  have X0 : Stand p l e ({ frames := 0, cells := 0, slots := 0, locals := 0 } : Room) s m #[(.ref a1), (.int p2), (.int p3)] below meth c s₁ [] 0 0 := Stand.of_body Bd
  have e0 : s₁.heap = h0 := by rw [← hh, Bd.state]; rfl
  have N0 := Fr.nil n0
  have pre0 : ∀ t, Steps p.tables e below (s₁.setTop (mkF m 0 #[.val (.ref a1), .val (.int p2), .val (.int p3)] [])) t → Steps p.tables e below (s₁.setTop (entryFrame m #[(.ref a1), (.int p2), (.int p3)] 3)) t := fun t k => castTop (ef_1 m a1 p2 p3) k
  -- 3. LAWS
  obtain ⟨T5, h5, X5, e5, W5, st5⟩ := stJ X0 hx hZ e0 Ar_a1 (j := (p2 + (p3 / (64 : Int32)))) hin16 (g := (mkF m 16 #[.val (.ref a1), .val (.int p2), .val (.int p3)] [(.long (w4 ||| ((1 : Int64) <<< ((p3 % (64 : Int32)) &&& 0x3f).toInt64))), (.int (p2 + (p3 / (64 : Int32)))), (.ref a1)])) rfl rfl (hb hby d1_16)
  have N5 := Fr.snoc X5 N0 g_a1
  -- Ar_a1.same W5 : the array with (.long (w4 ||| ((1 : Int64) <<< ((p3 % (64 : Int32)) &&& 0x3f).toInt64))) at the place (p2 + (p3 / (64 : Int32)))
  have K5 : Keep h0 h5 [a1] := (Keep.refl h0 [a1]).wr W5 (Or.inl (List.mem_of_getElem? (i := 0) rfl))
  obtain ⟨fs, hr, hrun, hended, hW, hsame⟩ := X5.leave (v := none) (fun _ => rfl)
  refine ⟨_, _, pre0 _ ?_, hrun, hended, _, _, rfl, ?_, ⟨_, rfl⟩, hW, hsame.mono (by decide) (by decide)⟩
  -- 4. STEPS
  · show Steps p.tables e below (s₁.setTop (mkF m 0 #[.val (.ref a1), .val (.int p2), .val (.int p3)] [])) _
    refine XS.aloadN X0.here hx rfl (hb hby d1_0) rfl rfl ?_
    show Steps p.tables e below (s₁.setTop (mkF m 1 #[.val (.ref a1), .val (.int p2), .val (.int p3)] [(.ref a1)])) _
    refine XS.iloadN X0.here hx rfl (hb hby d1_1) rfl ?_
    show Steps p.tables e below (s₁.setTop (mkF m 2 #[.val (.ref a1), .val (.int p2), .val (.int p3)] [(.int p2), (.ref a1)])) _
    refine XS.iloadN X0.here hx rfl (hb hby d1_2) rfl ?_
    show Steps p.tables e below (s₁.setTop (mkF m 3 #[.val (.ref a1), .val (.int p2), .val (.int p3)] [(.int p3), (.int p2), (.ref a1)])) _
    refine XS.bipush X0.here hx rfl (hb hby d1_3) ?_
    show Steps p.tables e below (s₁.setTop (mkF m 5 #[.val (.ref a1), .val (.int p2), .val (.int p3)] [(.int (64 : Int32)), (.int p3), (.int p2), (.ref a1)])) _
    refine XS.idiv X0.here hx rfl (hb hby d1_5) rfl (by decide) ?_
    show Steps p.tables e below (s₁.setTop (mkF m 6 #[.val (.ref a1), .val (.int p2), .val (.int p3)] [(.int (p3 / (64 : Int32))), (.int p2), (.ref a1)])) _
    refine XS.iadd X0.here hx rfl (hb hby d1_6) rfl ?_
    show Steps p.tables e below (s₁.setTop (mkF m 7 #[.val (.ref a1), .val (.int p2), .val (.int p3)] [(.int (p2 + (p3 / (64 : Int32)))), (.ref a1)])) _
    jvm_step X0.here [X0.here.top, hx, (hb hby d1_7), Value.category]
    show Steps p.tables e below (s₁.setTop (mkF m 8 #[.val (.ref a1), .val (.int p2), .val (.int p3)] [(.int (p2 + (p3 / (64 : Int32)))), (.ref a1), (.int (p2 + (p3 / (64 : Int32)))), (.ref a1)])) _
    refine X0.laload hx (j := (p2 + (p3 / (64 : Int32)))) (v := (.long w4)) (by rw [e0]; exact Ar_a1.1) (State.isArrayOf_alike hZ.alike Ar_a1.2.1) Ar_a1.2.2 hin8 hat8 (g := (mkF m 8 #[.val (.ref a1), .val (.int p2), .val (.int p3)] [(.int (p2 + (p3 / (64 : Int32)))), (.ref a1), (.int (p2 + (p3 / (64 : Int32)))), (.ref a1)])) rfl rfl (hb hby d1_8) _ ?_
    show Steps p.tables e below (s₁.setTop (mkF m 9 #[.val (.ref a1), .val (.int p2), .val (.int p3)] [(.long w4), (.int (p2 + (p3 / (64 : Int32)))), (.ref a1)])) _
    refine XS.lconst X0.here hx rfl (hb hby d1_9) ?_
    show Steps p.tables e below (s₁.setTop (mkF m 10 #[.val (.ref a1), .val (.int p2), .val (.int p3)] [(.long (1 : Int64)), (.long w4), (.int (p2 + (p3 / (64 : Int32)))), (.ref a1)])) _
    refine XS.iloadN X0.here hx rfl (hb hby d1_10) rfl ?_
    show Steps p.tables e below (s₁.setTop (mkF m 11 #[.val (.ref a1), .val (.int p2), .val (.int p3)] [(.int p3), (.long (1 : Int64)), (.long w4), (.int (p2 + (p3 / (64 : Int32)))), (.ref a1)])) _
    refine XS.bipush X0.here hx rfl (hb hby d1_11) ?_
    show Steps p.tables e below (s₁.setTop (mkF m 13 #[.val (.ref a1), .val (.int p2), .val (.int p3)] [(.int (64 : Int32)), (.int p3), (.long (1 : Int64)), (.long w4), (.int (p2 + (p3 / (64 : Int32)))), (.ref a1)])) _
    refine iremM X0 hx rfl (hb hby d1_13) rfl (by decide) ?_
    show Steps p.tables e below (s₁.setTop (mkF m 14 #[.val (.ref a1), .val (.int p2), .val (.int p3)] [(.int (p3 % (64 : Int32))), (.long (1 : Int64)), (.long w4), (.int (p2 + (p3 / (64 : Int32)))), (.ref a1)])) _
    refine XS.lshl X0.here hx rfl (hb hby d1_14) rfl ?_
    show Steps p.tables e below (s₁.setTop (mkF m 15 #[.val (.ref a1), .val (.int p2), .val (.int p3)] [(.long ((1 : Int64) <<< ((p3 % (64 : Int32)) &&& 0x3f).toInt64)), (.long w4), (.int (p2 + (p3 / (64 : Int32)))), (.ref a1)])) _
    refine XS.lor X0.here hx rfl (hb hby d1_15) rfl ?_
    show Steps p.tables e below (s₁.setTop (mkF m 16 #[.val (.ref a1), .val (.int p2), .val (.int p3)] [(.long (w4 ||| ((1 : Int64) <<< ((p3 % (64 : Int32)) &&& 0x3f).toInt64))), (.int (p2 + (p3 / (64 : Int32)))), (.ref a1)])) _
    refine st5 _ ?_
    show Steps p.tables e below (T5.setTop (mkF m 17 #[.val (.ref a1), .val (.int p2), .val (.int p3)] [])) _
    exact X5.returnOut hx Bd.returns (hb hby d1_17) hr
  · show Q1 Z a1 p2 p3 w4 cl_a1 h0 n0 _ T5.heap _
    rw [e5]
    exact ⟨rfl, N5, K5, Ar_a1.same W5⟩

theorem d2_0 : decode method_3_code 0 = .ok (.iload_n 2, 1) := by decide +kernel
theorem d2_1 : decode method_3_code 1 = .ok (.iload_n 3, 1) := by decide +kernel
theorem d2_2 : decode method_3_code 2 = .ok (.if_icmp .ne 12, 3) := by decide +kernel
theorem d2_14 : decode method_3_code 14 = .ok (.aload_n 1, 1) := by decide +kernel
theorem d2_15 : decode method_3_code 15 = .ok (.iload_n 2, 1) := by decide +kernel
theorem d2_16 : decode method_3_code 16 = .ok (.laload, 1) := by decide +kernel
theorem d2_17 : decode method_3_code 17 = .ok (.lstore 6, 2) := by decide +kernel
theorem d2_19 : decode method_3_code 19 = .ok (.aload_n 0, 1) := by decide +kernel
theorem d2_20 : decode method_3_code 20 = .ok (.iload_n 2, 1) := by decide +kernel
theorem d2_21 : decode method_3_code 21 = .ok (.laload, 1) := by decide +kernel
theorem d2_22 : decode method_3_code 22 = .ok (.lload 6, 2) := by decide +kernel
theorem d2_24 : decode method_3_code 24 = .ok (.lcmp, 1) := by decide +kernel
theorem d2_25 : decode method_3_code 25 = .ok (.ifCond .ne 7, 3) := by decide +kernel
theorem d2_28 : decode method_3_code 28 = .ok (.iconst 1, 1) := by decide +kernel
theorem d2_29 : decode method_3_code 29 = .ok (.goto 4, 3) := by decide +kernel
theorem d2_33 : decode method_3_code 33 = .ok (.ireturn, 1) := by decide +kernel
theorem pn_2 : plainName "com/example/rillpath/rillpath/engine/StepSetsAddPinLaw" = true := by first | (simp [plainName, overriddenIn]; done) | decide +kernel
theorem ef_2 (m : MethodId) (x0 : Addr) (x1 : Addr) (x2 : Int32) (x3 : Int32) (x4 : Int64) : entryFrame m #[(.ref x0), (.ref x1), (.int x2), (.int x3), (.long x4)] 8 = mkF m 0 #[.val (.ref x0), .val (.ref x1), .val (.int x2), .val (.int x3), .val (.long x4), .second, .unset, .unset] [] := by first | (simp [entryFrame, mkF, argsToLocals, Value.category]; done) | rfl
theorem d2_5 : decode method_3_code 5 = .ok (.aload_n 1, 1) := by decide +kernel
theorem d2_6 : decode method_3_code 6 = .ok (.iload_n 2, 1) := by decide +kernel
theorem d2_7 : decode method_3_code 7 = .ok (.laload, 1) := by decide +kernel
theorem d2_8 : decode method_3_code 8 = .ok (.lload 4, 2) := by decide +kernel
theorem d2_10 : decode method_3_code 10 = .ok (.lor, 1) := by decide +kernel
theorem d2_11 : decode method_3_code 11 = .ok (.goto 6, 3) := by decide +kernel
def Q2 (Z : State) (a1 : Addr) (a2 : Addr) (p3 : Int32) (p4 : Int32) (q5 : Int64) (w6 : Int64) (cl_a2 : Cell) (w7 : Int64) (cl_a1 : Cell) (h0 : Heap) (n0 : Nat) (v : Option Value) (h : Heap) (L : List Loc) : Prop := v = some (.int ((1 : Int32))) ∧ Fr n0 L ∧ h = h0
set_option maxRecDepth 65536 in
set_option maxHeartbeats 40000000 in
theorem rm2 (l : Launch) (Z : State) (a0 : Array Value) (hw : ∀ d ∈ tables_1, d.before a0 Z = true) (ws : List Jvm.Cond) (a1 : Addr) (a2 : Addr) (p3 : Int32) (p4 : Int32) (q5 : Int64) (w6 : Int64) (cl_a2 : Cell) (w7 : Int64) (cl_a1 : Cell) (h0 : Heap) (n0 : Nat) (Z0 : n0 ≤ h0.size) (Ar_a2 : Arr Z h0 a2 cl_a2 .long) (hin16 : ¬ (p3 < 0 ∨ cl_a2.slots.size ≤ (p3).toNatClampNeg)) (hat16 : cl_a2.slots[(p3).toNatClampNeg]? = some (.long w6)) (Ar_a1 : Arr Z h0 a1 cl_a1 .long) (hin21 : ¬ (p3 < 0 ∨ cl_a1.slots.size ≤ (p3).toNatClampNeg)) (hat21 : cl_a1.slots[(p3).toNatClampNeg]? = some (.long w7)) (hs : w7 = if p3 = p4 then w6 ||| q5 else w6) :
    MetFree l (⟨"com/example/rillpath/rillpath/engine/StepSetsAddPinLaw", "same", "([J[JIIJ)Z"⟩ : MethodName) (head1 (Jvm.Cond.code (⟨"com/example/rillpath/rillpath/engine/StepSetsAddPinLaw", "same", "([J[JIIJ)Z"⟩ : MethodName) method_3_code 8 (some .boolean) :: ws) ({ frames := 0, cells := 0, slots := 0, locals := 0 } : Room)) (fun a U => a = #[(.ref a1), (.ref a2), (.int p3), (.int p4), (.long q5)] ∧ Z.Warmed39 U.vm ∧ U.heap = h0) (fun _ _ _ _ _ => True) (fun _ U o U' => ∃ v L, o = .returned v ∧ Q2 Z a1 a2 p3 p4 q5 w6 cl_a2 w7 cl_a1 h0 n0 v U'.heap L ∧ FrameEnd U o U' L ({ frames := 0, cells := 0, slots := 0, locals := 0 } : Room).cells ({ frames := 0, cells := 0, slots := 0, locals := 0 } : Room).slots) := by
  refine MetFree.of_bodySF (plainFor_of_name pn_2) hisR ?_
  intro p e s m args below meth c s₁ Bd hml0 hP hK
  obtain ⟨rfl, hZ, hh⟩ := hP
  have hx := Bd.exec
  have hby := Bd.bytes
  have hml : c.maxLocals = 8 := hml0
  have hown : s.vm.findClass "com/example/rillpath/rillpath/engine/StepSetsAddPinLaw" = some m.cls := findClass_of_methodNamed Bd.named
  have hnm := (name_of_methodNamed Bd.named Bd.method).1
  have X0 : Stand p l e ({ frames := 0, cells := 0, slots := 0, locals := 0 } : Room) s m #[(.ref a1), (.ref a2), (.int p3), (.int p4), (.long q5)] below meth c s₁ [] 0 0 := Stand.of_body Bd
  have e0 : s₁.heap = h0 := by rw [← hh, Bd.state]; rfl
  have N0 := Fr.nil n0
  have pre0 : ∀ t, Steps p.tables e below (s₁.setTop (mkF m 0 #[.val (.ref a1), .val (.ref a2), .val (.int p3), .val (.int p4), .val (.long q5), .second, .unset, .unset] [])) t → Steps p.tables e below (s₁.setTop (entryFrame m #[(.ref a1), (.ref a2), (.int p3), (.int p4), (.long q5)] 8)) t := fun t k => castTop (ef_2 m a1 a2 p3 p4 q5) k

  obtain ⟨fs, hr, hrun, hended, hW, hsame⟩ := X0.leave (v := some (.int ((1 : Int32)))) (fun h => by rw [Bd.returns] at h; cases h)
  refine ⟨_, _, pre0 _ ?_, hrun, hended, _, _, rfl, ?_, ⟨_, rfl⟩, hW, hsame.mono (by decide) (by decide)⟩
  · show Steps p.tables e below (s₁.setTop (mkF m 0 #[.val (.ref a1), .val (.ref a2), .val (.int p3), .val (.int p4), .val (.long q5), .second, .unset, .unset] [])) _
    refine XS.iloadN X0.here hx rfl (hb hby d2_0) rfl ?_
    show Steps p.tables e below (s₁.setTop (mkF m 1 #[.val (.ref a1), .val (.ref a2), .val (.int p3), .val (.int p4), .val (.long q5), .second, .unset, .unset] [(.int p3)])) _
    refine XS.iloadN X0.here hx rfl (hb hby d2_1) rfl ?_
    show Steps p.tables e below (s₁.setTop (mkF m 2 #[.val (.ref a1), .val (.ref a2), .val (.int p3), .val (.int p4), .val (.long q5), .second, .unset, .unset] [(.int p4), (.int p3)])) _
    by_cases hc2 : p3 = p4
    · refine XS.icmpNo X0.here hx rfl (hb hby d2_2) rfl (teq hc2).2 ?_
      show Steps p.tables e below (s₁.setTop (mkF m 5 #[.val (.ref a1), .val (.ref a2), .val (.int p3), .val (.int p4), .val (.long q5), .second, .unset, .unset] [])) _
      refine XS.aloadN X0.here hx rfl (hb hby d2_5) rfl rfl ?_
      show Steps p.tables e below (s₁.setTop (mkF m 6 #[.val (.ref a1), .val (.ref a2), .val (.int p3), .val (.int p4), .val (.long q5), .second, .unset, .unset] [(.ref a2)])) _
      refine XS.iloadN X0.here hx rfl (hb hby d2_6) rfl ?_
      show Steps p.tables e below (s₁.setTop (mkF m 7 #[.val (.ref a1), .val (.ref a2), .val (.int p3), .val (.int p4), .val (.long q5), .second, .unset, .unset] [(.int p3), (.ref a2)])) _
      refine X0.laload hx (j := p3) (v := (.long w6)) (by rw [e0]; exact Ar_a2.1) (State.isArrayOf_alike hZ.alike Ar_a2.2.1) Ar_a2.2.2 hin16 hat16 (g := (mkF m 7 #[.val (.ref a1), .val (.ref a2), .val (.int p3), .val (.int p4), .val (.long q5), .second, .unset, .unset] [(.int p3), (.ref a2)])) rfl rfl (hb hby d2_7) _ ?_
      show Steps p.tables e below (s₁.setTop (mkF m 8 #[.val (.ref a1), .val (.ref a2), .val (.int p3), .val (.int p4), .val (.long q5), .second, .unset, .unset] [(.long w6)])) _
      refine XS.lload X0.here hx rfl (hb hby d2_8) rfl ?_
      show Steps p.tables e below (s₁.setTop (mkF m 10 #[.val (.ref a1), .val (.ref a2), .val (.int p3), .val (.int p4), .val (.long q5), .second, .unset, .unset] [(.long q5), (.long w6)])) _
      refine XS.lor X0.here hx rfl (hb hby d2_10) rfl ?_
      show Steps p.tables e below (s₁.setTop (mkF m 11 #[.val (.ref a1), .val (.ref a2), .val (.int p3), .val (.int p4), .val (.long q5), .second, .unset, .unset] [(.long (w6 ||| q5))])) _
      refine XS.goto X0.here hx rfl (pc0 := 11) (pc' := 17) rfl (hb hby d2_11) (by decide) (by decide) ?_
      show Steps p.tables e below (s₁.setTop (mkF m 17 #[.val (.ref a1), .val (.ref a2), .val (.int p3), .val (.int p4), .val (.long q5), .second, .unset, .unset] [(.long (w6 ||| q5))])) _
      refine XS.lstore X0.here hx rfl (hb hby d2_17) rfl (l' := #[.val (.ref a1), .val (.ref a2), .val (.int p3), .val (.int p4), .val (.long q5), .second, .val (.long (w6 ||| q5)), .second]) rfl ?_
      show Steps p.tables e below (s₁.setTop (mkF m 19 #[.val (.ref a1), .val (.ref a2), .val (.int p3), .val (.int p4), .val (.long q5), .second, .val (.long (w6 ||| q5)), .second] [])) _
      refine XS.aloadN X0.here hx rfl (hb hby d2_19) rfl rfl ?_
      show Steps p.tables e below (s₁.setTop (mkF m 20 #[.val (.ref a1), .val (.ref a2), .val (.int p3), .val (.int p4), .val (.long q5), .second, .val (.long (w6 ||| q5)), .second] [(.ref a1)])) _
      refine XS.iloadN X0.here hx rfl (hb hby d2_20) rfl ?_
      show Steps p.tables e below (s₁.setTop (mkF m 21 #[.val (.ref a1), .val (.ref a2), .val (.int p3), .val (.int p4), .val (.long q5), .second, .val (.long (w6 ||| q5)), .second] [(.int p3), (.ref a1)])) _
      refine X0.laload hx (j := p3) (v := (.long w7)) (by rw [e0]; exact Ar_a1.1) (State.isArrayOf_alike hZ.alike Ar_a1.2.1) Ar_a1.2.2 hin21 hat21 (g := (mkF m 21 #[.val (.ref a1), .val (.ref a2), .val (.int p3), .val (.int p4), .val (.long q5), .second, .val (.long (w6 ||| q5)), .second] [(.int p3), (.ref a1)])) rfl rfl (hb hby d2_21) _ ?_
      show Steps p.tables e below (s₁.setTop (mkF m 22 #[.val (.ref a1), .val (.ref a2), .val (.int p3), .val (.int p4), .val (.long q5), .second, .val (.long (w6 ||| q5)), .second] [(.long w7)])) _
      refine XS.lload X0.here hx rfl (hb hby d2_22) rfl ?_
      show Steps p.tables e below (s₁.setTop (mkF m 24 #[.val (.ref a1), .val (.ref a2), .val (.int p3), .val (.int p4), .val (.long q5), .second, .val (.long (w6 ||| q5)), .second] [(.long (w6 ||| q5)), (.long w7)])) _
      refine XS.lcmp X0.here hx rfl (hb hby d2_24) rfl ?_
      show Steps p.tables e below (s₁.setTop (mkF m 25 #[.val (.ref a1), .val (.ref a2), .val (.int p3), .val (.int p4), .val (.long q5), .second, .val (.long (w6 ||| q5)), .second] [(.int (lcmpW w7 (w6 ||| q5)))])) _
      have hc25 : (lcmpW w7 (w6 ||| q5)) = (0 : Int32) := (lw_eq _ _).mpr (hs.trans (if_pos hc2))
      refine XS.ifNo X0.here hx rfl (hb hby d2_25) rfl ((if0 _ _).trans (teq hc25).2) ?_
      show Steps p.tables e below (s₁.setTop (mkF m 28 #[.val (.ref a1), .val (.ref a2), .val (.int p3), .val (.int p4), .val (.long q5), .second, .val (.long (w6 ||| q5)), .second] [])) _
      refine XS.iconst X0.here hx rfl (hb hby d2_28) ?_
      show Steps p.tables e below (s₁.setTop (mkF m 29 #[.val (.ref a1), .val (.ref a2), .val (.int p3), .val (.int p4), .val (.long q5), .second, .val (.long (w6 ||| q5)), .second] [(.int (1 : Int32))])) _
      refine XS.goto X0.here hx rfl (pc0 := 29) (pc' := 33) rfl (hb hby d2_29) (by decide) (by decide) ?_
      show Steps p.tables e below (s₁.setTop (mkF m 33 #[.val (.ref a1), .val (.ref a2), .val (.int p3), .val (.int p4), .val (.long q5), .second, .val (.long (w6 ||| q5)), .second] [(.int (1 : Int32))])) _
      rw [show (1 : Int32) = (1 : Int32) from rfl] at hr
      exact retN X0 hx (t := .boolean) Bd.returns (by simp) (hb hby d2_33) hr
    · refine XS.icmpYes X0.here hx rfl (pc0 := 2) (pc' := 14) rfl (hb hby d2_2) rfl (feq hc2).2 (by decide) (by decide) ?_
      show Steps p.tables e below (s₁.setTop (mkF m 14 #[.val (.ref a1), .val (.ref a2), .val (.int p3), .val (.int p4), .val (.long q5), .second, .unset, .unset] [])) _
      refine XS.aloadN X0.here hx rfl (hb hby d2_14) rfl rfl ?_
      show Steps p.tables e below (s₁.setTop (mkF m 15 #[.val (.ref a1), .val (.ref a2), .val (.int p3), .val (.int p4), .val (.long q5), .second, .unset, .unset] [(.ref a2)])) _
      refine XS.iloadN X0.here hx rfl (hb hby d2_15) rfl ?_
      show Steps p.tables e below (s₁.setTop (mkF m 16 #[.val (.ref a1), .val (.ref a2), .val (.int p3), .val (.int p4), .val (.long q5), .second, .unset, .unset] [(.int p3), (.ref a2)])) _
      refine X0.laload hx (j := p3) (v := (.long w6)) (by rw [e0]; exact Ar_a2.1) (State.isArrayOf_alike hZ.alike Ar_a2.2.1) Ar_a2.2.2 hin16 hat16 (g := (mkF m 16 #[.val (.ref a1), .val (.ref a2), .val (.int p3), .val (.int p4), .val (.long q5), .second, .unset, .unset] [(.int p3), (.ref a2)])) rfl rfl (hb hby d2_16) _ ?_
      show Steps p.tables e below (s₁.setTop (mkF m 17 #[.val (.ref a1), .val (.ref a2), .val (.int p3), .val (.int p4), .val (.long q5), .second, .unset, .unset] [(.long w6)])) _
      refine XS.lstore X0.here hx rfl (hb hby d2_17) rfl (l' := #[.val (.ref a1), .val (.ref a2), .val (.int p3), .val (.int p4), .val (.long q5), .second, .val (.long w6), .second]) rfl ?_
      show Steps p.tables e below (s₁.setTop (mkF m 19 #[.val (.ref a1), .val (.ref a2), .val (.int p3), .val (.int p4), .val (.long q5), .second, .val (.long w6), .second] [])) _
      refine XS.aloadN X0.here hx rfl (hb hby d2_19) rfl rfl ?_
      show Steps p.tables e below (s₁.setTop (mkF m 20 #[.val (.ref a1), .val (.ref a2), .val (.int p3), .val (.int p4), .val (.long q5), .second, .val (.long w6), .second] [(.ref a1)])) _
      refine XS.iloadN X0.here hx rfl (hb hby d2_20) rfl ?_
      show Steps p.tables e below (s₁.setTop (mkF m 21 #[.val (.ref a1), .val (.ref a2), .val (.int p3), .val (.int p4), .val (.long q5), .second, .val (.long w6), .second] [(.int p3), (.ref a1)])) _
      refine X0.laload hx (j := p3) (v := (.long w7)) (by rw [e0]; exact Ar_a1.1) (State.isArrayOf_alike hZ.alike Ar_a1.2.1) Ar_a1.2.2 hin21 hat21 (g := (mkF m 21 #[.val (.ref a1), .val (.ref a2), .val (.int p3), .val (.int p4), .val (.long q5), .second, .val (.long w6), .second] [(.int p3), (.ref a1)])) rfl rfl (hb hby d2_21) _ ?_
      show Steps p.tables e below (s₁.setTop (mkF m 22 #[.val (.ref a1), .val (.ref a2), .val (.int p3), .val (.int p4), .val (.long q5), .second, .val (.long w6), .second] [(.long w7)])) _
      refine XS.lload X0.here hx rfl (hb hby d2_22) rfl ?_
      show Steps p.tables e below (s₁.setTop (mkF m 24 #[.val (.ref a1), .val (.ref a2), .val (.int p3), .val (.int p4), .val (.long q5), .second, .val (.long w6), .second] [(.long w6), (.long w7)])) _
      refine XS.lcmp X0.here hx rfl (hb hby d2_24) rfl ?_
      show Steps p.tables e below (s₁.setTop (mkF m 25 #[.val (.ref a1), .val (.ref a2), .val (.int p3), .val (.int p4), .val (.long q5), .second, .val (.long w6), .second] [(.int (lcmpW w7 w6))])) _
      have hc25 : (lcmpW w7 w6) = (0 : Int32) := (lw_eq _ _).mpr (hs.trans (if_neg hc2))
      refine XS.ifNo X0.here hx rfl (hb hby d2_25) rfl ((if0 _ _).trans (teq hc25).2) ?_
      show Steps p.tables e below (s₁.setTop (mkF m 28 #[.val (.ref a1), .val (.ref a2), .val (.int p3), .val (.int p4), .val (.long q5), .second, .val (.long w6), .second] [])) _
      refine XS.iconst X0.here hx rfl (hb hby d2_28) ?_
      show Steps p.tables e below (s₁.setTop (mkF m 29 #[.val (.ref a1), .val (.ref a2), .val (.int p3), .val (.int p4), .val (.long q5), .second, .val (.long w6), .second] [(.int (1 : Int32))])) _
      refine XS.goto X0.here hx rfl (pc0 := 29) (pc' := 33) rfl (hb hby d2_29) (by decide) (by decide) ?_
      show Steps p.tables e below (s₁.setTop (mkF m 33 #[.val (.ref a1), .val (.ref a2), .val (.int p3), .val (.int p4), .val (.long q5), .second, .val (.long w6), .second] [(.int (1 : Int32))])) _
      rw [show (1 : Int32) = (1 : Int32) from rfl] at hr
      exact retN X0 hx (t := .boolean) Bd.returns (by simp) (hb hby d2_33) hr
  · show Q2 Z a1 a2 p3 p4 q5 w6 cl_a2 w7 cl_a1 h0 n0 _ s₁.heap _
    rw [e0]
    exact ⟨rfl, N0, rfl⟩
set_option maxRecDepth 65536 in
set_option maxHeartbeats 40000000 in
theorem tn0_119_190 {p : Program} {l : Launch} {e : Env} {R : Room} {s : State} {m : MethodId} {args : Array Value} {below : List Frame} {meth : Method} {c : Code} {T0 : State} {locs : List Loc} {cells slots : Nat} {Z : State} {a0 : Array Value} {h0 : Heap} (s0 : Slot) (s1 : Slot) (s2 : Slot) (s3 : Slot) (s4 : Slot) (s5 : Slot) (s6 : Slot) (s7 : Slot) (s8 : Slot) (s9 : Slot) (s10 : Slot) (i11 : Int32) (s12 : Slot) (s13 : Slot) (s16 : Slot) (s17 : Slot) (s18 : Slot)
    (X0 : Stand p l e R s m args below meth c T0 locs cells slots) (hx : p.tables.exec = Jvm.exec) (hZ : Z.Warmed39 s.vm) (hw : ∀ d ∈ tables_1, d.before a0 Z = true) (hby : c.code = code) (hml : c.maxLocals = 19) (hown : s.vm.findClass "com/example/rillpath/rillpath/engine/StepSetsAddPinLaw" = some m.cls) (e0 : T0.heap = h0) (hN : 0 ≤ i11.toInt ∧ i11.toInt ≤ 255) :
    ∀ target, Steps p.tables e below (T0.setTop (mkF m 190 #[s0, s1, s2, s3, s4, s5, s6, s7, s8, s9, s10, .val (.int i11), s12, s13, .val (.int (i11 / (64 : Int32))), .val (.int (i11 % (64 : Int32))), s16, s17, s18] [])) target → Steps p.tables e below (T0.setTop (mkF m 119 #[s0, s1, s2, s3, s4, s5, s6, s7, s8, s9, s10, .val (.int i11), s12, s13, .unset, .unset, s16, s17, s18] [])) target := by
  intro target kt
  show Steps p.tables e below (T0.setTop (mkF m 119 #[s0, s1, s2, s3, s4, s5, s6, s7, s8, s9, s10, .val (.int i11), s12, s13, .unset, .unset, s16, s17, s18] [])) _
  refine XS.iload X0.here hx rfl (hb hby at_119) rfl ?_
  show Steps p.tables e below (T0.setTop (mkF m 121 #[s0, s1, s2, s3, s4, s5, s6, s7, s8, s9, s10, .val (.int i11), s12, s13, .unset, .unset, s16, s17, s18] [(.int i11)])) _
  refine XS.bipush X0.here hx rfl (hb hby at_121) ?_
  show Steps p.tables e below (T0.setTop (mkF m 123 #[s0, s1, s2, s3, s4, s5, s6, s7, s8, s9, s10, .val (.int i11), s12, s13, .unset, .unset, s16, s17, s18] [(.int (64 : Int32)), (.int i11)])) _
  by_cases hc123 : i11 < (64 : Int32)
  · refine XS.icmpNo X0.here hx rfl (hb hby at_123) rfl (tlt hc123).2.1 ?_
    show Steps p.tables e below (T0.setTop (mkF m 126 #[s0, s1, s2, s3, s4, s5, s6, s7, s8, s9, s10, .val (.int i11), s12, s13, .unset, .unset, s16, s17, s18] [])) _
    refine XS.iconst X0.here hx rfl (hb hby at_126) ?_
    show Steps p.tables e below (T0.setTop (mkF m 127 #[s0, s1, s2, s3, s4, s5, s6, s7, s8, s9, s10, .val (.int i11), s12, s13, .unset, .unset, s16, s17, s18] [(.int (0 : Int32))])) _
    refine XS.istore X0.here hx rfl (hb hby at_127) rfl (l' := #[s0, s1, s2, s3, s4, s5, s6, s7, s8, s9, s10, .val (.int i11), s12, s13, .val (.int (0 : Int32)), .unset, s16, s17, s18]) rfl ?_
    show Steps p.tables e below (T0.setTop (mkF m 129 #[s0, s1, s2, s3, s4, s5, s6, s7, s8, s9, s10, .val (.int i11), s12, s13, .val (.int (0 : Int32)), .unset, s16, s17, s18] [])) _
    refine XS.iload X0.here hx rfl (hb hby at_129) rfl ?_
    show Steps p.tables e below (T0.setTop (mkF m 131 #[s0, s1, s2, s3, s4, s5, s6, s7, s8, s9, s10, .val (.int i11), s12, s13, .val (.int (0 : Int32)), .unset, s16, s17, s18] [(.int i11)])) _
    refine XS.istore X0.here hx rfl (hb hby at_131) rfl (l' := #[s0, s1, s2, s3, s4, s5, s6, s7, s8, s9, s10, .val (.int i11), s12, s13, .val (.int (0 : Int32)), .val (.int i11), s16, s17, s18]) rfl ?_
    show Steps p.tables e below (T0.setTop (mkF m 133 #[s0, s1, s2, s3, s4, s5, s6, s7, s8, s9, s10, .val (.int i11), s12, s13, .val (.int (0 : Int32)), .val (.int i11), s16, s17, s18] [])) _
    refine XS.goto X0.here hx rfl (pc0 := 133) (pc' := 190) rfl (hb hby at_133) (by decide) (by decide) ?_
    simp only [Int32.lt_iff_toInt_lt] at hc123
    have q0 : (0 : Int32).toInt = 0 := rfl; have q1 : (1 : Int32).toInt = 1 := rfl; have q2 : (2 : Int32).toInt = 2 := rfl; have q3 : (3 : Int32).toInt = 3 := rfl; have q64 : (64 : Int32).toInt = 64 := rfl; have q128 : (128 : Int32).toInt = 128 := rfl; have q192 : (192 : Int32).toInt = 192 := rfl
    have ed : (i11 / (64 : Int32)).toInt = i11.toInt / 64 := (c_idiv i11 64 64 rfl (by decide)).1 hN.1
    have er : (i11 % (64 : Int32)).toInt = i11.toInt % 64 := (c_irem i11 64 64 rfl).1 hN.1
    have ev : i11 / (64 : Int32) = (0 : Int32) := Int32.toInt_inj.mp (by rw [ed]; omega)
    have ew : i11 % (64 : Int32) = i11 := Int32.toInt_inj.mp (by rw [er]; omega)
    rw [ev, ew] at kt
    exact kt
  · refine XS.icmpYes X0.here hx rfl (pc0 := 123) (pc' := 136) rfl (hb hby at_123) rfl (flt hc123).2.1 (by decide) (by decide) ?_
    show Steps p.tables e below (T0.setTop (mkF m 136 #[s0, s1, s2, s3, s4, s5, s6, s7, s8, s9, s10, .val (.int i11), s12, s13, .unset, .unset, s16, s17, s18] [])) _
    refine XS.iload X0.here hx rfl (hb hby at_136) rfl ?_
    show Steps p.tables e below (T0.setTop (mkF m 138 #[s0, s1, s2, s3, s4, s5, s6, s7, s8, s9, s10, .val (.int i11), s12, s13, .unset, .unset, s16, s17, s18] [(.int i11)])) _
    refine XS.sipush X0.here hx rfl (hb hby at_138) ?_
    show Steps p.tables e below (T0.setTop (mkF m 141 #[s0, s1, s2, s3, s4, s5, s6, s7, s8, s9, s10, .val (.int i11), s12, s13, .unset, .unset, s16, s17, s18] [(.int (128 : Int32)), (.int i11)])) _
    by_cases hc141 : i11 < (128 : Int32)
    · refine XS.icmpNo X0.here hx rfl (hb hby at_141) rfl (tlt hc141).2.1 ?_
      show Steps p.tables e below (T0.setTop (mkF m 144 #[s0, s1, s2, s3, s4, s5, s6, s7, s8, s9, s10, .val (.int i11), s12, s13, .unset, .unset, s16, s17, s18] [])) _
      refine XS.iconst X0.here hx rfl (hb hby at_144) ?_
      show Steps p.tables e below (T0.setTop (mkF m 145 #[s0, s1, s2, s3, s4, s5, s6, s7, s8, s9, s10, .val (.int i11), s12, s13, .unset, .unset, s16, s17, s18] [(.int (1 : Int32))])) _
      refine XS.istore X0.here hx rfl (hb hby at_145) rfl (l' := #[s0, s1, s2, s3, s4, s5, s6, s7, s8, s9, s10, .val (.int i11), s12, s13, .val (.int (1 : Int32)), .unset, s16, s17, s18]) rfl ?_
      show Steps p.tables e below (T0.setTop (mkF m 147 #[s0, s1, s2, s3, s4, s5, s6, s7, s8, s9, s10, .val (.int i11), s12, s13, .val (.int (1 : Int32)), .unset, s16, s17, s18] [])) _
      refine XS.iload X0.here hx rfl (hb hby at_147) rfl ?_
      show Steps p.tables e below (T0.setTop (mkF m 149 #[s0, s1, s2, s3, s4, s5, s6, s7, s8, s9, s10, .val (.int i11), s12, s13, .val (.int (1 : Int32)), .unset, s16, s17, s18] [(.int i11)])) _
      refine XS.bipush X0.here hx rfl (hb hby at_149) ?_
      show Steps p.tables e below (T0.setTop (mkF m 151 #[s0, s1, s2, s3, s4, s5, s6, s7, s8, s9, s10, .val (.int i11), s12, s13, .val (.int (1 : Int32)), .unset, s16, s17, s18] [(.int (64 : Int32)), (.int i11)])) _
      refine XS.isub X0.here hx rfl (hb hby at_151) rfl ?_
      show Steps p.tables e below (T0.setTop (mkF m 152 #[s0, s1, s2, s3, s4, s5, s6, s7, s8, s9, s10, .val (.int i11), s12, s13, .val (.int (1 : Int32)), .unset, s16, s17, s18] [(.int (i11 - (64 : Int32)))])) _
      refine XS.istore X0.here hx rfl (hb hby at_152) rfl (l' := #[s0, s1, s2, s3, s4, s5, s6, s7, s8, s9, s10, .val (.int i11), s12, s13, .val (.int (1 : Int32)), .val (.int (i11 - (64 : Int32))), s16, s17, s18]) rfl ?_
      show Steps p.tables e below (T0.setTop (mkF m 154 #[s0, s1, s2, s3, s4, s5, s6, s7, s8, s9, s10, .val (.int i11), s12, s13, .val (.int (1 : Int32)), .val (.int (i11 - (64 : Int32))), s16, s17, s18] [])) _
      refine XS.goto X0.here hx rfl (pc0 := 154) (pc' := 190) rfl (hb hby at_154) (by decide) (by decide) ?_
      simp only [Int32.lt_iff_toInt_lt] at hc123 hc141
      have q0 : (0 : Int32).toInt = 0 := rfl; have q1 : (1 : Int32).toInt = 1 := rfl; have q2 : (2 : Int32).toInt = 2 := rfl; have q3 : (3 : Int32).toInt = 3 := rfl; have q64 : (64 : Int32).toInt = 64 := rfl; have q128 : (128 : Int32).toInt = 128 := rfl; have q192 : (192 : Int32).toInt = 192 := rfl
      have ed : (i11 / (64 : Int32)).toInt = i11.toInt / 64 := (c_idiv i11 64 64 rfl (by decide)).1 hN.1
      have er : (i11 % (64 : Int32)).toInt = i11.toInt % 64 := (c_irem i11 64 64 rfl).1 hN.1
      have ev : i11 / (64 : Int32) = (1 : Int32) := Int32.toInt_inj.mp (by rw [ed]; omega)
      have ew : i11 % (64 : Int32) = (i11 - (64 : Int32)) := Int32.toInt_inj.mp (by rw [er, Jvm.Kit.i32_sub (by omega) (by omega)]; omega)
      rw [ev, ew] at kt
      exact kt
    · refine XS.icmpYes X0.here hx rfl (pc0 := 141) (pc' := 157) rfl (hb hby at_141) rfl (flt hc141).2.1 (by decide) (by decide) ?_
      show Steps p.tables e below (T0.setTop (mkF m 157 #[s0, s1, s2, s3, s4, s5, s6, s7, s8, s9, s10, .val (.int i11), s12, s13, .unset, .unset, s16, s17, s18] [])) _
      refine XS.iload X0.here hx rfl (hb hby at_157) rfl ?_
      show Steps p.tables e below (T0.setTop (mkF m 159 #[s0, s1, s2, s3, s4, s5, s6, s7, s8, s9, s10, .val (.int i11), s12, s13, .unset, .unset, s16, s17, s18] [(.int i11)])) _
      refine XS.sipush X0.here hx rfl (hb hby at_159) ?_
      show Steps p.tables e below (T0.setTop (mkF m 162 #[s0, s1, s2, s3, s4, s5, s6, s7, s8, s9, s10, .val (.int i11), s12, s13, .unset, .unset, s16, s17, s18] [(.int (192 : Int32)), (.int i11)])) _
      by_cases hc162 : i11 < (192 : Int32)
      · refine XS.icmpNo X0.here hx rfl (hb hby at_162) rfl (tlt hc162).2.1 ?_
        show Steps p.tables e below (T0.setTop (mkF m 165 #[s0, s1, s2, s3, s4, s5, s6, s7, s8, s9, s10, .val (.int i11), s12, s13, .unset, .unset, s16, s17, s18] [])) _
        refine XS.iconst X0.here hx rfl (hb hby at_165) ?_
        show Steps p.tables e below (T0.setTop (mkF m 166 #[s0, s1, s2, s3, s4, s5, s6, s7, s8, s9, s10, .val (.int i11), s12, s13, .unset, .unset, s16, s17, s18] [(.int (2 : Int32))])) _
        refine XS.istore X0.here hx rfl (hb hby at_166) rfl (l' := #[s0, s1, s2, s3, s4, s5, s6, s7, s8, s9, s10, .val (.int i11), s12, s13, .val (.int (2 : Int32)), .unset, s16, s17, s18]) rfl ?_
        show Steps p.tables e below (T0.setTop (mkF m 168 #[s0, s1, s2, s3, s4, s5, s6, s7, s8, s9, s10, .val (.int i11), s12, s13, .val (.int (2 : Int32)), .unset, s16, s17, s18] [])) _
        refine XS.iload X0.here hx rfl (hb hby at_168) rfl ?_
        show Steps p.tables e below (T0.setTop (mkF m 170 #[s0, s1, s2, s3, s4, s5, s6, s7, s8, s9, s10, .val (.int i11), s12, s13, .val (.int (2 : Int32)), .unset, s16, s17, s18] [(.int i11)])) _
        refine XS.sipush X0.here hx rfl (hb hby at_170) ?_
        show Steps p.tables e below (T0.setTop (mkF m 173 #[s0, s1, s2, s3, s4, s5, s6, s7, s8, s9, s10, .val (.int i11), s12, s13, .val (.int (2 : Int32)), .unset, s16, s17, s18] [(.int (128 : Int32)), (.int i11)])) _
        refine XS.isub X0.here hx rfl (hb hby at_173) rfl ?_
        show Steps p.tables e below (T0.setTop (mkF m 174 #[s0, s1, s2, s3, s4, s5, s6, s7, s8, s9, s10, .val (.int i11), s12, s13, .val (.int (2 : Int32)), .unset, s16, s17, s18] [(.int (i11 - (128 : Int32)))])) _
        refine XS.istore X0.here hx rfl (hb hby at_174) rfl (l' := #[s0, s1, s2, s3, s4, s5, s6, s7, s8, s9, s10, .val (.int i11), s12, s13, .val (.int (2 : Int32)), .val (.int (i11 - (128 : Int32))), s16, s17, s18]) rfl ?_
        show Steps p.tables e below (T0.setTop (mkF m 176 #[s0, s1, s2, s3, s4, s5, s6, s7, s8, s9, s10, .val (.int i11), s12, s13, .val (.int (2 : Int32)), .val (.int (i11 - (128 : Int32))), s16, s17, s18] [])) _
        refine XS.goto X0.here hx rfl (pc0 := 176) (pc' := 190) rfl (hb hby at_176) (by decide) (by decide) ?_
        simp only [Int32.lt_iff_toInt_lt] at hc123 hc141 hc162
        have q0 : (0 : Int32).toInt = 0 := rfl; have q1 : (1 : Int32).toInt = 1 := rfl; have q2 : (2 : Int32).toInt = 2 := rfl; have q3 : (3 : Int32).toInt = 3 := rfl; have q64 : (64 : Int32).toInt = 64 := rfl; have q128 : (128 : Int32).toInt = 128 := rfl; have q192 : (192 : Int32).toInt = 192 := rfl
        have ed : (i11 / (64 : Int32)).toInt = i11.toInt / 64 := (c_idiv i11 64 64 rfl (by decide)).1 hN.1
        have er : (i11 % (64 : Int32)).toInt = i11.toInt % 64 := (c_irem i11 64 64 rfl).1 hN.1
        have ev : i11 / (64 : Int32) = (2 : Int32) := Int32.toInt_inj.mp (by rw [ed]; omega)
        have ew : i11 % (64 : Int32) = (i11 - (128 : Int32)) := Int32.toInt_inj.mp (by rw [er, Jvm.Kit.i32_sub (by omega) (by omega)]; omega)
        rw [ev, ew] at kt
        exact kt
      · refine XS.icmpYes X0.here hx rfl (pc0 := 162) (pc' := 179) rfl (hb hby at_162) rfl (flt hc162).2.1 (by decide) (by decide) ?_
        show Steps p.tables e below (T0.setTop (mkF m 179 #[s0, s1, s2, s3, s4, s5, s6, s7, s8, s9, s10, .val (.int i11), s12, s13, .unset, .unset, s16, s17, s18] [])) _
        refine XS.iconst X0.here hx rfl (hb hby at_179) ?_
        show Steps p.tables e below (T0.setTop (mkF m 180 #[s0, s1, s2, s3, s4, s5, s6, s7, s8, s9, s10, .val (.int i11), s12, s13, .unset, .unset, s16, s17, s18] [(.int (3 : Int32))])) _
        refine XS.istore X0.here hx rfl (hb hby at_180) rfl (l' := #[s0, s1, s2, s3, s4, s5, s6, s7, s8, s9, s10, .val (.int i11), s12, s13, .val (.int (3 : Int32)), .unset, s16, s17, s18]) rfl ?_
        show Steps p.tables e below (T0.setTop (mkF m 182 #[s0, s1, s2, s3, s4, s5, s6, s7, s8, s9, s10, .val (.int i11), s12, s13, .val (.int (3 : Int32)), .unset, s16, s17, s18] [])) _
        refine XS.iload X0.here hx rfl (hb hby at_182) rfl ?_
        show Steps p.tables e below (T0.setTop (mkF m 184 #[s0, s1, s2, s3, s4, s5, s6, s7, s8, s9, s10, .val (.int i11), s12, s13, .val (.int (3 : Int32)), .unset, s16, s17, s18] [(.int i11)])) _
        refine XS.sipush X0.here hx rfl (hb hby at_184) ?_
        show Steps p.tables e below (T0.setTop (mkF m 187 #[s0, s1, s2, s3, s4, s5, s6, s7, s8, s9, s10, .val (.int i11), s12, s13, .val (.int (3 : Int32)), .unset, s16, s17, s18] [(.int (192 : Int32)), (.int i11)])) _
        refine XS.isub X0.here hx rfl (hb hby at_187) rfl ?_
        show Steps p.tables e below (T0.setTop (mkF m 188 #[s0, s1, s2, s3, s4, s5, s6, s7, s8, s9, s10, .val (.int i11), s12, s13, .val (.int (3 : Int32)), .unset, s16, s17, s18] [(.int (i11 - (192 : Int32)))])) _
        refine XS.istore X0.here hx rfl (hb hby at_188) rfl (l' := #[s0, s1, s2, s3, s4, s5, s6, s7, s8, s9, s10, .val (.int i11), s12, s13, .val (.int (3 : Int32)), .val (.int (i11 - (192 : Int32))), s16, s17, s18]) rfl ?_
        simp only [Int32.lt_iff_toInt_lt] at hc123 hc141 hc162
        have q0 : (0 : Int32).toInt = 0 := rfl; have q1 : (1 : Int32).toInt = 1 := rfl; have q2 : (2 : Int32).toInt = 2 := rfl; have q3 : (3 : Int32).toInt = 3 := rfl; have q64 : (64 : Int32).toInt = 64 := rfl; have q128 : (128 : Int32).toInt = 128 := rfl; have q192 : (192 : Int32).toInt = 192 := rfl
        have ed : (i11 / (64 : Int32)).toInt = i11.toInt / 64 := (c_idiv i11 64 64 rfl (by decide)).1 hN.1
        have er : (i11 % (64 : Int32)).toInt = i11.toInt % 64 := (c_irem i11 64 64 rfl).1 hN.1
        have ev : i11 / (64 : Int32) = (3 : Int32) := Int32.toInt_inj.mp (by rw [ed]; omega)
        have ew : i11 % (64 : Int32) = (i11 - (192 : Int32)) := Int32.toInt_inj.mp (by rw [er, Jvm.Kit.i32_sub (by omega) (by omega)]; omega)
        rw [ev, ew] at kt
        exact kt
theorem pn_0 : plainName "com/example/rillpath/rillpath/engine/StepSetsAddPinLaw" = true := by first | (simp [plainName, overriddenIn]; done) | decide +kernel
theorem pd_0_0 : parseMethodDescriptor "([JII)V" = some ⟨[(.array .long), .int, .int], none⟩ := by decide +kernel
theorem pd_0_1 : parseMethodDescriptor "([J[JIIJ)Z" = some ⟨[(.array .long), (.array .long), .int, .int, .long], some .boolean⟩ := by decide +kernel
theorem ef_0 (m : MethodId) (x0 : Int32) (x1 : Int32) (x2 : Int64) (x3 : Int64) (x4 : Int64) (x5 : Int64) : entryFrame m #[(.int x0), (.int x1), (.long x2), (.long x3), (.long x4), (.long x5)] maxLocals = mkF m 0 #[.val (.int x0), .val (.int x1), .val (.long x2), .second, .val (.long x3), .second, .val (.long x4), .second, .val (.long x5), .second, .unset, .unset, .unset, .unset, .unset, .unset, .unset, .unset, .unset] [] := by first | (simp [entryFrame, mkF, argsToLocals, Value.category, maxLocals]; done) | rfl
def Q0 (Z : State) (p1 : Int32) (p2 : Int32) (q3 : Int64) (q4 : Int64) (q5 : Int64) (q6 : Int64) (h0 : Heap) (n0 : Nat) (v : Option Value) (h : Heap) (L : List Loc) : Prop := v = some (.int (1 : Int32)) ∧ Fr n0 L
set_option maxRecDepth 65536 in
set_option maxHeartbeats 40000000 in
theorem rm0 (l : Launch) (Z : State) (a0 : Array Value) (hw : ∀ d ∈ tables_1, d.before a0 Z = true) (ws : List Jvm.Cond) (p1 : Int32) (p2 : Int32) (q3 : Int64) (q4 : Int64) (q5 : Int64) (q6 : Int64) (h0 : Heap) (n0 : Nat) (Z0 : n0 ≤ h0.size) :
    MetFree l x (head1 (Jvm.Cond.code x code maxLocals ret :: ws) room_1) (fun a U => a = #[(.int p1), (.int p2), (.long q3), (.long q4), (.long q5), (.long q6)] ∧ Z.Warmed39 U.vm ∧ U.heap = h0) (fun _ _ _ _ _ => True) (fun _ U o U' => ∃ v L, o = .returned v ∧ Q0 Z p1 p2 q3 q4 q5 q6 h0 n0 v U'.heap L ∧ FrameEnd U o U' L room_1.cells room_1.slots) := by
  refine MetFree.of_bodySF (plainFor_of_name pn_0) hisR ?_
  intro p e s m args below meth c s₁ Bd hml0 hP hK
  obtain ⟨rfl, hZ, hh⟩ := hP
  have hx := Bd.exec
  have hby := Bd.bytes
  have hml : c.maxLocals = 19 := hml0
  have hown : s.vm.findClass "com/example/rillpath/rillpath/engine/StepSetsAddPinLaw" = some m.cls := findClass_of_methodNamed Bd.named
  have hnm := (name_of_methodNamed Bd.named Bd.method).1
  have X0 : Stand p l e room_1 s m #[(.int p1), (.int p2), (.long q3), (.long q4), (.long q5), (.long q6)] below meth c s₁ [] 0 0 := Stand.of_body Bd
  have e0 : s₁.heap = h0 := by rw [← hh, Bd.state]; rfl
  have N0 := Fr.nil n0
  have pre0 : ∀ t, Steps p.tables e below (s₁.setTop (mkF m 0 #[.val (.int p1), .val (.int p2), .val (.long q3), .second, .val (.long q4), .second, .val (.long q5), .second, .val (.long q6), .second, .unset, .unset, .unset, .unset, .unset, .unset, .unset, .unset, .unset] [])) t → Steps p.tables e below (s₁.setTop (entryFrame m #[(.int p1), (.int p2), (.long q3), (.long q4), (.long q5), (.long q6)] maxLocals)) t := fun t k => castTop (ef_0 m p1 p2 q3 q4 q5 q6) k
  have hc215 : ¬ ((1 : Int32) = (0 : Int32)) := by decide
  have hc230 : ¬ ((1 : Int32) = (0 : Int32)) := by decide
  have hc245 : ¬ ((1 : Int32) = (0 : Int32)) := by decide
  have hc260 : ¬ ((1 : Int32) = (0 : Int32)) := by decide
  have hc275 : ¬ ((1 : Int32) = (0 : Int32)) := by decide
  have hc290 : ¬ ((1 : Int32) = (0 : Int32)) := by decide
  have hc306 : ¬ ((1 : Int32) = (0 : Int32)) := by decide
  -- 3. LAWS
  obtain ⟨T7, h7, k7, X7, e7, E7, A7, st7⟩ := newP X0 hx hZ (hw _ (List.mem_of_getElem? (i := 0) rfl)) e0 (g := (mkF m 14 #[.val (.int p1), .val (.int p2), .val (.long q3), .second, .val (.long q4), .second, .val (.long q5), .second, .val (.long q6), .second, .val (.int (p1 &&& (3 : Int32))), .val (.int (p2 &&& (255 : Int32))), .unset, .unset, .unset, .unset, .unset, .unset, .unset] [(.int (7 : Int32))])) rfl (hb hby at_14) rfl (by decide) (cap := 7) (by decide) (by decide) (by decide) (by decide)
  obtain ⟨b7, g7⟩ : ∃ z, z = h0.size := ⟨_, rfl⟩      -- the fresh array's address
  rw [← g7] at A7 st7
  have V_b7 : Arv Z h7 b7 k7 .long (7 : Int32) [(.long (0 : Int64)), (.long (0 : Int64)), (.long (0 : Int64)), (.long (0 : Int64)), (.long (0 : Int64)), (.long (0 : Int64)), (.long (0 : Int64))] (.long (0 : Int64)) := (Arv.new A7 (by decide)).pad (pad_rep [] (.long (0 : Int64)) 7)
  have g_b7 : n0 ≤ b7 := Nat.le_trans Z0 (Nat.le_of_eq g7.symm)
  have sz_b7 : h0.size ≤ b7 := (Nat.le_trans (Keep.refl h0 []).1 (Nat.le_of_eq g7.symm))
  have K7 : Keep h0 h7 [] := (Keep.refl h0 []).ext E7
  obtain ⟨cl_b7_19, Ar_b7, q_b7, S_b7, N_b7, H_b7, G_b7⟩ := V_b7      -- open the array's fact as it stands now (its cell, kind, length, elements)
  have hin19 : ¬ ((0 : Int32) < 0 ∨ cl_b7_19.slots.size ≤ ((0 : Int32)).toNatClampNeg) := inb_of S_b7 ⟨by decide, by decide⟩
  obtain ⟨T8, h8, X8, e8, W8, st8⟩ := stJ X7 hx hZ e7 Ar_b7 (j := (0 : Int32)) hin19 (g := (mkF m 19 #[.val (.int p1), .val (.int p2), .val (.long q3), .second, .val (.long q4), .second, .val (.long q5), .second, .val (.long q6), .second, .val (.int (p1 &&& (3 : Int32))), .val (.int (p2 &&& (255 : Int32))), .unset, .unset, .unset, .unset, .unset, .unset, .unset] [(.long q3), (.int (0 : Int32)), (.ref b7), (.ref b7)])) rfl rfl (hb hby at_19)
  have V_b7_8 := Arv.set Ar_b7 q_b7 S_b7 N_b7 H_b7 G_b7 rfl W8 0 rfl (Nat.le_of_ble_eq_true rfl)      -- the array as it stands now (the place must lie among its first values: Arv.pad with pad_rep lengthens them)
  have K8 : Keep h0 h8 [] := K7.wr W8 (Or.inr sz_b7)
  have N8 := Fr.snoc X8 N0 g_b7
  obtain ⟨cl_b7_24, Ar_b7, q_b7, S_b7, N_b7, H_b7, G_b7⟩ := V_b7_8      -- open the array's fact as it stands now (its cell, kind, length, elements)
  have hin24 : ¬ ((1 : Int32) < 0 ∨ cl_b7_24.slots.size ≤ ((1 : Int32)).toNatClampNeg) := inb_of S_b7 ⟨by decide, by decide⟩
  obtain ⟨T9, h9, X9, e9, W9, st9⟩ := stJ X8 hx hZ e8 Ar_b7 (j := (1 : Int32)) hin24 (g := (mkF m 24 #[.val (.int p1), .val (.int p2), .val (.long q3), .second, .val (.long q4), .second, .val (.long q5), .second, .val (.long q6), .second, .val (.int (p1 &&& (3 : Int32))), .val (.int (p2 &&& (255 : Int32))), .unset, .unset, .unset, .unset, .unset, .unset, .unset] [(.long q4), (.int (1 : Int32)), (.ref b7), (.ref b7)])) rfl rfl (hb hby at_24)
  have V_b7_9 := Arv.set Ar_b7 q_b7 S_b7 N_b7 H_b7 G_b7 rfl W9 1 rfl (Nat.le_of_ble_eq_true rfl)      -- the array as it stands now (the place must lie among its first values: Arv.pad with pad_rep lengthens them)
  have K9 : Keep h0 h9 [] := K8.wr W9 (Or.inr sz_b7)
  have N9 := Fr.snoc X9 N8 g_b7
  obtain ⟨cl_b7_29, Ar_b7, q_b7, S_b7, N_b7, H_b7, G_b7⟩ := V_b7_9      -- open the array's fact as it stands now (its cell, kind, length, elements)
  have hin29 : ¬ ((2 : Int32) < 0 ∨ cl_b7_29.slots.size ≤ ((2 : Int32)).toNatClampNeg) := inb_of S_b7 ⟨by decide, by decide⟩
  obtain ⟨T10, h10, X10, e10, W10, st10⟩ := stJ X9 hx hZ e9 Ar_b7 (j := (2 : Int32)) hin29 (g := (mkF m 29 #[.val (.int p1), .val (.int p2), .val (.long q3), .second, .val (.long q4), .second, .val (.long q5), .second, .val (.long q6), .second, .val (.int (p1 &&& (3 : Int32))), .val (.int (p2 &&& (255 : Int32))), .unset, .unset, .unset, .unset, .unset, .unset, .unset] [(.long q5), (.int (2 : Int32)), (.ref b7), (.ref b7)])) rfl rfl (hb hby at_29)
  have V_b7_10 := Arv.set Ar_b7 q_b7 S_b7 N_b7 H_b7 G_b7 rfl W10 2 rfl (Nat.le_of_ble_eq_true rfl)      -- the array as it stands now (the place must lie among its first values: Arv.pad with pad_rep lengthens them)
  have K10 : Keep h0 h10 [] := K9.wr W10 (Or.inr sz_b7)
  have N10 := Fr.snoc X10 N9 g_b7
  obtain ⟨cl_b7_34, Ar_b7, q_b7, S_b7, N_b7, H_b7, G_b7⟩ := V_b7_10      -- open the array's fact as it stands now (its cell, kind, length, elements)
  have hin34 : ¬ ((3 : Int32) < 0 ∨ cl_b7_34.slots.size ≤ ((3 : Int32)).toNatClampNeg) := inb_of S_b7 ⟨by decide, by decide⟩
  obtain ⟨T11, h11, X11, e11, W11, st11⟩ := stJ X10 hx hZ e10 Ar_b7 (j := (3 : Int32)) hin34 (g := (mkF m 34 #[.val (.int p1), .val (.int p2), .val (.long q3), .second, .val (.long q4), .second, .val (.long q5), .second, .val (.long q6), .second, .val (.int (p1 &&& (3 : Int32))), .val (.int (p2 &&& (255 : Int32))), .unset, .unset, .unset, .unset, .unset, .unset, .unset] [(.long q6), (.int (3 : Int32)), (.ref b7), (.ref b7)])) rfl rfl (hb hby at_34)
  have V_b7_11 := Arv.set Ar_b7 q_b7 S_b7 N_b7 H_b7 G_b7 rfl W11 3 rfl (Nat.le_of_ble_eq_true rfl)      -- the array as it stands now (the place must lie among its first values: Arv.pad with pad_rep lengthens them)
  have K11 : Keep h0 h11 [] := K10.wr W11 (Or.inr sz_b7)
  have N11 := Fr.snoc X11 N10 g_b7
  obtain ⟨cl_b7_41, Ar_b7, q_b7, S_b7, N_b7, H_b7, G_b7⟩ := V_b7_11      -- open the array's fact as it stands now (its cell, kind, length, elements)
  have hin41 : ¬ ((4 : Int32) < 0 ∨ cl_b7_41.slots.size ≤ ((4 : Int32)).toNatClampNeg) := inb_of S_b7 ⟨by decide, by decide⟩
  obtain ⟨T12, h12, X12, e12, W12, st12⟩ := stJ X11 hx hZ e11 Ar_b7 (j := (4 : Int32)) hin41 (g := (mkF m 41 #[.val (.int p1), .val (.int p2), .val (.long q3), .second, .val (.long q4), .second, .val (.long q5), .second, .val (.long q6), .second, .val (.int (p1 &&& (3 : Int32))), .val (.int (p2 &&& (255 : Int32))), .unset, .unset, .unset, .unset, .unset, .unset, .unset] [(.long (q3 ^^^ q5)), (.int (4 : Int32)), (.ref b7), (.ref b7)])) rfl rfl (hb hby at_41)
  have V_b7_12 := Arv.set Ar_b7 q_b7 S_b7 N_b7 H_b7 G_b7 rfl W12 4 rfl (Nat.le_of_ble_eq_true rfl)      -- the array as it stands now (the place must lie among its first values: Arv.pad with pad_rep lengthens them)
  have K12 : Keep h0 h12 [] := K11.wr W12 (Or.inr sz_b7)
  have N12 := Fr.snoc X12 N11 g_b7
  obtain ⟨cl_b7_49, Ar_b7, q_b7, S_b7, N_b7, H_b7, G_b7⟩ := V_b7_12      -- open the array's fact as it stands now (its cell, kind, length, elements)
  have hin49 : ¬ ((5 : Int32) < 0 ∨ cl_b7_49.slots.size ≤ ((5 : Int32)).toNatClampNeg) := inb_of S_b7 ⟨by decide, by decide⟩
  obtain ⟨T13, h13, X13, e13, W13, st13⟩ := stJ X12 hx hZ e12 Ar_b7 (j := (5 : Int32)) hin49 (g := (mkF m 49 #[.val (.int p1), .val (.int p2), .val (.long q3), .second, .val (.long q4), .second, .val (.long q5), .second, .val (.long q6), .second, .val (.int (p1 &&& (3 : Int32))), .val (.int (p2 &&& (255 : Int32))), .unset, .unset, .unset, .unset, .unset, .unset, .unset] [(.long (q4 ^^^ q6)), (.int (5 : Int32)), (.ref b7), (.ref b7)])) rfl rfl (hb hby at_49)
  have V_b7_13 := Arv.set Ar_b7 q_b7 S_b7 N_b7 H_b7 G_b7 rfl W13 5 rfl (Nat.le_of_ble_eq_true rfl)      -- the array as it stands now (the place must lie among its first values: Arv.pad with pad_rep lengthens them)
  have K13 : Keep h0 h13 [] := K12.wr W13 (Or.inr sz_b7)
  have N13 := Fr.snoc X13 N12 g_b7
  obtain ⟨cl_b7_58, Ar_b7, q_b7, S_b7, N_b7, H_b7, G_b7⟩ := V_b7_13      -- open the array's fact as it stands now (its cell, kind, length, elements)
  have hin58 : ¬ ((6 : Int32) < 0 ∨ cl_b7_58.slots.size ≤ ((6 : Int32)).toNatClampNeg) := inb_of S_b7 ⟨by decide, by decide⟩
  obtain ⟨T14, h14, X14, e14, W14, st14⟩ := stJ X13 hx hZ e13 Ar_b7 (j := (6 : Int32)) hin58 (g := (mkF m 58 #[.val (.int p1), .val (.int p2), .val (.long q3), .second, .val (.long q4), .second, .val (.long q5), .second, .val (.long q6), .second, .val (.int (p1 &&& (3 : Int32))), .val (.int (p2 &&& (255 : Int32))), .unset, .unset, .unset, .unset, .unset, .unset, .unset] [(.long (q3 ^^^ (-1 : Int64))), (.int (6 : Int32)), (.ref b7), (.ref b7)])) rfl rfl (hb hby at_58)
  have V_b7_14 := Arv.set Ar_b7 q_b7 S_b7 N_b7 H_b7 G_b7 rfl W14 6 rfl (Nat.le_of_ble_eq_true rfl)      -- the array as it stands now (the place must lie among its first values: Arv.pad with pad_rep lengthens them)
  have K14 : Keep h0 h14 [] := K13.wr W14 (Or.inr sz_b7)
  have N14 := Fr.snoc X14 N13 g_b7
  obtain ⟨T15, h15, k15, X15, e15, E15, A15, st15⟩ := newP X14 hx hZ (hw _ (List.mem_of_getElem? (i := 0) rfl)) e14 (g := (mkF m 63 #[.val (.int p1), .val (.int p2), .val (.long q3), .second, .val (.long q4), .second, .val (.long q5), .second, .val (.long q6), .second, .val (.int (p1 &&& (3 : Int32))), .val (.int (p2 &&& (255 : Int32))), .val (.ref b7), .unset, .unset, .unset, .unset, .unset, .unset] [(.int (7 : Int32))])) rfl (hb hby at_63) rfl (by decide) (cap := 7) (by decide) (by decide) (by decide) (by decide)
  obtain ⟨b15, g15⟩ : ∃ z, z = h14.size := ⟨_, rfl⟩      -- the fresh array's address
  rw [← g15] at A15 st15
  have V_b15 : Arv Z h15 b15 k15 .long (7 : Int32) [(.long (0 : Int64)), (.long (0 : Int64)), (.long (0 : Int64)), (.long (0 : Int64)), (.long (0 : Int64)), (.long (0 : Int64)), (.long (0 : Int64))] (.long (0 : Int64)) := (Arv.new A15 (by decide)).pad (pad_rep [] (.long (0 : Int64)) 7)
  have g_b15 : n0 ≤ b15 := Nat.le_trans (Nat.le_trans (Nat.le_trans (Nat.le_trans (Nat.le_trans (Nat.le_trans (Nat.le_trans (Nat.le_trans (Nat.le_trans Z0 E7.1) (Keep.of_wr W8).1) (Keep.of_wr W9).1) (Keep.of_wr W10).1) (Keep.of_wr W11).1) (Keep.of_wr W12).1) (Keep.of_wr W13).1) (Keep.of_wr W14).1) (Nat.le_of_eq g15.symm)
  have sz_b15 : h0.size ≤ b15 := (Nat.le_trans K14.1 (Nat.le_of_eq g15.symm))
  have K15 : Keep h0 h15 [] := K14.ext E15
  obtain ⟨cl_b15_68, Ar_b15, q_b15, S_b15, N_b15, H_b15, G_b15⟩ := V_b15      -- open the array's fact as it stands now (its cell, kind, length, elements)
  have hin68 : ¬ ((0 : Int32) < 0 ∨ cl_b15_68.slots.size ≤ ((0 : Int32)).toNatClampNeg) := inb_of S_b15 ⟨by decide, by decide⟩
  obtain ⟨T16, h16, X16, e16, W16, st16⟩ := stJ X15 hx hZ e15 Ar_b15 (j := (0 : Int32)) hin68 (g := (mkF m 68 #[.val (.int p1), .val (.int p2), .val (.long q3), .second, .val (.long q4), .second, .val (.long q5), .second, .val (.long q6), .second, .val (.int (p1 &&& (3 : Int32))), .val (.int (p2 &&& (255 : Int32))), .val (.ref b7), .unset, .unset, .unset, .unset, .unset, .unset] [(.long q3), (.int (0 : Int32)), (.ref b15), (.ref b15)])) rfl rfl (hb hby at_68)
  have V_b15_16 := Arv.set Ar_b15 q_b15 S_b15 N_b15 H_b15 G_b15 rfl W16 0 rfl (Nat.le_of_ble_eq_true rfl)      -- the array as it stands now (the place must lie among its first values: Arv.pad with pad_rep lengthens them)
  have K16 : Keep h0 h16 [] := K15.wr W16 (Or.inr sz_b15)
  have N16 := Fr.snoc X16 N14 g_b15
  obtain ⟨cl_b15_73, Ar_b15, q_b15, S_b15, N_b15, H_b15, G_b15⟩ := V_b15_16      -- open the array's fact as it stands now (its cell, kind, length, elements)
  have hin73 : ¬ ((1 : Int32) < 0 ∨ cl_b15_73.slots.size ≤ ((1 : Int32)).toNatClampNeg) := inb_of S_b15 ⟨by decide, by decide⟩
  obtain ⟨T17, h17, X17, e17, W17, st17⟩ := stJ X16 hx hZ e16 Ar_b15 (j := (1 : Int32)) hin73 (g := (mkF m 73 #[.val (.int p1), .val (.int p2), .val (.long q3), .second, .val (.long q4), .second, .val (.long q5), .second, .val (.long q6), .second, .val (.int (p1 &&& (3 : Int32))), .val (.int (p2 &&& (255 : Int32))), .val (.ref b7), .unset, .unset, .unset, .unset, .unset, .unset] [(.long q4), (.int (1 : Int32)), (.ref b15), (.ref b15)])) rfl rfl (hb hby at_73)
  have V_b15_17 := Arv.set Ar_b15 q_b15 S_b15 N_b15 H_b15 G_b15 rfl W17 1 rfl (Nat.le_of_ble_eq_true rfl)      -- the array as it stands now (the place must lie among its first values: Arv.pad with pad_rep lengthens them)
  have K17 : Keep h0 h17 [] := K16.wr W17 (Or.inr sz_b15)
  have N17 := Fr.snoc X17 N16 g_b15
  obtain ⟨cl_b15_78, Ar_b15, q_b15, S_b15, N_b15, H_b15, G_b15⟩ := V_b15_17      -- open the array's fact as it stands now (its cell, kind, length, elements)
  have hin78 : ¬ ((2 : Int32) < 0 ∨ cl_b15_78.slots.size ≤ ((2 : Int32)).toNatClampNeg) := inb_of S_b15 ⟨by decide, by decide⟩
  obtain ⟨T18, h18, X18, e18, W18, st18⟩ := stJ X17 hx hZ e17 Ar_b15 (j := (2 : Int32)) hin78 (g := (mkF m 78 #[.val (.int p1), .val (.int p2), .val (.long q3), .second, .val (.long q4), .second, .val (.long q5), .second, .val (.long q6), .second, .val (.int (p1 &&& (3 : Int32))), .val (.int (p2 &&& (255 : Int32))), .val (.ref b7), .unset, .unset, .unset, .unset, .unset, .unset] [(.long q5), (.int (2 : Int32)), (.ref b15), (.ref b15)])) rfl rfl (hb hby at_78)
  have V_b15_18 := Arv.set Ar_b15 q_b15 S_b15 N_b15 H_b15 G_b15 rfl W18 2 rfl (Nat.le_of_ble_eq_true rfl)      -- the array as it stands now (the place must lie among its first values: Arv.pad with pad_rep lengthens them)
  have K18 : Keep h0 h18 [] := K17.wr W18 (Or.inr sz_b15)
  have N18 := Fr.snoc X18 N17 g_b15
  obtain ⟨cl_b15_83, Ar_b15, q_b15, S_b15, N_b15, H_b15, G_b15⟩ := V_b15_18      -- open the array's fact as it stands now (its cell, kind, length, elements)
  have hin83 : ¬ ((3 : Int32) < 0 ∨ cl_b15_83.slots.size ≤ ((3 : Int32)).toNatClampNeg) := inb_of S_b15 ⟨by decide, by decide⟩
  obtain ⟨T19, h19, X19, e19, W19, st19⟩ := stJ X18 hx hZ e18 Ar_b15 (j := (3 : Int32)) hin83 (g := (mkF m 83 #[.val (.int p1), .val (.int p2), .val (.long q3), .second, .val (.long q4), .second, .val (.long q5), .second, .val (.long q6), .second, .val (.int (p1 &&& (3 : Int32))), .val (.int (p2 &&& (255 : Int32))), .val (.ref b7), .unset, .unset, .unset, .unset, .unset, .unset] [(.long q6), (.int (3 : Int32)), (.ref b15), (.ref b15)])) rfl rfl (hb hby at_83)
  have V_b15_19 := Arv.set Ar_b15 q_b15 S_b15 N_b15 H_b15 G_b15 rfl W19 3 rfl (Nat.le_of_ble_eq_true rfl)      -- the array as it stands now (the place must lie among its first values: Arv.pad with pad_rep lengthens them)
  have K19 : Keep h0 h19 [] := K18.wr W19 (Or.inr sz_b15)
  have N19 := Fr.snoc X19 N18 g_b15
  obtain ⟨cl_b15_90, Ar_b15, q_b15, S_b15, N_b15, H_b15, G_b15⟩ := V_b15_19      -- open the array's fact as it stands now (its cell, kind, length, elements)
  have hin90 : ¬ ((4 : Int32) < 0 ∨ cl_b15_90.slots.size ≤ ((4 : Int32)).toNatClampNeg) := inb_of S_b15 ⟨by decide, by decide⟩
  obtain ⟨T20, h20, X20, e20, W20, st20⟩ := stJ X19 hx hZ e19 Ar_b15 (j := (4 : Int32)) hin90 (g := (mkF m 90 #[.val (.int p1), .val (.int p2), .val (.long q3), .second, .val (.long q4), .second, .val (.long q5), .second, .val (.long q6), .second, .val (.int (p1 &&& (3 : Int32))), .val (.int (p2 &&& (255 : Int32))), .val (.ref b7), .unset, .unset, .unset, .unset, .unset, .unset] [(.long (q3 ^^^ q5)), (.int (4 : Int32)), (.ref b15), (.ref b15)])) rfl rfl (hb hby at_90)
  have V_b15_20 := Arv.set Ar_b15 q_b15 S_b15 N_b15 H_b15 G_b15 rfl W20 4 rfl (Nat.le_of_ble_eq_true rfl)      -- the array as it stands now (the place must lie among its first values: Arv.pad with pad_rep lengthens them)
  have K20 : Keep h0 h20 [] := K19.wr W20 (Or.inr sz_b15)
  have N20 := Fr.snoc X20 N19 g_b15
  obtain ⟨cl_b15_98, Ar_b15, q_b15, S_b15, N_b15, H_b15, G_b15⟩ := V_b15_20      -- open the array's fact as it stands now (its cell, kind, length, elements)
  have hin98 : ¬ ((5 : Int32) < 0 ∨ cl_b15_98.slots.size ≤ ((5 : Int32)).toNatClampNeg) := inb_of S_b15 ⟨by decide, by decide⟩
  obtain ⟨T21, h21, X21, e21, W21, st21⟩ := stJ X20 hx hZ e20 Ar_b15 (j := (5 : Int32)) hin98 (g := (mkF m 98 #[.val (.int p1), .val (.int p2), .val (.long q3), .second, .val (.long q4), .second, .val (.long q5), .second, .val (.long q6), .second, .val (.int (p1 &&& (3 : Int32))), .val (.int (p2 &&& (255 : Int32))), .val (.ref b7), .unset, .unset, .unset, .unset, .unset, .unset] [(.long (q4 ^^^ q6)), (.int (5 : Int32)), (.ref b15), (.ref b15)])) rfl rfl (hb hby at_98)
  have V_b15_21 := Arv.set Ar_b15 q_b15 S_b15 N_b15 H_b15 G_b15 rfl W21 5 rfl (Nat.le_of_ble_eq_true rfl)      -- the array as it stands now (the place must lie among its first values: Arv.pad with pad_rep lengthens them)
  have K21 : Keep h0 h21 [] := K20.wr W21 (Or.inr sz_b15)
  have N21 := Fr.snoc X21 N20 g_b15
  obtain ⟨cl_b15_107, Ar_b15, q_b15, S_b15, N_b15, H_b15, G_b15⟩ := V_b15_21      -- open the array's fact as it stands now (its cell, kind, length, elements)
  have hin107 : ¬ ((6 : Int32) < 0 ∨ cl_b15_107.slots.size ≤ ((6 : Int32)).toNatClampNeg) := inb_of S_b15 ⟨by decide, by decide⟩
  obtain ⟨T22, h22, X22, e22, W22, st22⟩ := stJ X21 hx hZ e21 Ar_b15 (j := (6 : Int32)) hin107 (g := (mkF m 107 #[.val (.int p1), .val (.int p2), .val (.long q3), .second, .val (.long q4), .second, .val (.long q5), .second, .val (.long q6), .second, .val (.int (p1 &&& (3 : Int32))), .val (.int (p2 &&& (255 : Int32))), .val (.ref b7), .unset, .unset, .unset, .unset, .unset, .unset] [(.long (q3 ^^^ (-1 : Int64))), (.int (6 : Int32)), (.ref b15), (.ref b15)])) rfl rfl (hb hby at_107)
  have V_b15_22 := Arv.set Ar_b15 q_b15 S_b15 N_b15 H_b15 G_b15 rfl W22 6 rfl (Nat.le_of_ble_eq_true rfl)      -- the array as it stands now (the place must lie among its first values: Arv.pad with pad_rep lengthens them)
  have K22 : Keep h0 h22 [] := K21.wr W22 (Or.inr sz_b15)
  have N22 := Fr.snoc X22 N21 g_b15
  have VB : Arv Z h14 b7 k7 .long (7 : Int32) ((own_ws q3 q4 q5 q6).map Value.long) (.long (0 : Int64)) := V_b7_14
  have VA : Arv Z h22 b15 k15 .long (7 : Int32) ((own_ws q3 q4 q5 q6).map Value.long) (.long (0 : Int64)) := V_b15_22
  have ne : b7 ≠ b15 := Nat.ne_of_lt (by rw [g15]; exact VB.lt)
  have VB2 : Arv Z h22 b7 k7 .long (7 : Int32) ((own_ws q3 q4 q5 q6).map Value.long) (.long (0 : Int64)) := ((((((((VB.ext E15).other W16 ne).other W17 ne).other W18 ne).other W19 ne).other W20 ne).other W21 ne).other W22 ne)
  have Zs : n0 ≤ h22.size := Nat.le_trans Z0 K22.1
  obtain ⟨cA, ArA, qA, SA, NA, HA, GA⟩ := VA
  -- pc 116: com/example/rillpath/rillpath/engine/StepSets.add by its contract rm1
  obtain ⟨_, _, ⟨T23, L23, k23, n23⟩, -, X23, ⟨Lc23, hQ23, l23, y23, z23⟩, st23⟩ := Jvm.LawKit.callS X22 hx (y := (⟨"com/example/rillpath/rillpath/engine/StepSets", "add", "([JII)V"⟩ : MethodName)) hown (mvT hZ (hw _ (List.mem_of_getElem? (i := 2) rfl))) (mvT hZ (hw _ (List.mem_of_getElem? (i := 3) rfl))) (mvT hZ (hw _ (List.mem_of_getElem? (i := 4) rfl))) (mvT hZ (hw _ (List.mem_of_getElem? (i := 5) rfl))) (by decide) (backOf (W := 0) (rm1 l Z a0 hw [] b15 (p1 &&& (3 : Int32)) (p2 &&& (255 : Int32)) ((own_ws q3 q4 q5 q6).getD (own_j p1 p2).toNatClampNeg 0) cA h22 n0 Zs ArA (inb_of SA (own_j_in p1 p2)) (own_at SA HA _ (own_j_in p1 p2)) (inb_of SA (own_j_in p1 p2)) g_b15) hZ (hw _ (List.mem_of_getElem? (i := 5) rfl)) (hw _ (List.mem_of_getElem? (i := 4) rfl)) (by decide) (by decide)) (g := (mkF m 116 #[.val (.int p1), .val (.int p2), .val (.long q3), .second, .val (.long q4), .second, .val (.long q5), .second, .val (.long q6), .second, .val (.int (p1 &&& (3 : Int32))), .val (.int (p2 &&& (255 : Int32))), .val (.ref b7), .val (.ref b15), .unset, .unset, .unset, .unset, .unset] [(.int (p2 &&& (255 : Int32))), (.int (p1 &&& (3 : Int32))), (.ref b15)])) rfl (by rw [hml]; rfl) (argsL := [(.ref b15), (.int (p1 &&& (3 : Int32))), (.int (p2 &&& (255 : Int32)))]) (rest := []) (lenOf pd_0_0 rfl) rfl (by show 2 * 0 + _ ≤ _; exact Nat.le_of_eq rfl) (hb hby at_116) (fun _ _ => ⟨rfl, e22, (by decide : 2 + 0 ≤ _), (by decide : 14 + 0 ≤ _)⟩)
  dsimp only [Pt.U, Pt.locs, Pt.cells, Pt.slots] at X23 l23 y23 z23 st23 hQ23
  subst y23 z23
  obtain ⟨rfl, N23q, K23, ArA2⟩ := hQ23      -- what it returned, that it wrote nothing old, and the rest of your Q1
  have N23 : Fr n0 L23 := by rw [l23]; exact Fr.app N22 N23q
  obtain ⟨cB, ArB, qB, SB, NB, HB, GB⟩ := VB2.keep K23 (by simp; exact ne)
  have Zt : n0 ≤ T23.heap.size := Nat.le_trans Zs K23.1
  have SA2 : (cA.setSlot (own_j p1 p2).toNatClampNeg (.long ((own_ws q3 q4 q5 q6).getD (own_j p1 p2).toNatClampNeg 0 ||| (own_bit (p2 &&& (255 : Int32)))))).slots.size = (7 : Int32).toNatClampNeg := by rw [sz_set]; exact SA
  -- pc 212: com/example/rillpath/rillpath/engine/StepSetsAddPinLaw.same by its contract rm2
  obtain ⟨_, _, ⟨T24, L24, k24, n24⟩, -, X24, ⟨Lc24, hQ24, l24, y24, z24⟩, st24⟩ := Jvm.LawKit.callS X23 hx (y := (⟨"com/example/rillpath/rillpath/engine/StepSetsAddPinLaw", "same", "([J[JIIJ)Z"⟩ : MethodName)) hown (mvT hZ (hw _ (List.mem_of_getElem? (i := 6) rfl))) (mvT hZ (hw _ (List.mem_of_getElem? (i := 7) rfl))) (mvT hZ (hw _ (List.mem_of_getElem? (i := 8) rfl))) (mvT hZ (hw _ (List.mem_of_getElem? (i := 9) rfl))) (by decide) (backOf (W := 0) (rm2 l Z a0 hw [] b15 b7 (0 : Int32) (own_j p1 p2) (own_bit (p2 &&& (255 : Int32))) ((own_ws q3 q4 q5 q6).getD (0 : Int32).toNatClampNeg 0) cB (if (0 : Int32) = (own_j p1 p2) then ((own_ws q3 q4 q5 q6).getD (0 : Int32).toNatClampNeg 0) ||| (own_bit (p2 &&& (255 : Int32))) else ((own_ws q3 q4 q5 q6).getD (0 : Int32).toNatClampNeg 0)) _ T23.heap n0 Zt ArB (inb_of SB ⟨by decide, by decide⟩) (own_at SB HB (0 : Int32) ⟨by decide, by decide⟩) ArA2 (inb_of SA2 ⟨by decide, by decide⟩) (own_after SA HA _ (own_j_in p1 p2) _ (0 : Int32) ⟨by decide, by decide⟩) rfl) hZ (hw _ (List.mem_of_getElem? (i := 9) rfl)) (hw _ (List.mem_of_getElem? (i := 8) rfl)) (by decide) (by decide)) (g := (mkF m 212 #[.val (.int p1), .val (.int p2), .val (.long q3), .second, .val (.long q4), .second, .val (.long q5), .second, .val (.long q6), .second, .val (.int (p1 &&& (3 : Int32))), .val (.int (p2 &&& (255 : Int32))), .val (.ref b7), .val (.ref b15), .val (.int ((p2 &&& (255 : Int32)) / (64 : Int32))), .val (.int ((p2 &&& (255 : Int32)) % (64 : Int32))), .val (.int (own_j p1 p2)), .val (.long (own_bit (p2 &&& (255 : Int32)))), .second] [(.long (own_bit (p2 &&& (255 : Int32)))), (.int (own_j p1 p2)), (.int (0 : Int32)), (.ref b7), (.ref b15)])) rfl (by rw [hml]; rfl) (argsL := [(.ref b15), (.ref b7), (.int (0 : Int32)), (.int (own_j p1 p2)), (.long (own_bit (p2 &&& (255 : Int32))))]) (rest := []) (lenOf pd_0_1 rfl) rfl (by show 2 * 0 + _ ≤ _; exact Nat.le_of_eq rfl) (hb hby at_212) (fun _ _ => ⟨rfl, rfl, (by decide : 2 + 0 ≤ _), (by decide : 14 + 0 ≤ _)⟩)
  dsimp only [Pt.U, Pt.locs, Pt.cells, Pt.slots] at X24 l24 y24 z24 st24 hQ24
  subst y24 z24
  obtain ⟨rfl, N24q, q24⟩ := hQ24      -- what it returned, that it wrote nothing old, and the rest of your Q2
  have N24 : Fr n0 L24 := by rw [l24]; exact Fr.app N23 N24q
  -- pc 227: com/example/rillpath/rillpath/engine/StepSetsAddPinLaw.same by its contract rm2
  obtain ⟨_, _, ⟨T25, L25, k25, n25⟩, -, X25, ⟨Lc25, hQ25, l25, y25, z25⟩, st25⟩ := Jvm.LawKit.callS X24 hx (y := (⟨"com/example/rillpath/rillpath/engine/StepSetsAddPinLaw", "same", "([J[JIIJ)Z"⟩ : MethodName)) hown (mvT hZ (hw _ (List.mem_of_getElem? (i := 6) rfl))) (mvT hZ (hw _ (List.mem_of_getElem? (i := 7) rfl))) (mvT hZ (hw _ (List.mem_of_getElem? (i := 8) rfl))) (mvT hZ (hw _ (List.mem_of_getElem? (i := 9) rfl))) (by decide) (backOf (W := 0) (rm2 l Z a0 hw [] b15 b7 (1 : Int32) (own_j p1 p2) (own_bit (p2 &&& (255 : Int32))) ((own_ws q3 q4 q5 q6).getD (1 : Int32).toNatClampNeg 0) cB (if (1 : Int32) = (own_j p1 p2) then ((own_ws q3 q4 q5 q6).getD (1 : Int32).toNatClampNeg 0) ||| (own_bit (p2 &&& (255 : Int32))) else ((own_ws q3 q4 q5 q6).getD (1 : Int32).toNatClampNeg 0)) _ T23.heap n0 Zt ArB (inb_of SB ⟨by decide, by decide⟩) (own_at SB HB (1 : Int32) ⟨by decide, by decide⟩) ArA2 (inb_of SA2 ⟨by decide, by decide⟩) (own_after SA HA _ (own_j_in p1 p2) _ (1 : Int32) ⟨by decide, by decide⟩) rfl) hZ (hw _ (List.mem_of_getElem? (i := 9) rfl)) (hw _ (List.mem_of_getElem? (i := 8) rfl)) (by decide) (by decide)) (g := (mkF m 227 #[.val (.int p1), .val (.int p2), .val (.long q3), .second, .val (.long q4), .second, .val (.long q5), .second, .val (.long q6), .second, .val (.int (p1 &&& (3 : Int32))), .val (.int (p2 &&& (255 : Int32))), .val (.ref b7), .val (.ref b15), .val (.int ((p2 &&& (255 : Int32)) / (64 : Int32))), .val (.int ((p2 &&& (255 : Int32)) % (64 : Int32))), .val (.int (own_j p1 p2)), .val (.long (own_bit (p2 &&& (255 : Int32)))), .second] [(.long (own_bit (p2 &&& (255 : Int32)))), (.int (own_j p1 p2)), (.int (1 : Int32)), (.ref b7), (.ref b15)])) rfl (by rw [hml]; rfl) (argsL := [(.ref b15), (.ref b7), (.int (1 : Int32)), (.int (own_j p1 p2)), (.long (own_bit (p2 &&& (255 : Int32))))]) (rest := []) (lenOf pd_0_1 rfl) rfl (by show 2 * 0 + _ ≤ _; exact Nat.le_of_eq rfl) (hb hby at_227) (fun _ _ => ⟨rfl, q24, (by decide : 2 + 0 ≤ _), (by decide : 14 + 0 ≤ _)⟩)
  dsimp only [Pt.U, Pt.locs, Pt.cells, Pt.slots] at X25 l25 y25 z25 st25 hQ25
  subst y25 z25
  obtain ⟨rfl, N25q, q25⟩ := hQ25      -- what it returned, that it wrote nothing old, and the rest of your Q2
  have N25 : Fr n0 L25 := by rw [l25]; exact Fr.app N24 N25q
  -- pc 242: com/example/rillpath/rillpath/engine/StepSetsAddPinLaw.same by its contract rm2
  obtain ⟨_, _, ⟨T26, L26, k26, n26⟩, -, X26, ⟨Lc26, hQ26, l26, y26, z26⟩, st26⟩ := Jvm.LawKit.callS X25 hx (y := (⟨"com/example/rillpath/rillpath/engine/StepSetsAddPinLaw", "same", "([J[JIIJ)Z"⟩ : MethodName)) hown (mvT hZ (hw _ (List.mem_of_getElem? (i := 6) rfl))) (mvT hZ (hw _ (List.mem_of_getElem? (i := 7) rfl))) (mvT hZ (hw _ (List.mem_of_getElem? (i := 8) rfl))) (mvT hZ (hw _ (List.mem_of_getElem? (i := 9) rfl))) (by decide) (backOf (W := 0) (rm2 l Z a0 hw [] b15 b7 (2 : Int32) (own_j p1 p2) (own_bit (p2 &&& (255 : Int32))) ((own_ws q3 q4 q5 q6).getD (2 : Int32).toNatClampNeg 0) cB (if (2 : Int32) = (own_j p1 p2) then ((own_ws q3 q4 q5 q6).getD (2 : Int32).toNatClampNeg 0) ||| (own_bit (p2 &&& (255 : Int32))) else ((own_ws q3 q4 q5 q6).getD (2 : Int32).toNatClampNeg 0)) _ T23.heap n0 Zt ArB (inb_of SB ⟨by decide, by decide⟩) (own_at SB HB (2 : Int32) ⟨by decide, by decide⟩) ArA2 (inb_of SA2 ⟨by decide, by decide⟩) (own_after SA HA _ (own_j_in p1 p2) _ (2 : Int32) ⟨by decide, by decide⟩) rfl) hZ (hw _ (List.mem_of_getElem? (i := 9) rfl)) (hw _ (List.mem_of_getElem? (i := 8) rfl)) (by decide) (by decide)) (g := (mkF m 242 #[.val (.int p1), .val (.int p2), .val (.long q3), .second, .val (.long q4), .second, .val (.long q5), .second, .val (.long q6), .second, .val (.int (p1 &&& (3 : Int32))), .val (.int (p2 &&& (255 : Int32))), .val (.ref b7), .val (.ref b15), .val (.int ((p2 &&& (255 : Int32)) / (64 : Int32))), .val (.int ((p2 &&& (255 : Int32)) % (64 : Int32))), .val (.int (own_j p1 p2)), .val (.long (own_bit (p2 &&& (255 : Int32)))), .second] [(.long (own_bit (p2 &&& (255 : Int32)))), (.int (own_j p1 p2)), (.int (2 : Int32)), (.ref b7), (.ref b15)])) rfl (by rw [hml]; rfl) (argsL := [(.ref b15), (.ref b7), (.int (2 : Int32)), (.int (own_j p1 p2)), (.long (own_bit (p2 &&& (255 : Int32))))]) (rest := []) (lenOf pd_0_1 rfl) rfl (by show 2 * 0 + _ ≤ _; exact Nat.le_of_eq rfl) (hb hby at_242) (fun _ _ => ⟨rfl, q25, (by decide : 2 + 0 ≤ _), (by decide : 14 + 0 ≤ _)⟩)
  dsimp only [Pt.U, Pt.locs, Pt.cells, Pt.slots] at X26 l26 y26 z26 st26 hQ26
  subst y26 z26
  obtain ⟨rfl, N26q, q26⟩ := hQ26      -- what it returned, that it wrote nothing old, and the rest of your Q2
  have N26 : Fr n0 L26 := by rw [l26]; exact Fr.app N25 N26q
  -- pc 257: com/example/rillpath/rillpath/engine/StepSetsAddPinLaw.same by its contract rm2
  obtain ⟨_, _, ⟨T27, L27, k27, n27⟩, -, X27, ⟨Lc27, hQ27, l27, y27, z27⟩, st27⟩ := Jvm.LawKit.callS X26 hx (y := (⟨"com/example/rillpath/rillpath/engine/StepSetsAddPinLaw", "same", "([J[JIIJ)Z"⟩ : MethodName)) hown (mvT hZ (hw _ (List.mem_of_getElem? (i := 6) rfl))) (mvT hZ (hw _ (List.mem_of_getElem? (i := 7) rfl))) (mvT hZ (hw _ (List.mem_of_getElem? (i := 8) rfl))) (mvT hZ (hw _ (List.mem_of_getElem? (i := 9) rfl))) (by decide) (backOf (W := 0) (rm2 l Z a0 hw [] b15 b7 (3 : Int32) (own_j p1 p2) (own_bit (p2 &&& (255 : Int32))) ((own_ws q3 q4 q5 q6).getD (3 : Int32).toNatClampNeg 0) cB (if (3 : Int32) = (own_j p1 p2) then ((own_ws q3 q4 q5 q6).getD (3 : Int32).toNatClampNeg 0) ||| (own_bit (p2 &&& (255 : Int32))) else ((own_ws q3 q4 q5 q6).getD (3 : Int32).toNatClampNeg 0)) _ T23.heap n0 Zt ArB (inb_of SB ⟨by decide, by decide⟩) (own_at SB HB (3 : Int32) ⟨by decide, by decide⟩) ArA2 (inb_of SA2 ⟨by decide, by decide⟩) (own_after SA HA _ (own_j_in p1 p2) _ (3 : Int32) ⟨by decide, by decide⟩) rfl) hZ (hw _ (List.mem_of_getElem? (i := 9) rfl)) (hw _ (List.mem_of_getElem? (i := 8) rfl)) (by decide) (by decide)) (g := (mkF m 257 #[.val (.int p1), .val (.int p2), .val (.long q3), .second, .val (.long q4), .second, .val (.long q5), .second, .val (.long q6), .second, .val (.int (p1 &&& (3 : Int32))), .val (.int (p2 &&& (255 : Int32))), .val (.ref b7), .val (.ref b15), .val (.int ((p2 &&& (255 : Int32)) / (64 : Int32))), .val (.int ((p2 &&& (255 : Int32)) % (64 : Int32))), .val (.int (own_j p1 p2)), .val (.long (own_bit (p2 &&& (255 : Int32)))), .second] [(.long (own_bit (p2 &&& (255 : Int32)))), (.int (own_j p1 p2)), (.int (3 : Int32)), (.ref b7), (.ref b15)])) rfl (by rw [hml]; rfl) (argsL := [(.ref b15), (.ref b7), (.int (3 : Int32)), (.int (own_j p1 p2)), (.long (own_bit (p2 &&& (255 : Int32))))]) (rest := []) (lenOf pd_0_1 rfl) rfl (by show 2 * 0 + _ ≤ _; exact Nat.le_of_eq rfl) (hb hby at_257) (fun _ _ => ⟨rfl, q26, (by decide : 2 + 0 ≤ _), (by decide : 14 + 0 ≤ _)⟩)
  dsimp only [Pt.U, Pt.locs, Pt.cells, Pt.slots] at X27 l27 y27 z27 st27 hQ27
  subst y27 z27
  obtain ⟨rfl, N27q, q27⟩ := hQ27      -- what it returned, that it wrote nothing old, and the rest of your Q2
  have N27 : Fr n0 L27 := by rw [l27]; exact Fr.app N26 N27q
  -- pc 272: com/example/rillpath/rillpath/engine/StepSetsAddPinLaw.same by its contract rm2
  obtain ⟨_, _, ⟨T28, L28, k28, n28⟩, -, X28, ⟨Lc28, hQ28, l28, y28, z28⟩, st28⟩ := Jvm.LawKit.callS X27 hx (y := (⟨"com/example/rillpath/rillpath/engine/StepSetsAddPinLaw", "same", "([J[JIIJ)Z"⟩ : MethodName)) hown (mvT hZ (hw _ (List.mem_of_getElem? (i := 6) rfl))) (mvT hZ (hw _ (List.mem_of_getElem? (i := 7) rfl))) (mvT hZ (hw _ (List.mem_of_getElem? (i := 8) rfl))) (mvT hZ (hw _ (List.mem_of_getElem? (i := 9) rfl))) (by decide) (backOf (W := 0) (rm2 l Z a0 hw [] b15 b7 (4 : Int32) (own_j p1 p2) (own_bit (p2 &&& (255 : Int32))) ((own_ws q3 q4 q5 q6).getD (4 : Int32).toNatClampNeg 0) cB (if (4 : Int32) = (own_j p1 p2) then ((own_ws q3 q4 q5 q6).getD (4 : Int32).toNatClampNeg 0) ||| (own_bit (p2 &&& (255 : Int32))) else ((own_ws q3 q4 q5 q6).getD (4 : Int32).toNatClampNeg 0)) _ T23.heap n0 Zt ArB (inb_of SB ⟨by decide, by decide⟩) (own_at SB HB (4 : Int32) ⟨by decide, by decide⟩) ArA2 (inb_of SA2 ⟨by decide, by decide⟩) (own_after SA HA _ (own_j_in p1 p2) _ (4 : Int32) ⟨by decide, by decide⟩) rfl) hZ (hw _ (List.mem_of_getElem? (i := 9) rfl)) (hw _ (List.mem_of_getElem? (i := 8) rfl)) (by decide) (by decide)) (g := (mkF m 272 #[.val (.int p1), .val (.int p2), .val (.long q3), .second, .val (.long q4), .second, .val (.long q5), .second, .val (.long q6), .second, .val (.int (p1 &&& (3 : Int32))), .val (.int (p2 &&& (255 : Int32))), .val (.ref b7), .val (.ref b15), .val (.int ((p2 &&& (255 : Int32)) / (64 : Int32))), .val (.int ((p2 &&& (255 : Int32)) % (64 : Int32))), .val (.int (own_j p1 p2)), .val (.long (own_bit (p2 &&& (255 : Int32)))), .second] [(.long (own_bit (p2 &&& (255 : Int32)))), (.int (own_j p1 p2)), (.int (4 : Int32)), (.ref b7), (.ref b15)])) rfl (by rw [hml]; rfl) (argsL := [(.ref b15), (.ref b7), (.int (4 : Int32)), (.int (own_j p1 p2)), (.long (own_bit (p2 &&& (255 : Int32))))]) (rest := []) (lenOf pd_0_1 rfl) rfl (by show 2 * 0 + _ ≤ _; exact Nat.le_of_eq rfl) (hb hby at_272) (fun _ _ => ⟨rfl, q27, (by decide : 2 + 0 ≤ _), (by decide : 14 + 0 ≤ _)⟩)
  dsimp only [Pt.U, Pt.locs, Pt.cells, Pt.slots] at X28 l28 y28 z28 st28 hQ28
  subst y28 z28
  obtain ⟨rfl, N28q, q28⟩ := hQ28      -- what it returned, that it wrote nothing old, and the rest of your Q2
  have N28 : Fr n0 L28 := by rw [l28]; exact Fr.app N27 N28q
  -- pc 287: com/example/rillpath/rillpath/engine/StepSetsAddPinLaw.same by its contract rm2
  obtain ⟨_, _, ⟨T29, L29, k29, n29⟩, -, X29, ⟨Lc29, hQ29, l29, y29, z29⟩, st29⟩ := Jvm.LawKit.callS X28 hx (y := (⟨"com/example/rillpath/rillpath/engine/StepSetsAddPinLaw", "same", "([J[JIIJ)Z"⟩ : MethodName)) hown (mvT hZ (hw _ (List.mem_of_getElem? (i := 6) rfl))) (mvT hZ (hw _ (List.mem_of_getElem? (i := 7) rfl))) (mvT hZ (hw _ (List.mem_of_getElem? (i := 8) rfl))) (mvT hZ (hw _ (List.mem_of_getElem? (i := 9) rfl))) (by decide) (backOf (W := 0) (rm2 l Z a0 hw [] b15 b7 (5 : Int32) (own_j p1 p2) (own_bit (p2 &&& (255 : Int32))) ((own_ws q3 q4 q5 q6).getD (5 : Int32).toNatClampNeg 0) cB (if (5 : Int32) = (own_j p1 p2) then ((own_ws q3 q4 q5 q6).getD (5 : Int32).toNatClampNeg 0) ||| (own_bit (p2 &&& (255 : Int32))) else ((own_ws q3 q4 q5 q6).getD (5 : Int32).toNatClampNeg 0)) _ T23.heap n0 Zt ArB (inb_of SB ⟨by decide, by decide⟩) (own_at SB HB (5 : Int32) ⟨by decide, by decide⟩) ArA2 (inb_of SA2 ⟨by decide, by decide⟩) (own_after SA HA _ (own_j_in p1 p2) _ (5 : Int32) ⟨by decide, by decide⟩) rfl) hZ (hw _ (List.mem_of_getElem? (i := 9) rfl)) (hw _ (List.mem_of_getElem? (i := 8) rfl)) (by decide) (by decide)) (g := (mkF m 287 #[.val (.int p1), .val (.int p2), .val (.long q3), .second, .val (.long q4), .second, .val (.long q5), .second, .val (.long q6), .second, .val (.int (p1 &&& (3 : Int32))), .val (.int (p2 &&& (255 : Int32))), .val (.ref b7), .val (.ref b15), .val (.int ((p2 &&& (255 : Int32)) / (64 : Int32))), .val (.int ((p2 &&& (255 : Int32)) % (64 : Int32))), .val (.int (own_j p1 p2)), .val (.long (own_bit (p2 &&& (255 : Int32)))), .second] [(.long (own_bit (p2 &&& (255 : Int32)))), (.int (own_j p1 p2)), (.int (5 : Int32)), (.ref b7), (.ref b15)])) rfl (by rw [hml]; rfl) (argsL := [(.ref b15), (.ref b7), (.int (5 : Int32)), (.int (own_j p1 p2)), (.long (own_bit (p2 &&& (255 : Int32))))]) (rest := []) (lenOf pd_0_1 rfl) rfl (by show 2 * 0 + _ ≤ _; exact Nat.le_of_eq rfl) (hb hby at_287) (fun _ _ => ⟨rfl, q28, (by decide : 2 + 0 ≤ _), (by decide : 14 + 0 ≤ _)⟩)
  dsimp only [Pt.U, Pt.locs, Pt.cells, Pt.slots] at X29 l29 y29 z29 st29 hQ29
  subst y29 z29
  obtain ⟨rfl, N29q, q29⟩ := hQ29      -- what it returned, that it wrote nothing old, and the rest of your Q2
  have N29 : Fr n0 L29 := by rw [l29]; exact Fr.app N28 N29q
  -- pc 303: com/example/rillpath/rillpath/engine/StepSetsAddPinLaw.same by its contract rm2
  obtain ⟨_, _, ⟨T30, L30, k30, n30⟩, -, X30, ⟨Lc30, hQ30, l30, y30, z30⟩, st30⟩ := Jvm.LawKit.callS X29 hx (y := (⟨"com/example/rillpath/rillpath/engine/StepSetsAddPinLaw", "same", "([J[JIIJ)Z"⟩ : MethodName)) hown (mvT hZ (hw _ (List.mem_of_getElem? (i := 6) rfl))) (mvT hZ (hw _ (List.mem_of_getElem? (i := 7) rfl))) (mvT hZ (hw _ (List.mem_of_getElem? (i := 8) rfl))) (mvT hZ (hw _ (List.mem_of_getElem? (i := 9) rfl))) (by decide) (backOf (W := 0) (rm2 l Z a0 hw [] b15 b7 (6 : Int32) (own_j p1 p2) (own_bit (p2 &&& (255 : Int32))) ((own_ws q3 q4 q5 q6).getD (6 : Int32).toNatClampNeg 0) cB (if (6 : Int32) = (own_j p1 p2) then ((own_ws q3 q4 q5 q6).getD (6 : Int32).toNatClampNeg 0) ||| (own_bit (p2 &&& (255 : Int32))) else ((own_ws q3 q4 q5 q6).getD (6 : Int32).toNatClampNeg 0)) _ T23.heap n0 Zt ArB (inb_of SB ⟨by decide, by decide⟩) (own_at SB HB (6 : Int32) ⟨by decide, by decide⟩) ArA2 (inb_of SA2 ⟨by decide, by decide⟩) (own_after SA HA _ (own_j_in p1 p2) _ (6 : Int32) ⟨by decide, by decide⟩) rfl) hZ (hw _ (List.mem_of_getElem? (i := 9) rfl)) (hw _ (List.mem_of_getElem? (i := 8) rfl)) (by decide) (by decide)) (g := (mkF m 303 #[.val (.int p1), .val (.int p2), .val (.long q3), .second, .val (.long q4), .second, .val (.long q5), .second, .val (.long q6), .second, .val (.int (p1 &&& (3 : Int32))), .val (.int (p2 &&& (255 : Int32))), .val (.ref b7), .val (.ref b15), .val (.int ((p2 &&& (255 : Int32)) / (64 : Int32))), .val (.int ((p2 &&& (255 : Int32)) % (64 : Int32))), .val (.int (own_j p1 p2)), .val (.long (own_bit (p2 &&& (255 : Int32)))), .second] [(.long (own_bit (p2 &&& (255 : Int32)))), (.int (own_j p1 p2)), (.int (6 : Int32)), (.ref b7), (.ref b15)])) rfl (by rw [hml]; rfl) (argsL := [(.ref b15), (.ref b7), (.int (6 : Int32)), (.int (own_j p1 p2)), (.long (own_bit (p2 &&& (255 : Int32))))]) (rest := []) (lenOf pd_0_1 rfl) rfl (by show 2 * 0 + _ ≤ _; exact Nat.le_of_eq rfl) (hb hby at_303) (fun _ _ => ⟨rfl, q29, (by decide : 2 + 0 ≤ _), (by decide : 14 + 0 ≤ _)⟩)
  dsimp only [Pt.U, Pt.locs, Pt.cells, Pt.slots] at X30 l30 y30 z30 st30 hQ30
  subst y30 z30
  obtain ⟨rfl, N30q, q30⟩ := hQ30      -- what it returned, that it wrote nothing old, and the rest of your Q2
  have N30 : Fr n0 L30 := by rw [l30]; exact Fr.app N29 N30q
  obtain ⟨fs, hr, hrun, hended, hW, hsame⟩ := X30.leave (v := some (.int (1 : Int32))) (fun h => by rw [Bd.returns] at h; cases h)
  refine ⟨_, _, pre0 _ ?_, hrun, hended, _, _, rfl, ?_, ⟨_, rfl⟩, hW, hsame.mono (by decide) (by decide)⟩
  -- 4. STEPS
  · show Steps p.tables e below (s₁.setTop (mkF m 0 #[.val (.int p1), .val (.int p2), .val (.long q3), .second, .val (.long q4), .second, .val (.long q5), .second, .val (.long q6), .second, .unset, .unset, .unset, .unset, .unset, .unset, .unset, .unset, .unset] [])) _
    refine XS.iloadN X0.here hx rfl (hb hby at_0) rfl ?_
    show Steps p.tables e below (s₁.setTop (mkF m 1 #[.val (.int p1), .val (.int p2), .val (.long q3), .second, .val (.long q4), .second, .val (.long q5), .second, .val (.long q6), .second, .unset, .unset, .unset, .unset, .unset, .unset, .unset, .unset, .unset] [(.int p1)])) _
    refine XS.iconst X0.here hx rfl (hb hby at_1) ?_
    show Steps p.tables e below (s₁.setTop (mkF m 2 #[.val (.int p1), .val (.int p2), .val (.long q3), .second, .val (.long q4), .second, .val (.long q5), .second, .val (.long q6), .second, .unset, .unset, .unset, .unset, .unset, .unset, .unset, .unset, .unset] [(.int (3 : Int32)), (.int p1)])) _
    refine XS.iand X0.here hx rfl (hb hby at_2) rfl ?_
    show Steps p.tables e below (s₁.setTop (mkF m 3 #[.val (.int p1), .val (.int p2), .val (.long q3), .second, .val (.long q4), .second, .val (.long q5), .second, .val (.long q6), .second, .unset, .unset, .unset, .unset, .unset, .unset, .unset, .unset, .unset] [(.int (p1 &&& (3 : Int32)))])) _
    refine XS.istore X0.here hx rfl (hb hby at_3) rfl (l' := #[.val (.int p1), .val (.int p2), .val (.long q3), .second, .val (.long q4), .second, .val (.long q5), .second, .val (.long q6), .second, .val (.int (p1 &&& (3 : Int32))), .unset, .unset, .unset, .unset, .unset, .unset, .unset, .unset]) rfl ?_
    show Steps p.tables e below (s₁.setTop (mkF m 5 #[.val (.int p1), .val (.int p2), .val (.long q3), .second, .val (.long q4), .second, .val (.long q5), .second, .val (.long q6), .second, .val (.int (p1 &&& (3 : Int32))), .unset, .unset, .unset, .unset, .unset, .unset, .unset, .unset] [])) _
    refine XS.iloadN X0.here hx rfl (hb hby at_5) rfl ?_
    show Steps p.tables e below (s₁.setTop (mkF m 6 #[.val (.int p1), .val (.int p2), .val (.long q3), .second, .val (.long q4), .second, .val (.long q5), .second, .val (.long q6), .second, .val (.int (p1 &&& (3 : Int32))), .unset, .unset, .unset, .unset, .unset, .unset, .unset, .unset] [(.int p2)])) _
    refine XS.sipush X0.here hx rfl (hb hby at_6) ?_
    show Steps p.tables e below (s₁.setTop (mkF m 9 #[.val (.int p1), .val (.int p2), .val (.long q3), .second, .val (.long q4), .second, .val (.long q5), .second, .val (.long q6), .second, .val (.int (p1 &&& (3 : Int32))), .unset, .unset, .unset, .unset, .unset, .unset, .unset, .unset] [(.int (255 : Int32)), (.int p2)])) _
    refine XS.iand X0.here hx rfl (hb hby at_9) rfl ?_
    show Steps p.tables e below (s₁.setTop (mkF m 10 #[.val (.int p1), .val (.int p2), .val (.long q3), .second, .val (.long q4), .second, .val (.long q5), .second, .val (.long q6), .second, .val (.int (p1 &&& (3 : Int32))), .unset, .unset, .unset, .unset, .unset, .unset, .unset, .unset] [(.int (p2 &&& (255 : Int32)))])) _
    refine XS.istore X0.here hx rfl (hb hby at_10) rfl (l' := #[.val (.int p1), .val (.int p2), .val (.long q3), .second, .val (.long q4), .second, .val (.long q5), .second, .val (.long q6), .second, .val (.int (p1 &&& (3 : Int32))), .val (.int (p2 &&& (255 : Int32))), .unset, .unset, .unset, .unset, .unset, .unset, .unset]) rfl ?_
    show Steps p.tables e below (s₁.setTop (mkF m 12 #[.val (.int p1), .val (.int p2), .val (.long q3), .second, .val (.long q4), .second, .val (.long q5), .second, .val (.long q6), .second, .val (.int (p1 &&& (3 : Int32))), .val (.int (p2 &&& (255 : Int32))), .unset, .unset, .unset, .unset, .unset, .unset, .unset] [])) _
    refine XS.bipush X0.here hx rfl (hb hby at_12) ?_
    show Steps p.tables e below (s₁.setTop (mkF m 14 #[.val (.int p1), .val (.int p2), .val (.long q3), .second, .val (.long q4), .second, .val (.long q5), .second, .val (.long q6), .second, .val (.int (p1 &&& (3 : Int32))), .val (.int (p2 &&& (255 : Int32))), .unset, .unset, .unset, .unset, .unset, .unset, .unset] [(.int (7 : Int32))])) _
    refine st7 _ ?_
    show Steps p.tables e below (T7.setTop (mkF m 16 #[.val (.int p1), .val (.int p2), .val (.long q3), .second, .val (.long q4), .second, .val (.long q5), .second, .val (.long q6), .second, .val (.int (p1 &&& (3 : Int32))), .val (.int (p2 &&& (255 : Int32))), .unset, .unset, .unset, .unset, .unset, .unset, .unset] [(.ref b7)])) _
    refine XS.dup X7.here hx rfl (hb hby at_16) rfl rfl ?_
    show Steps p.tables e below (T7.setTop (mkF m 17 #[.val (.int p1), .val (.int p2), .val (.long q3), .second, .val (.long q4), .second, .val (.long q5), .second, .val (.long q6), .second, .val (.int (p1 &&& (3 : Int32))), .val (.int (p2 &&& (255 : Int32))), .unset, .unset, .unset, .unset, .unset, .unset, .unset] [(.ref b7), (.ref b7)])) _
    refine XS.iconst X7.here hx rfl (hb hby at_17) ?_
    show Steps p.tables e below (T7.setTop (mkF m 18 #[.val (.int p1), .val (.int p2), .val (.long q3), .second, .val (.long q4), .second, .val (.long q5), .second, .val (.long q6), .second, .val (.int (p1 &&& (3 : Int32))), .val (.int (p2 &&& (255 : Int32))), .unset, .unset, .unset, .unset, .unset, .unset, .unset] [(.int (0 : Int32)), (.ref b7), (.ref b7)])) _
    refine XS.lloadN X7.here hx rfl (hb hby at_18) rfl ?_
    show Steps p.tables e below (T7.setTop (mkF m 19 #[.val (.int p1), .val (.int p2), .val (.long q3), .second, .val (.long q4), .second, .val (.long q5), .second, .val (.long q6), .second, .val (.int (p1 &&& (3 : Int32))), .val (.int (p2 &&& (255 : Int32))), .unset, .unset, .unset, .unset, .unset, .unset, .unset] [(.long q3), (.int (0 : Int32)), (.ref b7), (.ref b7)])) _
    refine st8 _ ?_
    show Steps p.tables e below (T8.setTop (mkF m 20 #[.val (.int p1), .val (.int p2), .val (.long q3), .second, .val (.long q4), .second, .val (.long q5), .second, .val (.long q6), .second, .val (.int (p1 &&& (3 : Int32))), .val (.int (p2 &&& (255 : Int32))), .unset, .unset, .unset, .unset, .unset, .unset, .unset] [(.ref b7)])) _
    refine XS.dup X8.here hx rfl (hb hby at_20) rfl rfl ?_
    show Steps p.tables e below (T8.setTop (mkF m 21 #[.val (.int p1), .val (.int p2), .val (.long q3), .second, .val (.long q4), .second, .val (.long q5), .second, .val (.long q6), .second, .val (.int (p1 &&& (3 : Int32))), .val (.int (p2 &&& (255 : Int32))), .unset, .unset, .unset, .unset, .unset, .unset, .unset] [(.ref b7), (.ref b7)])) _
    refine XS.iconst X8.here hx rfl (hb hby at_21) ?_
    show Steps p.tables e below (T8.setTop (mkF m 22 #[.val (.int p1), .val (.int p2), .val (.long q3), .second, .val (.long q4), .second, .val (.long q5), .second, .val (.long q6), .second, .val (.int (p1 &&& (3 : Int32))), .val (.int (p2 &&& (255 : Int32))), .unset, .unset, .unset, .unset, .unset, .unset, .unset] [(.int (1 : Int32)), (.ref b7), (.ref b7)])) _
    refine XS.lload X8.here hx rfl (hb hby at_22) rfl ?_
    show Steps p.tables e below (T8.setTop (mkF m 24 #[.val (.int p1), .val (.int p2), .val (.long q3), .second, .val (.long q4), .second, .val (.long q5), .second, .val (.long q6), .second, .val (.int (p1 &&& (3 : Int32))), .val (.int (p2 &&& (255 : Int32))), .unset, .unset, .unset, .unset, .unset, .unset, .unset] [(.long q4), (.int (1 : Int32)), (.ref b7), (.ref b7)])) _
    refine st9 _ ?_
    show Steps p.tables e below (T9.setTop (mkF m 25 #[.val (.int p1), .val (.int p2), .val (.long q3), .second, .val (.long q4), .second, .val (.long q5), .second, .val (.long q6), .second, .val (.int (p1 &&& (3 : Int32))), .val (.int (p2 &&& (255 : Int32))), .unset, .unset, .unset, .unset, .unset, .unset, .unset] [(.ref b7)])) _
    refine XS.dup X9.here hx rfl (hb hby at_25) rfl rfl ?_
    show Steps p.tables e below (T9.setTop (mkF m 26 #[.val (.int p1), .val (.int p2), .val (.long q3), .second, .val (.long q4), .second, .val (.long q5), .second, .val (.long q6), .second, .val (.int (p1 &&& (3 : Int32))), .val (.int (p2 &&& (255 : Int32))), .unset, .unset, .unset, .unset, .unset, .unset, .unset] [(.ref b7), (.ref b7)])) _
    refine XS.iconst X9.here hx rfl (hb hby at_26) ?_
    show Steps p.tables e below (T9.setTop (mkF m 27 #[.val (.int p1), .val (.int p2), .val (.long q3), .second, .val (.long q4), .second, .val (.long q5), .second, .val (.long q6), .second, .val (.int (p1 &&& (3 : Int32))), .val (.int (p2 &&& (255 : Int32))), .unset, .unset, .unset, .unset, .unset, .unset, .unset] [(.int (2 : Int32)), (.ref b7), (.ref b7)])) _
    refine XS.lload X9.here hx rfl (hb hby at_27) rfl ?_
    show Steps p.tables e below (T9.setTop (mkF m 29 #[.val (.int p1), .val (.int p2), .val (.long q3), .second, .val (.long q4), .second, .val (.long q5), .second, .val (.long q6), .second, .val (.int (p1 &&& (3 : Int32))), .val (.int (p2 &&& (255 : Int32))), .unset, .unset, .unset, .unset, .unset, .unset, .unset] [(.long q5), (.int (2 : Int32)), (.ref b7), (.ref b7)])) _
    refine st10 _ ?_
    show Steps p.tables e below (T10.setTop (mkF m 30 #[.val (.int p1), .val (.int p2), .val (.long q3), .second, .val (.long q4), .second, .val (.long q5), .second, .val (.long q6), .second, .val (.int (p1 &&& (3 : Int32))), .val (.int (p2 &&& (255 : Int32))), .unset, .unset, .unset, .unset, .unset, .unset, .unset] [(.ref b7)])) _
    refine XS.dup X10.here hx rfl (hb hby at_30) rfl rfl ?_
    show Steps p.tables e below (T10.setTop (mkF m 31 #[.val (.int p1), .val (.int p2), .val (.long q3), .second, .val (.long q4), .second, .val (.long q5), .second, .val (.long q6), .second, .val (.int (p1 &&& (3 : Int32))), .val (.int (p2 &&& (255 : Int32))), .unset, .unset, .unset, .unset, .unset, .unset, .unset] [(.ref b7), (.ref b7)])) _
    refine XS.iconst X10.here hx rfl (hb hby at_31) ?_
    show Steps p.tables e below (T10.setTop (mkF m 32 #[.val (.int p1), .val (.int p2), .val (.long q3), .second, .val (.long q4), .second, .val (.long q5), .second, .val (.long q6), .second, .val (.int (p1 &&& (3 : Int32))), .val (.int (p2 &&& (255 : Int32))), .unset, .unset, .unset, .unset, .unset, .unset, .unset] [(.int (3 : Int32)), (.ref b7), (.ref b7)])) _
    refine XS.lload X10.here hx rfl (hb hby at_32) rfl ?_
    show Steps p.tables e below (T10.setTop (mkF m 34 #[.val (.int p1), .val (.int p2), .val (.long q3), .second, .val (.long q4), .second, .val (.long q5), .second, .val (.long q6), .second, .val (.int (p1 &&& (3 : Int32))), .val (.int (p2 &&& (255 : Int32))), .unset, .unset, .unset, .unset, .unset, .unset, .unset] [(.long q6), (.int (3 : Int32)), (.ref b7), (.ref b7)])) _
    refine st11 _ ?_
    show Steps p.tables e below (T11.setTop (mkF m 35 #[.val (.int p1), .val (.int p2), .val (.long q3), .second, .val (.long q4), .second, .val (.long q5), .second, .val (.long q6), .second, .val (.int (p1 &&& (3 : Int32))), .val (.int (p2 &&& (255 : Int32))), .unset, .unset, .unset, .unset, .unset, .unset, .unset] [(.ref b7)])) _
    refine XS.dup X11.here hx rfl (hb hby at_35) rfl rfl ?_
    show Steps p.tables e below (T11.setTop (mkF m 36 #[.val (.int p1), .val (.int p2), .val (.long q3), .second, .val (.long q4), .second, .val (.long q5), .second, .val (.long q6), .second, .val (.int (p1 &&& (3 : Int32))), .val (.int (p2 &&& (255 : Int32))), .unset, .unset, .unset, .unset, .unset, .unset, .unset] [(.ref b7), (.ref b7)])) _
    refine XS.iconst X11.here hx rfl (hb hby at_36) ?_
    show Steps p.tables e below (T11.setTop (mkF m 37 #[.val (.int p1), .val (.int p2), .val (.long q3), .second, .val (.long q4), .second, .val (.long q5), .second, .val (.long q6), .second, .val (.int (p1 &&& (3 : Int32))), .val (.int (p2 &&& (255 : Int32))), .unset, .unset, .unset, .unset, .unset, .unset, .unset] [(.int (4 : Int32)), (.ref b7), (.ref b7)])) _
    refine XS.lloadN X11.here hx rfl (hb hby at_37) rfl ?_
    show Steps p.tables e below (T11.setTop (mkF m 38 #[.val (.int p1), .val (.int p2), .val (.long q3), .second, .val (.long q4), .second, .val (.long q5), .second, .val (.long q6), .second, .val (.int (p1 &&& (3 : Int32))), .val (.int (p2 &&& (255 : Int32))), .unset, .unset, .unset, .unset, .unset, .unset, .unset] [(.long q3), (.int (4 : Int32)), (.ref b7), (.ref b7)])) _
    refine XS.lload X11.here hx rfl (hb hby at_38) rfl ?_
    show Steps p.tables e below (T11.setTop (mkF m 40 #[.val (.int p1), .val (.int p2), .val (.long q3), .second, .val (.long q4), .second, .val (.long q5), .second, .val (.long q6), .second, .val (.int (p1 &&& (3 : Int32))), .val (.int (p2 &&& (255 : Int32))), .unset, .unset, .unset, .unset, .unset, .unset, .unset] [(.long q5), (.long q3), (.int (4 : Int32)), (.ref b7), (.ref b7)])) _
    refine XS.lxor X11.here hx rfl (hb hby at_40) rfl ?_
    show Steps p.tables e below (T11.setTop (mkF m 41 #[.val (.int p1), .val (.int p2), .val (.long q3), .second, .val (.long q4), .second, .val (.long q5), .second, .val (.long q6), .second, .val (.int (p1 &&& (3 : Int32))), .val (.int (p2 &&& (255 : Int32))), .unset, .unset, .unset, .unset, .unset, .unset, .unset] [(.long (q3 ^^^ q5)), (.int (4 : Int32)), (.ref b7), (.ref b7)])) _
    refine st12 _ ?_
    show Steps p.tables e below (T12.setTop (mkF m 42 #[.val (.int p1), .val (.int p2), .val (.long q3), .second, .val (.long q4), .second, .val (.long q5), .second, .val (.long q6), .second, .val (.int (p1 &&& (3 : Int32))), .val (.int (p2 &&& (255 : Int32))), .unset, .unset, .unset, .unset, .unset, .unset, .unset] [(.ref b7)])) _
    refine XS.dup X12.here hx rfl (hb hby at_42) rfl rfl ?_
    show Steps p.tables e below (T12.setTop (mkF m 43 #[.val (.int p1), .val (.int p2), .val (.long q3), .second, .val (.long q4), .second, .val (.long q5), .second, .val (.long q6), .second, .val (.int (p1 &&& (3 : Int32))), .val (.int (p2 &&& (255 : Int32))), .unset, .unset, .unset, .unset, .unset, .unset, .unset] [(.ref b7), (.ref b7)])) _
    refine XS.iconst X12.here hx rfl (hb hby at_43) ?_
    show Steps p.tables e below (T12.setTop (mkF m 44 #[.val (.int p1), .val (.int p2), .val (.long q3), .second, .val (.long q4), .second, .val (.long q5), .second, .val (.long q6), .second, .val (.int (p1 &&& (3 : Int32))), .val (.int (p2 &&& (255 : Int32))), .unset, .unset, .unset, .unset, .unset, .unset, .unset] [(.int (5 : Int32)), (.ref b7), (.ref b7)])) _
    refine XS.lload X12.here hx rfl (hb hby at_44) rfl ?_
    show Steps p.tables e below (T12.setTop (mkF m 46 #[.val (.int p1), .val (.int p2), .val (.long q3), .second, .val (.long q4), .second, .val (.long q5), .second, .val (.long q6), .second, .val (.int (p1 &&& (3 : Int32))), .val (.int (p2 &&& (255 : Int32))), .unset, .unset, .unset, .unset, .unset, .unset, .unset] [(.long q4), (.int (5 : Int32)), (.ref b7), (.ref b7)])) _
    refine XS.lload X12.here hx rfl (hb hby at_46) rfl ?_
    show Steps p.tables e below (T12.setTop (mkF m 48 #[.val (.int p1), .val (.int p2), .val (.long q3), .second, .val (.long q4), .second, .val (.long q5), .second, .val (.long q6), .second, .val (.int (p1 &&& (3 : Int32))), .val (.int (p2 &&& (255 : Int32))), .unset, .unset, .unset, .unset, .unset, .unset, .unset] [(.long q6), (.long q4), (.int (5 : Int32)), (.ref b7), (.ref b7)])) _
    refine XS.lxor X12.here hx rfl (hb hby at_48) rfl ?_
    show Steps p.tables e below (T12.setTop (mkF m 49 #[.val (.int p1), .val (.int p2), .val (.long q3), .second, .val (.long q4), .second, .val (.long q5), .second, .val (.long q6), .second, .val (.int (p1 &&& (3 : Int32))), .val (.int (p2 &&& (255 : Int32))), .unset, .unset, .unset, .unset, .unset, .unset, .unset] [(.long (q4 ^^^ q6)), (.int (5 : Int32)), (.ref b7), (.ref b7)])) _
    refine st13 _ ?_
    show Steps p.tables e below (T13.setTop (mkF m 50 #[.val (.int p1), .val (.int p2), .val (.long q3), .second, .val (.long q4), .second, .val (.long q5), .second, .val (.long q6), .second, .val (.int (p1 &&& (3 : Int32))), .val (.int (p2 &&& (255 : Int32))), .unset, .unset, .unset, .unset, .unset, .unset, .unset] [(.ref b7)])) _
    refine XS.dup X13.here hx rfl (hb hby at_50) rfl rfl ?_
    show Steps p.tables e below (T13.setTop (mkF m 51 #[.val (.int p1), .val (.int p2), .val (.long q3), .second, .val (.long q4), .second, .val (.long q5), .second, .val (.long q6), .second, .val (.int (p1 &&& (3 : Int32))), .val (.int (p2 &&& (255 : Int32))), .unset, .unset, .unset, .unset, .unset, .unset, .unset] [(.ref b7), (.ref b7)])) _
    refine XS.bipush X13.here hx rfl (hb hby at_51) ?_
    show Steps p.tables e below (T13.setTop (mkF m 53 #[.val (.int p1), .val (.int p2), .val (.long q3), .second, .val (.long q4), .second, .val (.long q5), .second, .val (.long q6), .second, .val (.int (p1 &&& (3 : Int32))), .val (.int (p2 &&& (255 : Int32))), .unset, .unset, .unset, .unset, .unset, .unset, .unset] [(.int (6 : Int32)), (.ref b7), (.ref b7)])) _
    refine XS.lloadN X13.here hx rfl (hb hby at_53) rfl ?_
    show Steps p.tables e below (T13.setTop (mkF m 54 #[.val (.int p1), .val (.int p2), .val (.long q3), .second, .val (.long q4), .second, .val (.long q5), .second, .val (.long q6), .second, .val (.int (p1 &&& (3 : Int32))), .val (.int (p2 &&& (255 : Int32))), .unset, .unset, .unset, .unset, .unset, .unset, .unset] [(.long q3), (.int (6 : Int32)), (.ref b7), (.ref b7)])) _
    refine X13.ldc2Long hx hown (mvT hZ (hw _ (List.mem_of_getElem? (i := 1) rfl))) (g := (mkF m 54 #[.val (.int p1), .val (.int p2), .val (.long q3), .second, .val (.long q4), .second, .val (.long q5), .second, .val (.long q6), .second, .val (.int (p1 &&& (3 : Int32))), .val (.int (p2 &&& (255 : Int32))), .unset, .unset, .unset, .unset, .unset, .unset, .unset] [(.long q3), (.int (6 : Int32)), (.ref b7), (.ref b7)])) rfl (hb hby at_54) _ ?_
    show Steps p.tables e below (T13.setTop (mkF m 57 #[.val (.int p1), .val (.int p2), .val (.long q3), .second, .val (.long q4), .second, .val (.long q5), .second, .val (.long q6), .second, .val (.int (p1 &&& (3 : Int32))), .val (.int (p2 &&& (255 : Int32))), .unset, .unset, .unset, .unset, .unset, .unset, .unset] [(.long (-1 : Int64)), (.long q3), (.int (6 : Int32)), (.ref b7), (.ref b7)])) _
    refine XS.lxor X13.here hx rfl (hb hby at_57) rfl ?_
    show Steps p.tables e below (T13.setTop (mkF m 58 #[.val (.int p1), .val (.int p2), .val (.long q3), .second, .val (.long q4), .second, .val (.long q5), .second, .val (.long q6), .second, .val (.int (p1 &&& (3 : Int32))), .val (.int (p2 &&& (255 : Int32))), .unset, .unset, .unset, .unset, .unset, .unset, .unset] [(.long (q3 ^^^ (-1 : Int64))), (.int (6 : Int32)), (.ref b7), (.ref b7)])) _
    refine st14 _ ?_
    show Steps p.tables e below (T14.setTop (mkF m 59 #[.val (.int p1), .val (.int p2), .val (.long q3), .second, .val (.long q4), .second, .val (.long q5), .second, .val (.long q6), .second, .val (.int (p1 &&& (3 : Int32))), .val (.int (p2 &&& (255 : Int32))), .unset, .unset, .unset, .unset, .unset, .unset, .unset] [(.ref b7)])) _
    refine XS.astore X14.here hx rfl (hb hby at_59) rfl rfl (l' := #[.val (.int p1), .val (.int p2), .val (.long q3), .second, .val (.long q4), .second, .val (.long q5), .second, .val (.long q6), .second, .val (.int (p1 &&& (3 : Int32))), .val (.int (p2 &&& (255 : Int32))), .val (.ref b7), .unset, .unset, .unset, .unset, .unset, .unset]) rfl ?_
    show Steps p.tables e below (T14.setTop (mkF m 61 #[.val (.int p1), .val (.int p2), .val (.long q3), .second, .val (.long q4), .second, .val (.long q5), .second, .val (.long q6), .second, .val (.int (p1 &&& (3 : Int32))), .val (.int (p2 &&& (255 : Int32))), .val (.ref b7), .unset, .unset, .unset, .unset, .unset, .unset] [])) _
    refine XS.bipush X14.here hx rfl (hb hby at_61) ?_
    show Steps p.tables e below (T14.setTop (mkF m 63 #[.val (.int p1), .val (.int p2), .val (.long q3), .second, .val (.long q4), .second, .val (.long q5), .second, .val (.long q6), .second, .val (.int (p1 &&& (3 : Int32))), .val (.int (p2 &&& (255 : Int32))), .val (.ref b7), .unset, .unset, .unset, .unset, .unset, .unset] [(.int (7 : Int32))])) _
    refine st15 _ ?_
    show Steps p.tables e below (T15.setTop (mkF m 65 #[.val (.int p1), .val (.int p2), .val (.long q3), .second, .val (.long q4), .second, .val (.long q5), .second, .val (.long q6), .second, .val (.int (p1 &&& (3 : Int32))), .val (.int (p2 &&& (255 : Int32))), .val (.ref b7), .unset, .unset, .unset, .unset, .unset, .unset] [(.ref b15)])) _
    refine XS.dup X15.here hx rfl (hb hby at_65) rfl rfl ?_
    show Steps p.tables e below (T15.setTop (mkF m 66 #[.val (.int p1), .val (.int p2), .val (.long q3), .second, .val (.long q4), .second, .val (.long q5), .second, .val (.long q6), .second, .val (.int (p1 &&& (3 : Int32))), .val (.int (p2 &&& (255 : Int32))), .val (.ref b7), .unset, .unset, .unset, .unset, .unset, .unset] [(.ref b15), (.ref b15)])) _
    refine XS.iconst X15.here hx rfl (hb hby at_66) ?_
    show Steps p.tables e below (T15.setTop (mkF m 67 #[.val (.int p1), .val (.int p2), .val (.long q3), .second, .val (.long q4), .second, .val (.long q5), .second, .val (.long q6), .second, .val (.int (p1 &&& (3 : Int32))), .val (.int (p2 &&& (255 : Int32))), .val (.ref b7), .unset, .unset, .unset, .unset, .unset, .unset] [(.int (0 : Int32)), (.ref b15), (.ref b15)])) _
    refine XS.lloadN X15.here hx rfl (hb hby at_67) rfl ?_
    show Steps p.tables e below (T15.setTop (mkF m 68 #[.val (.int p1), .val (.int p2), .val (.long q3), .second, .val (.long q4), .second, .val (.long q5), .second, .val (.long q6), .second, .val (.int (p1 &&& (3 : Int32))), .val (.int (p2 &&& (255 : Int32))), .val (.ref b7), .unset, .unset, .unset, .unset, .unset, .unset] [(.long q3), (.int (0 : Int32)), (.ref b15), (.ref b15)])) _
    refine st16 _ ?_
    show Steps p.tables e below (T16.setTop (mkF m 69 #[.val (.int p1), .val (.int p2), .val (.long q3), .second, .val (.long q4), .second, .val (.long q5), .second, .val (.long q6), .second, .val (.int (p1 &&& (3 : Int32))), .val (.int (p2 &&& (255 : Int32))), .val (.ref b7), .unset, .unset, .unset, .unset, .unset, .unset] [(.ref b15)])) _
    refine XS.dup X16.here hx rfl (hb hby at_69) rfl rfl ?_
    show Steps p.tables e below (T16.setTop (mkF m 70 #[.val (.int p1), .val (.int p2), .val (.long q3), .second, .val (.long q4), .second, .val (.long q5), .second, .val (.long q6), .second, .val (.int (p1 &&& (3 : Int32))), .val (.int (p2 &&& (255 : Int32))), .val (.ref b7), .unset, .unset, .unset, .unset, .unset, .unset] [(.ref b15), (.ref b15)])) _
    refine XS.iconst X16.here hx rfl (hb hby at_70) ?_
    show Steps p.tables e below (T16.setTop (mkF m 71 #[.val (.int p1), .val (.int p2), .val (.long q3), .second, .val (.long q4), .second, .val (.long q5), .second, .val (.long q6), .second, .val (.int (p1 &&& (3 : Int32))), .val (.int (p2 &&& (255 : Int32))), .val (.ref b7), .unset, .unset, .unset, .unset, .unset, .unset] [(.int (1 : Int32)), (.ref b15), (.ref b15)])) _
    refine XS.lload X16.here hx rfl (hb hby at_71) rfl ?_
    show Steps p.tables e below (T16.setTop (mkF m 73 #[.val (.int p1), .val (.int p2), .val (.long q3), .second, .val (.long q4), .second, .val (.long q5), .second, .val (.long q6), .second, .val (.int (p1 &&& (3 : Int32))), .val (.int (p2 &&& (255 : Int32))), .val (.ref b7), .unset, .unset, .unset, .unset, .unset, .unset] [(.long q4), (.int (1 : Int32)), (.ref b15), (.ref b15)])) _
    refine st17 _ ?_
    show Steps p.tables e below (T17.setTop (mkF m 74 #[.val (.int p1), .val (.int p2), .val (.long q3), .second, .val (.long q4), .second, .val (.long q5), .second, .val (.long q6), .second, .val (.int (p1 &&& (3 : Int32))), .val (.int (p2 &&& (255 : Int32))), .val (.ref b7), .unset, .unset, .unset, .unset, .unset, .unset] [(.ref b15)])) _
    refine XS.dup X17.here hx rfl (hb hby at_74) rfl rfl ?_
    show Steps p.tables e below (T17.setTop (mkF m 75 #[.val (.int p1), .val (.int p2), .val (.long q3), .second, .val (.long q4), .second, .val (.long q5), .second, .val (.long q6), .second, .val (.int (p1 &&& (3 : Int32))), .val (.int (p2 &&& (255 : Int32))), .val (.ref b7), .unset, .unset, .unset, .unset, .unset, .unset] [(.ref b15), (.ref b15)])) _
    refine XS.iconst X17.here hx rfl (hb hby at_75) ?_
    show Steps p.tables e below (T17.setTop (mkF m 76 #[.val (.int p1), .val (.int p2), .val (.long q3), .second, .val (.long q4), .second, .val (.long q5), .second, .val (.long q6), .second, .val (.int (p1 &&& (3 : Int32))), .val (.int (p2 &&& (255 : Int32))), .val (.ref b7), .unset, .unset, .unset, .unset, .unset, .unset] [(.int (2 : Int32)), (.ref b15), (.ref b15)])) _
    refine XS.lload X17.here hx rfl (hb hby at_76) rfl ?_
    show Steps p.tables e below (T17.setTop (mkF m 78 #[.val (.int p1), .val (.int p2), .val (.long q3), .second, .val (.long q4), .second, .val (.long q5), .second, .val (.long q6), .second, .val (.int (p1 &&& (3 : Int32))), .val (.int (p2 &&& (255 : Int32))), .val (.ref b7), .unset, .unset, .unset, .unset, .unset, .unset] [(.long q5), (.int (2 : Int32)), (.ref b15), (.ref b15)])) _
    refine st18 _ ?_
    show Steps p.tables e below (T18.setTop (mkF m 79 #[.val (.int p1), .val (.int p2), .val (.long q3), .second, .val (.long q4), .second, .val (.long q5), .second, .val (.long q6), .second, .val (.int (p1 &&& (3 : Int32))), .val (.int (p2 &&& (255 : Int32))), .val (.ref b7), .unset, .unset, .unset, .unset, .unset, .unset] [(.ref b15)])) _
    refine XS.dup X18.here hx rfl (hb hby at_79) rfl rfl ?_
    show Steps p.tables e below (T18.setTop (mkF m 80 #[.val (.int p1), .val (.int p2), .val (.long q3), .second, .val (.long q4), .second, .val (.long q5), .second, .val (.long q6), .second, .val (.int (p1 &&& (3 : Int32))), .val (.int (p2 &&& (255 : Int32))), .val (.ref b7), .unset, .unset, .unset, .unset, .unset, .unset] [(.ref b15), (.ref b15)])) _
    refine XS.iconst X18.here hx rfl (hb hby at_80) ?_
    show Steps p.tables e below (T18.setTop (mkF m 81 #[.val (.int p1), .val (.int p2), .val (.long q3), .second, .val (.long q4), .second, .val (.long q5), .second, .val (.long q6), .second, .val (.int (p1 &&& (3 : Int32))), .val (.int (p2 &&& (255 : Int32))), .val (.ref b7), .unset, .unset, .unset, .unset, .unset, .unset] [(.int (3 : Int32)), (.ref b15), (.ref b15)])) _
    refine XS.lload X18.here hx rfl (hb hby at_81) rfl ?_
    show Steps p.tables e below (T18.setTop (mkF m 83 #[.val (.int p1), .val (.int p2), .val (.long q3), .second, .val (.long q4), .second, .val (.long q5), .second, .val (.long q6), .second, .val (.int (p1 &&& (3 : Int32))), .val (.int (p2 &&& (255 : Int32))), .val (.ref b7), .unset, .unset, .unset, .unset, .unset, .unset] [(.long q6), (.int (3 : Int32)), (.ref b15), (.ref b15)])) _
    refine st19 _ ?_
    show Steps p.tables e below (T19.setTop (mkF m 84 #[.val (.int p1), .val (.int p2), .val (.long q3), .second, .val (.long q4), .second, .val (.long q5), .second, .val (.long q6), .second, .val (.int (p1 &&& (3 : Int32))), .val (.int (p2 &&& (255 : Int32))), .val (.ref b7), .unset, .unset, .unset, .unset, .unset, .unset] [(.ref b15)])) _
    refine XS.dup X19.here hx rfl (hb hby at_84) rfl rfl ?_
    show Steps p.tables e below (T19.setTop (mkF m 85 #[.val (.int p1), .val (.int p2), .val (.long q3), .second, .val (.long q4), .second, .val (.long q5), .second, .val (.long q6), .second, .val (.int (p1 &&& (3 : Int32))), .val (.int (p2 &&& (255 : Int32))), .val (.ref b7), .unset, .unset, .unset, .unset, .unset, .unset] [(.ref b15), (.ref b15)])) _
    refine XS.iconst X19.here hx rfl (hb hby at_85) ?_
    show Steps p.tables e below (T19.setTop (mkF m 86 #[.val (.int p1), .val (.int p2), .val (.long q3), .second, .val (.long q4), .second, .val (.long q5), .second, .val (.long q6), .second, .val (.int (p1 &&& (3 : Int32))), .val (.int (p2 &&& (255 : Int32))), .val (.ref b7), .unset, .unset, .unset, .unset, .unset, .unset] [(.int (4 : Int32)), (.ref b15), (.ref b15)])) _
    refine XS.lloadN X19.here hx rfl (hb hby at_86) rfl ?_
    show Steps p.tables e below (T19.setTop (mkF m 87 #[.val (.int p1), .val (.int p2), .val (.long q3), .second, .val (.long q4), .second, .val (.long q5), .second, .val (.long q6), .second, .val (.int (p1 &&& (3 : Int32))), .val (.int (p2 &&& (255 : Int32))), .val (.ref b7), .unset, .unset, .unset, .unset, .unset, .unset] [(.long q3), (.int (4 : Int32)), (.ref b15), (.ref b15)])) _
    refine XS.lload X19.here hx rfl (hb hby at_87) rfl ?_
    show Steps p.tables e below (T19.setTop (mkF m 89 #[.val (.int p1), .val (.int p2), .val (.long q3), .second, .val (.long q4), .second, .val (.long q5), .second, .val (.long q6), .second, .val (.int (p1 &&& (3 : Int32))), .val (.int (p2 &&& (255 : Int32))), .val (.ref b7), .unset, .unset, .unset, .unset, .unset, .unset] [(.long q5), (.long q3), (.int (4 : Int32)), (.ref b15), (.ref b15)])) _
    refine XS.lxor X19.here hx rfl (hb hby at_89) rfl ?_
    show Steps p.tables e below (T19.setTop (mkF m 90 #[.val (.int p1), .val (.int p2), .val (.long q3), .second, .val (.long q4), .second, .val (.long q5), .second, .val (.long q6), .second, .val (.int (p1 &&& (3 : Int32))), .val (.int (p2 &&& (255 : Int32))), .val (.ref b7), .unset, .unset, .unset, .unset, .unset, .unset] [(.long (q3 ^^^ q5)), (.int (4 : Int32)), (.ref b15), (.ref b15)])) _
    refine st20 _ ?_
    show Steps p.tables e below (T20.setTop (mkF m 91 #[.val (.int p1), .val (.int p2), .val (.long q3), .second, .val (.long q4), .second, .val (.long q5), .second, .val (.long q6), .second, .val (.int (p1 &&& (3 : Int32))), .val (.int (p2 &&& (255 : Int32))), .val (.ref b7), .unset, .unset, .unset, .unset, .unset, .unset] [(.ref b15)])) _
    refine XS.dup X20.here hx rfl (hb hby at_91) rfl rfl ?_
    show Steps p.tables e below (T20.setTop (mkF m 92 #[.val (.int p1), .val (.int p2), .val (.long q3), .second, .val (.long q4), .second, .val (.long q5), .second, .val (.long q6), .second, .val (.int (p1 &&& (3 : Int32))), .val (.int (p2 &&& (255 : Int32))), .val (.ref b7), .unset, .unset, .unset, .unset, .unset, .unset] [(.ref b15), (.ref b15)])) _
    refine XS.iconst X20.here hx rfl (hb hby at_92) ?_
    show Steps p.tables e below (T20.setTop (mkF m 93 #[.val (.int p1), .val (.int p2), .val (.long q3), .second, .val (.long q4), .second, .val (.long q5), .second, .val (.long q6), .second, .val (.int (p1 &&& (3 : Int32))), .val (.int (p2 &&& (255 : Int32))), .val (.ref b7), .unset, .unset, .unset, .unset, .unset, .unset] [(.int (5 : Int32)), (.ref b15), (.ref b15)])) _
    refine XS.lload X20.here hx rfl (hb hby at_93) rfl ?_
    show Steps p.tables e below (T20.setTop (mkF m 95 #[.val (.int p1), .val (.int p2), .val (.long q3), .second, .val (.long q4), .second, .val (.long q5), .second, .val (.long q6), .second, .val (.int (p1 &&& (3 : Int32))), .val (.int (p2 &&& (255 : Int32))), .val (.ref b7), .unset, .unset, .unset, .unset, .unset, .unset] [(.long q4), (.int (5 : Int32)), (.ref b15), (.ref b15)])) _
    refine XS.lload X20.here hx rfl (hb hby at_95) rfl ?_
    show Steps p.tables e below (T20.setTop (mkF m 97 #[.val (.int p1), .val (.int p2), .val (.long q3), .second, .val (.long q4), .second, .val (.long q5), .second, .val (.long q6), .second, .val (.int (p1 &&& (3 : Int32))), .val (.int (p2 &&& (255 : Int32))), .val (.ref b7), .unset, .unset, .unset, .unset, .unset, .unset] [(.long q6), (.long q4), (.int (5 : Int32)), (.ref b15), (.ref b15)])) _
    refine XS.lxor X20.here hx rfl (hb hby at_97) rfl ?_
    show Steps p.tables e below (T20.setTop (mkF m 98 #[.val (.int p1), .val (.int p2), .val (.long q3), .second, .val (.long q4), .second, .val (.long q5), .second, .val (.long q6), .second, .val (.int (p1 &&& (3 : Int32))), .val (.int (p2 &&& (255 : Int32))), .val (.ref b7), .unset, .unset, .unset, .unset, .unset, .unset] [(.long (q4 ^^^ q6)), (.int (5 : Int32)), (.ref b15), (.ref b15)])) _
    refine st21 _ ?_
    show Steps p.tables e below (T21.setTop (mkF m 99 #[.val (.int p1), .val (.int p2), .val (.long q3), .second, .val (.long q4), .second, .val (.long q5), .second, .val (.long q6), .second, .val (.int (p1 &&& (3 : Int32))), .val (.int (p2 &&& (255 : Int32))), .val (.ref b7), .unset, .unset, .unset, .unset, .unset, .unset] [(.ref b15)])) _
    refine XS.dup X21.here hx rfl (hb hby at_99) rfl rfl ?_
    show Steps p.tables e below (T21.setTop (mkF m 100 #[.val (.int p1), .val (.int p2), .val (.long q3), .second, .val (.long q4), .second, .val (.long q5), .second, .val (.long q6), .second, .val (.int (p1 &&& (3 : Int32))), .val (.int (p2 &&& (255 : Int32))), .val (.ref b7), .unset, .unset, .unset, .unset, .unset, .unset] [(.ref b15), (.ref b15)])) _
    refine XS.bipush X21.here hx rfl (hb hby at_100) ?_
    show Steps p.tables e below (T21.setTop (mkF m 102 #[.val (.int p1), .val (.int p2), .val (.long q3), .second, .val (.long q4), .second, .val (.long q5), .second, .val (.long q6), .second, .val (.int (p1 &&& (3 : Int32))), .val (.int (p2 &&& (255 : Int32))), .val (.ref b7), .unset, .unset, .unset, .unset, .unset, .unset] [(.int (6 : Int32)), (.ref b15), (.ref b15)])) _
    refine XS.lloadN X21.here hx rfl (hb hby at_102) rfl ?_
    show Steps p.tables e below (T21.setTop (mkF m 103 #[.val (.int p1), .val (.int p2), .val (.long q3), .second, .val (.long q4), .second, .val (.long q5), .second, .val (.long q6), .second, .val (.int (p1 &&& (3 : Int32))), .val (.int (p2 &&& (255 : Int32))), .val (.ref b7), .unset, .unset, .unset, .unset, .unset, .unset] [(.long q3), (.int (6 : Int32)), (.ref b15), (.ref b15)])) _
    refine X21.ldc2Long hx hown (mvT hZ (hw _ (List.mem_of_getElem? (i := 1) rfl))) (g := (mkF m 103 #[.val (.int p1), .val (.int p2), .val (.long q3), .second, .val (.long q4), .second, .val (.long q5), .second, .val (.long q6), .second, .val (.int (p1 &&& (3 : Int32))), .val (.int (p2 &&& (255 : Int32))), .val (.ref b7), .unset, .unset, .unset, .unset, .unset, .unset] [(.long q3), (.int (6 : Int32)), (.ref b15), (.ref b15)])) rfl (hb hby at_103) _ ?_
    show Steps p.tables e below (T21.setTop (mkF m 106 #[.val (.int p1), .val (.int p2), .val (.long q3), .second, .val (.long q4), .second, .val (.long q5), .second, .val (.long q6), .second, .val (.int (p1 &&& (3 : Int32))), .val (.int (p2 &&& (255 : Int32))), .val (.ref b7), .unset, .unset, .unset, .unset, .unset, .unset] [(.long (-1 : Int64)), (.long q3), (.int (6 : Int32)), (.ref b15), (.ref b15)])) _
    refine XS.lxor X21.here hx rfl (hb hby at_106) rfl ?_
    show Steps p.tables e below (T21.setTop (mkF m 107 #[.val (.int p1), .val (.int p2), .val (.long q3), .second, .val (.long q4), .second, .val (.long q5), .second, .val (.long q6), .second, .val (.int (p1 &&& (3 : Int32))), .val (.int (p2 &&& (255 : Int32))), .val (.ref b7), .unset, .unset, .unset, .unset, .unset, .unset] [(.long (q3 ^^^ (-1 : Int64))), (.int (6 : Int32)), (.ref b15), (.ref b15)])) _
    refine st22 _ ?_
    show Steps p.tables e below (T22.setTop (mkF m 108 #[.val (.int p1), .val (.int p2), .val (.long q3), .second, .val (.long q4), .second, .val (.long q5), .second, .val (.long q6), .second, .val (.int (p1 &&& (3 : Int32))), .val (.int (p2 &&& (255 : Int32))), .val (.ref b7), .unset, .unset, .unset, .unset, .unset, .unset] [(.ref b15)])) _
    refine XS.astore X22.here hx rfl (hb hby at_108) rfl rfl (l' := #[.val (.int p1), .val (.int p2), .val (.long q3), .second, .val (.long q4), .second, .val (.long q5), .second, .val (.long q6), .second, .val (.int (p1 &&& (3 : Int32))), .val (.int (p2 &&& (255 : Int32))), .val (.ref b7), .val (.ref b15), .unset, .unset, .unset, .unset, .unset]) rfl ?_
    show Steps p.tables e below (T22.setTop (mkF m 110 #[.val (.int p1), .val (.int p2), .val (.long q3), .second, .val (.long q4), .second, .val (.long q5), .second, .val (.long q6), .second, .val (.int (p1 &&& (3 : Int32))), .val (.int (p2 &&& (255 : Int32))), .val (.ref b7), .val (.ref b15), .unset, .unset, .unset, .unset, .unset] [])) _
    refine XS.aload X22.here hx rfl (hb hby at_110) rfl rfl ?_
    show Steps p.tables e below (T22.setTop (mkF m 112 #[.val (.int p1), .val (.int p2), .val (.long q3), .second, .val (.long q4), .second, .val (.long q5), .second, .val (.long q6), .second, .val (.int (p1 &&& (3 : Int32))), .val (.int (p2 &&& (255 : Int32))), .val (.ref b7), .val (.ref b15), .unset, .unset, .unset, .unset, .unset] [(.ref b15)])) _
    refine XS.iload X22.here hx rfl (hb hby at_112) rfl ?_
    show Steps p.tables e below (T22.setTop (mkF m 114 #[.val (.int p1), .val (.int p2), .val (.long q3), .second, .val (.long q4), .second, .val (.long q5), .second, .val (.long q6), .second, .val (.int (p1 &&& (3 : Int32))), .val (.int (p2 &&& (255 : Int32))), .val (.ref b7), .val (.ref b15), .unset, .unset, .unset, .unset, .unset] [(.int (p1 &&& (3 : Int32))), (.ref b15)])) _
    refine XS.iload X22.here hx rfl (hb hby at_114) rfl ?_
    show Steps p.tables e below (T22.setTop (mkF m 116 #[.val (.int p1), .val (.int p2), .val (.long q3), .second, .val (.long q4), .second, .val (.long q5), .second, .val (.long q6), .second, .val (.int (p1 &&& (3 : Int32))), .val (.int (p2 &&& (255 : Int32))), .val (.ref b7), .val (.ref b15), .unset, .unset, .unset, .unset, .unset] [(.int (p2 &&& (255 : Int32))), (.int (p1 &&& (3 : Int32))), (.ref b15)])) _
    refine st23 _ ?_
    show Steps p.tables e below (T23.setTop (mkF m 119 #[.val (.int p1), .val (.int p2), .val (.long q3), .second, .val (.long q4), .second, .val (.long q5), .second, .val (.long q6), .second, .val (.int (p1 &&& (3 : Int32))), .val (.int (p2 &&& (255 : Int32))), .val (.ref b7), .val (.ref b15), .unset, .unset, .unset, .unset, .unset] [])) _
    refine tn0_119_190 _ _ _ _ _ _ _ _ _ _ _ _ _ _ _ _ _ X23 hx hZ hw hby hml hown rfl (own_n p2) _ ?_
    show Steps p.tables e below (T23.setTop (mkF m 190 #[.val (.int p1), .val (.int p2), .val (.long q3), .second, .val (.long q4), .second, .val (.long q5), .second, .val (.long q6), .second, .val (.int (p1 &&& (3 : Int32))), .val (.int (p2 &&& (255 : Int32))), .val (.ref b7), .val (.ref b15), .val (.int ((p2 &&& (255 : Int32)) / (64 : Int32))), .val (.int ((p2 &&& (255 : Int32)) % (64 : Int32))), .unset, .unset, .unset] [])) _
    refine XS.iload X23.here hx rfl (hb hby at_190) rfl ?_
    show Steps p.tables e below (T23.setTop (mkF m 192 #[.val (.int p1), .val (.int p2), .val (.long q3), .second, .val (.long q4), .second, .val (.long q5), .second, .val (.long q6), .second, .val (.int (p1 &&& (3 : Int32))), .val (.int (p2 &&& (255 : Int32))), .val (.ref b7), .val (.ref b15), .val (.int ((p2 &&& (255 : Int32)) / (64 : Int32))), .val (.int ((p2 &&& (255 : Int32)) % (64 : Int32))), .unset, .unset, .unset] [(.int (p1 &&& (3 : Int32)))])) _
    refine XS.iload X23.here hx rfl (hb hby at_192) rfl ?_
    show Steps p.tables e below (T23.setTop (mkF m 194 #[.val (.int p1), .val (.int p2), .val (.long q3), .second, .val (.long q4), .second, .val (.long q5), .second, .val (.long q6), .second, .val (.int (p1 &&& (3 : Int32))), .val (.int (p2 &&& (255 : Int32))), .val (.ref b7), .val (.ref b15), .val (.int ((p2 &&& (255 : Int32)) / (64 : Int32))), .val (.int ((p2 &&& (255 : Int32)) % (64 : Int32))), .unset, .unset, .unset] [(.int ((p2 &&& (255 : Int32)) / (64 : Int32))), (.int (p1 &&& (3 : Int32)))])) _
    refine XS.iadd X23.here hx rfl (hb hby at_194) rfl ?_
    show Steps p.tables e below (T23.setTop (mkF m 195 #[.val (.int p1), .val (.int p2), .val (.long q3), .second, .val (.long q4), .second, .val (.long q5), .second, .val (.long q6), .second, .val (.int (p1 &&& (3 : Int32))), .val (.int (p2 &&& (255 : Int32))), .val (.ref b7), .val (.ref b15), .val (.int ((p2 &&& (255 : Int32)) / (64 : Int32))), .val (.int ((p2 &&& (255 : Int32)) % (64 : Int32))), .unset, .unset, .unset] [(.int ((p1 &&& (3 : Int32)) + ((p2 &&& (255 : Int32)) / (64 : Int32))))])) _
    refine XS.istore X23.here hx rfl (hb hby at_195) rfl (l' := #[.val (.int p1), .val (.int p2), .val (.long q3), .second, .val (.long q4), .second, .val (.long q5), .second, .val (.long q6), .second, .val (.int (p1 &&& (3 : Int32))), .val (.int (p2 &&& (255 : Int32))), .val (.ref b7), .val (.ref b15), .val (.int ((p2 &&& (255 : Int32)) / (64 : Int32))), .val (.int ((p2 &&& (255 : Int32)) % (64 : Int32))), .val (.int ((p1 &&& (3 : Int32)) + ((p2 &&& (255 : Int32)) / (64 : Int32)))), .unset, .unset]) rfl ?_
    show Steps p.tables e below (T23.setTop (mkF m 197 #[.val (.int p1), .val (.int p2), .val (.long q3), .second, .val (.long q4), .second, .val (.long q5), .second, .val (.long q6), .second, .val (.int (p1 &&& (3 : Int32))), .val (.int (p2 &&& (255 : Int32))), .val (.ref b7), .val (.ref b15), .val (.int ((p2 &&& (255 : Int32)) / (64 : Int32))), .val (.int ((p2 &&& (255 : Int32)) % (64 : Int32))), .val (.int ((p1 &&& (3 : Int32)) + ((p2 &&& (255 : Int32)) / (64 : Int32)))), .unset, .unset] [])) _
    show Steps p.tables e below (T23.setTop (mkF m 197 #[.val (.int p1), .val (.int p2), .val (.long q3), .second, .val (.long q4), .second, .val (.long q5), .second, .val (.long q6), .second, .val (.int (p1 &&& (3 : Int32))), .val (.int (p2 &&& (255 : Int32))), .val (.ref b7), .val (.ref b15), .val (.int ((p2 &&& (255 : Int32)) / (64 : Int32))), .val (.int ((p2 &&& (255 : Int32)) % (64 : Int32))), .val (.int (own_j p1 p2)), .unset, .unset] [])) _
    refine XS.lconst X23.here hx rfl (hb hby at_197) ?_
    show Steps p.tables e below (T23.setTop (mkF m 198 #[.val (.int p1), .val (.int p2), .val (.long q3), .second, .val (.long q4), .second, .val (.long q5), .second, .val (.long q6), .second, .val (.int (p1 &&& (3 : Int32))), .val (.int (p2 &&& (255 : Int32))), .val (.ref b7), .val (.ref b15), .val (.int ((p2 &&& (255 : Int32)) / (64 : Int32))), .val (.int ((p2 &&& (255 : Int32)) % (64 : Int32))), .val (.int (own_j p1 p2)), .unset, .unset] [(.long (1 : Int64))])) _
    refine XS.iload X23.here hx rfl (hb hby at_198) rfl ?_
    show Steps p.tables e below (T23.setTop (mkF m 200 #[.val (.int p1), .val (.int p2), .val (.long q3), .second, .val (.long q4), .second, .val (.long q5), .second, .val (.long q6), .second, .val (.int (p1 &&& (3 : Int32))), .val (.int (p2 &&& (255 : Int32))), .val (.ref b7), .val (.ref b15), .val (.int ((p2 &&& (255 : Int32)) / (64 : Int32))), .val (.int ((p2 &&& (255 : Int32)) % (64 : Int32))), .val (.int (own_j p1 p2)), .unset, .unset] [(.int ((p2 &&& (255 : Int32)) % (64 : Int32))), (.long (1 : Int64))])) _
    refine XS.lshl X23.here hx rfl (hb hby at_200) rfl ?_
    show Steps p.tables e below (T23.setTop (mkF m 201 #[.val (.int p1), .val (.int p2), .val (.long q3), .second, .val (.long q4), .second, .val (.long q5), .second, .val (.long q6), .second, .val (.int (p1 &&& (3 : Int32))), .val (.int (p2 &&& (255 : Int32))), .val (.ref b7), .val (.ref b15), .val (.int ((p2 &&& (255 : Int32)) / (64 : Int32))), .val (.int ((p2 &&& (255 : Int32)) % (64 : Int32))), .val (.int (own_j p1 p2)), .unset, .unset] [(.long ((1 : Int64) <<< (((p2 &&& (255 : Int32)) % (64 : Int32)) &&& 0x3f).toInt64))])) _
    refine XS.lstore X23.here hx rfl (hb hby at_201) rfl (l' := #[.val (.int p1), .val (.int p2), .val (.long q3), .second, .val (.long q4), .second, .val (.long q5), .second, .val (.long q6), .second, .val (.int (p1 &&& (3 : Int32))), .val (.int (p2 &&& (255 : Int32))), .val (.ref b7), .val (.ref b15), .val (.int ((p2 &&& (255 : Int32)) / (64 : Int32))), .val (.int ((p2 &&& (255 : Int32)) % (64 : Int32))), .val (.int (own_j p1 p2)), .val (.long ((1 : Int64) <<< (((p2 &&& (255 : Int32)) % (64 : Int32)) &&& 0x3f).toInt64)), .second]) rfl ?_
    show Steps p.tables e below (T23.setTop (mkF m 203 #[.val (.int p1), .val (.int p2), .val (.long q3), .second, .val (.long q4), .second, .val (.long q5), .second, .val (.long q6), .second, .val (.int (p1 &&& (3 : Int32))), .val (.int (p2 &&& (255 : Int32))), .val (.ref b7), .val (.ref b15), .val (.int ((p2 &&& (255 : Int32)) / (64 : Int32))), .val (.int ((p2 &&& (255 : Int32)) % (64 : Int32))), .val (.int (own_j p1 p2)), .val (.long ((1 : Int64) <<< (((p2 &&& (255 : Int32)) % (64 : Int32)) &&& 0x3f).toInt64)), .second] [])) _
    show Steps p.tables e below (T23.setTop (mkF m 203 #[.val (.int p1), .val (.int p2), .val (.long q3), .second, .val (.long q4), .second, .val (.long q5), .second, .val (.long q6), .second, .val (.int (p1 &&& (3 : Int32))), .val (.int (p2 &&& (255 : Int32))), .val (.ref b7), .val (.ref b15), .val (.int ((p2 &&& (255 : Int32)) / (64 : Int32))), .val (.int ((p2 &&& (255 : Int32)) % (64 : Int32))), .val (.int (own_j p1 p2)), .val (.long (own_bit (p2 &&& (255 : Int32)))), .second] [])) _
    refine XS.aload X23.here hx rfl (hb hby at_203) rfl rfl ?_
    show Steps p.tables e below (T23.setTop (mkF m 205 #[.val (.int p1), .val (.int p2), .val (.long q3), .second, .val (.long q4), .second, .val (.long q5), .second, .val (.long q6), .second, .val (.int (p1 &&& (3 : Int32))), .val (.int (p2 &&& (255 : Int32))), .val (.ref b7), .val (.ref b15), .val (.int ((p2 &&& (255 : Int32)) / (64 : Int32))), .val (.int ((p2 &&& (255 : Int32)) % (64 : Int32))), .val (.int (own_j p1 p2)), .val (.long (own_bit (p2 &&& (255 : Int32)))), .second] [(.ref b15)])) _
    refine XS.aload X23.here hx rfl (hb hby at_205) rfl rfl ?_
    show Steps p.tables e below (T23.setTop (mkF m 207 #[.val (.int p1), .val (.int p2), .val (.long q3), .second, .val (.long q4), .second, .val (.long q5), .second, .val (.long q6), .second, .val (.int (p1 &&& (3 : Int32))), .val (.int (p2 &&& (255 : Int32))), .val (.ref b7), .val (.ref b15), .val (.int ((p2 &&& (255 : Int32)) / (64 : Int32))), .val (.int ((p2 &&& (255 : Int32)) % (64 : Int32))), .val (.int (own_j p1 p2)), .val (.long (own_bit (p2 &&& (255 : Int32)))), .second] [(.ref b7), (.ref b15)])) _
    refine XS.iconst X23.here hx rfl (hb hby at_207) ?_
    show Steps p.tables e below (T23.setTop (mkF m 208 #[.val (.int p1), .val (.int p2), .val (.long q3), .second, .val (.long q4), .second, .val (.long q5), .second, .val (.long q6), .second, .val (.int (p1 &&& (3 : Int32))), .val (.int (p2 &&& (255 : Int32))), .val (.ref b7), .val (.ref b15), .val (.int ((p2 &&& (255 : Int32)) / (64 : Int32))), .val (.int ((p2 &&& (255 : Int32)) % (64 : Int32))), .val (.int (own_j p1 p2)), .val (.long (own_bit (p2 &&& (255 : Int32)))), .second] [(.int (0 : Int32)), (.ref b7), (.ref b15)])) _
    refine XS.iload X23.here hx rfl (hb hby at_208) rfl ?_
    show Steps p.tables e below (T23.setTop (mkF m 210 #[.val (.int p1), .val (.int p2), .val (.long q3), .second, .val (.long q4), .second, .val (.long q5), .second, .val (.long q6), .second, .val (.int (p1 &&& (3 : Int32))), .val (.int (p2 &&& (255 : Int32))), .val (.ref b7), .val (.ref b15), .val (.int ((p2 &&& (255 : Int32)) / (64 : Int32))), .val (.int ((p2 &&& (255 : Int32)) % (64 : Int32))), .val (.int (own_j p1 p2)), .val (.long (own_bit (p2 &&& (255 : Int32)))), .second] [(.int (own_j p1 p2)), (.int (0 : Int32)), (.ref b7), (.ref b15)])) _
    refine XS.lload X23.here hx rfl (hb hby at_210) rfl ?_
    show Steps p.tables e below (T23.setTop (mkF m 212 #[.val (.int p1), .val (.int p2), .val (.long q3), .second, .val (.long q4), .second, .val (.long q5), .second, .val (.long q6), .second, .val (.int (p1 &&& (3 : Int32))), .val (.int (p2 &&& (255 : Int32))), .val (.ref b7), .val (.ref b15), .val (.int ((p2 &&& (255 : Int32)) / (64 : Int32))), .val (.int ((p2 &&& (255 : Int32)) % (64 : Int32))), .val (.int (own_j p1 p2)), .val (.long (own_bit (p2 &&& (255 : Int32)))), .second] [(.long (own_bit (p2 &&& (255 : Int32)))), (.int (own_j p1 p2)), (.int (0 : Int32)), (.ref b7), (.ref b15)])) _
    refine st24 _ ?_
    show Steps p.tables e below (T24.setTop (mkF m 215 #[.val (.int p1), .val (.int p2), .val (.long q3), .second, .val (.long q4), .second, .val (.long q5), .second, .val (.long q6), .second, .val (.int (p1 &&& (3 : Int32))), .val (.int (p2 &&& (255 : Int32))), .val (.ref b7), .val (.ref b15), .val (.int ((p2 &&& (255 : Int32)) / (64 : Int32))), .val (.int ((p2 &&& (255 : Int32)) % (64 : Int32))), .val (.int (own_j p1 p2)), .val (.long (own_bit (p2 &&& (255 : Int32)))), .second] [(.int (1 : Int32))])) _
    refine XS.ifNo X24.here hx rfl (hb hby at_215) rfl ((if0 _ _).trans (feq hc215).1) ?_
    show Steps p.tables e below (T24.setTop (mkF m 218 #[.val (.int p1), .val (.int p2), .val (.long q3), .second, .val (.long q4), .second, .val (.long q5), .second, .val (.long q6), .second, .val (.int (p1 &&& (3 : Int32))), .val (.int (p2 &&& (255 : Int32))), .val (.ref b7), .val (.ref b15), .val (.int ((p2 &&& (255 : Int32)) / (64 : Int32))), .val (.int ((p2 &&& (255 : Int32)) % (64 : Int32))), .val (.int (own_j p1 p2)), .val (.long (own_bit (p2 &&& (255 : Int32)))), .second] [])) _
    refine XS.aload X24.here hx rfl (hb hby at_218) rfl rfl ?_
    show Steps p.tables e below (T24.setTop (mkF m 220 #[.val (.int p1), .val (.int p2), .val (.long q3), .second, .val (.long q4), .second, .val (.long q5), .second, .val (.long q6), .second, .val (.int (p1 &&& (3 : Int32))), .val (.int (p2 &&& (255 : Int32))), .val (.ref b7), .val (.ref b15), .val (.int ((p2 &&& (255 : Int32)) / (64 : Int32))), .val (.int ((p2 &&& (255 : Int32)) % (64 : Int32))), .val (.int (own_j p1 p2)), .val (.long (own_bit (p2 &&& (255 : Int32)))), .second] [(.ref b15)])) _
    refine XS.aload X24.here hx rfl (hb hby at_220) rfl rfl ?_
    show Steps p.tables e below (T24.setTop (mkF m 222 #[.val (.int p1), .val (.int p2), .val (.long q3), .second, .val (.long q4), .second, .val (.long q5), .second, .val (.long q6), .second, .val (.int (p1 &&& (3 : Int32))), .val (.int (p2 &&& (255 : Int32))), .val (.ref b7), .val (.ref b15), .val (.int ((p2 &&& (255 : Int32)) / (64 : Int32))), .val (.int ((p2 &&& (255 : Int32)) % (64 : Int32))), .val (.int (own_j p1 p2)), .val (.long (own_bit (p2 &&& (255 : Int32)))), .second] [(.ref b7), (.ref b15)])) _
    refine XS.iconst X24.here hx rfl (hb hby at_222) ?_
    show Steps p.tables e below (T24.setTop (mkF m 223 #[.val (.int p1), .val (.int p2), .val (.long q3), .second, .val (.long q4), .second, .val (.long q5), .second, .val (.long q6), .second, .val (.int (p1 &&& (3 : Int32))), .val (.int (p2 &&& (255 : Int32))), .val (.ref b7), .val (.ref b15), .val (.int ((p2 &&& (255 : Int32)) / (64 : Int32))), .val (.int ((p2 &&& (255 : Int32)) % (64 : Int32))), .val (.int (own_j p1 p2)), .val (.long (own_bit (p2 &&& (255 : Int32)))), .second] [(.int (1 : Int32)), (.ref b7), (.ref b15)])) _
    refine XS.iload X24.here hx rfl (hb hby at_223) rfl ?_
    show Steps p.tables e below (T24.setTop (mkF m 225 #[.val (.int p1), .val (.int p2), .val (.long q3), .second, .val (.long q4), .second, .val (.long q5), .second, .val (.long q6), .second, .val (.int (p1 &&& (3 : Int32))), .val (.int (p2 &&& (255 : Int32))), .val (.ref b7), .val (.ref b15), .val (.int ((p2 &&& (255 : Int32)) / (64 : Int32))), .val (.int ((p2 &&& (255 : Int32)) % (64 : Int32))), .val (.int (own_j p1 p2)), .val (.long (own_bit (p2 &&& (255 : Int32)))), .second] [(.int (own_j p1 p2)), (.int (1 : Int32)), (.ref b7), (.ref b15)])) _
    refine XS.lload X24.here hx rfl (hb hby at_225) rfl ?_
    show Steps p.tables e below (T24.setTop (mkF m 227 #[.val (.int p1), .val (.int p2), .val (.long q3), .second, .val (.long q4), .second, .val (.long q5), .second, .val (.long q6), .second, .val (.int (p1 &&& (3 : Int32))), .val (.int (p2 &&& (255 : Int32))), .val (.ref b7), .val (.ref b15), .val (.int ((p2 &&& (255 : Int32)) / (64 : Int32))), .val (.int ((p2 &&& (255 : Int32)) % (64 : Int32))), .val (.int (own_j p1 p2)), .val (.long (own_bit (p2 &&& (255 : Int32)))), .second] [(.long (own_bit (p2 &&& (255 : Int32)))), (.int (own_j p1 p2)), (.int (1 : Int32)), (.ref b7), (.ref b15)])) _
    refine st25 _ ?_
    show Steps p.tables e below (T25.setTop (mkF m 230 #[.val (.int p1), .val (.int p2), .val (.long q3), .second, .val (.long q4), .second, .val (.long q5), .second, .val (.long q6), .second, .val (.int (p1 &&& (3 : Int32))), .val (.int (p2 &&& (255 : Int32))), .val (.ref b7), .val (.ref b15), .val (.int ((p2 &&& (255 : Int32)) / (64 : Int32))), .val (.int ((p2 &&& (255 : Int32)) % (64 : Int32))), .val (.int (own_j p1 p2)), .val (.long (own_bit (p2 &&& (255 : Int32)))), .second] [(.int (1 : Int32))])) _
    refine XS.ifNo X25.here hx rfl (hb hby at_230) rfl ((if0 _ _).trans (feq hc230).1) ?_
    show Steps p.tables e below (T25.setTop (mkF m 233 #[.val (.int p1), .val (.int p2), .val (.long q3), .second, .val (.long q4), .second, .val (.long q5), .second, .val (.long q6), .second, .val (.int (p1 &&& (3 : Int32))), .val (.int (p2 &&& (255 : Int32))), .val (.ref b7), .val (.ref b15), .val (.int ((p2 &&& (255 : Int32)) / (64 : Int32))), .val (.int ((p2 &&& (255 : Int32)) % (64 : Int32))), .val (.int (own_j p1 p2)), .val (.long (own_bit (p2 &&& (255 : Int32)))), .second] [])) _
    refine XS.aload X25.here hx rfl (hb hby at_233) rfl rfl ?_
    show Steps p.tables e below (T25.setTop (mkF m 235 #[.val (.int p1), .val (.int p2), .val (.long q3), .second, .val (.long q4), .second, .val (.long q5), .second, .val (.long q6), .second, .val (.int (p1 &&& (3 : Int32))), .val (.int (p2 &&& (255 : Int32))), .val (.ref b7), .val (.ref b15), .val (.int ((p2 &&& (255 : Int32)) / (64 : Int32))), .val (.int ((p2 &&& (255 : Int32)) % (64 : Int32))), .val (.int (own_j p1 p2)), .val (.long (own_bit (p2 &&& (255 : Int32)))), .second] [(.ref b15)])) _
    refine XS.aload X25.here hx rfl (hb hby at_235) rfl rfl ?_
    show Steps p.tables e below (T25.setTop (mkF m 237 #[.val (.int p1), .val (.int p2), .val (.long q3), .second, .val (.long q4), .second, .val (.long q5), .second, .val (.long q6), .second, .val (.int (p1 &&& (3 : Int32))), .val (.int (p2 &&& (255 : Int32))), .val (.ref b7), .val (.ref b15), .val (.int ((p2 &&& (255 : Int32)) / (64 : Int32))), .val (.int ((p2 &&& (255 : Int32)) % (64 : Int32))), .val (.int (own_j p1 p2)), .val (.long (own_bit (p2 &&& (255 : Int32)))), .second] [(.ref b7), (.ref b15)])) _
    refine XS.iconst X25.here hx rfl (hb hby at_237) ?_
    show Steps p.tables e below (T25.setTop (mkF m 238 #[.val (.int p1), .val (.int p2), .val (.long q3), .second, .val (.long q4), .second, .val (.long q5), .second, .val (.long q6), .second, .val (.int (p1 &&& (3 : Int32))), .val (.int (p2 &&& (255 : Int32))), .val (.ref b7), .val (.ref b15), .val (.int ((p2 &&& (255 : Int32)) / (64 : Int32))), .val (.int ((p2 &&& (255 : Int32)) % (64 : Int32))), .val (.int (own_j p1 p2)), .val (.long (own_bit (p2 &&& (255 : Int32)))), .second] [(.int (2 : Int32)), (.ref b7), (.ref b15)])) _
    refine XS.iload X25.here hx rfl (hb hby at_238) rfl ?_
    show Steps p.tables e below (T25.setTop (mkF m 240 #[.val (.int p1), .val (.int p2), .val (.long q3), .second, .val (.long q4), .second, .val (.long q5), .second, .val (.long q6), .second, .val (.int (p1 &&& (3 : Int32))), .val (.int (p2 &&& (255 : Int32))), .val (.ref b7), .val (.ref b15), .val (.int ((p2 &&& (255 : Int32)) / (64 : Int32))), .val (.int ((p2 &&& (255 : Int32)) % (64 : Int32))), .val (.int (own_j p1 p2)), .val (.long (own_bit (p2 &&& (255 : Int32)))), .second] [(.int (own_j p1 p2)), (.int (2 : Int32)), (.ref b7), (.ref b15)])) _
    refine XS.lload X25.here hx rfl (hb hby at_240) rfl ?_
    show Steps p.tables e below (T25.setTop (mkF m 242 #[.val (.int p1), .val (.int p2), .val (.long q3), .second, .val (.long q4), .second, .val (.long q5), .second, .val (.long q6), .second, .val (.int (p1 &&& (3 : Int32))), .val (.int (p2 &&& (255 : Int32))), .val (.ref b7), .val (.ref b15), .val (.int ((p2 &&& (255 : Int32)) / (64 : Int32))), .val (.int ((p2 &&& (255 : Int32)) % (64 : Int32))), .val (.int (own_j p1 p2)), .val (.long (own_bit (p2 &&& (255 : Int32)))), .second] [(.long (own_bit (p2 &&& (255 : Int32)))), (.int (own_j p1 p2)), (.int (2 : Int32)), (.ref b7), (.ref b15)])) _
    refine st26 _ ?_
    show Steps p.tables e below (T26.setTop (mkF m 245 #[.val (.int p1), .val (.int p2), .val (.long q3), .second, .val (.long q4), .second, .val (.long q5), .second, .val (.long q6), .second, .val (.int (p1 &&& (3 : Int32))), .val (.int (p2 &&& (255 : Int32))), .val (.ref b7), .val (.ref b15), .val (.int ((p2 &&& (255 : Int32)) / (64 : Int32))), .val (.int ((p2 &&& (255 : Int32)) % (64 : Int32))), .val (.int (own_j p1 p2)), .val (.long (own_bit (p2 &&& (255 : Int32)))), .second] [(.int (1 : Int32))])) _
    refine XS.ifNo X26.here hx rfl (hb hby at_245) rfl ((if0 _ _).trans (feq hc245).1) ?_
    show Steps p.tables e below (T26.setTop (mkF m 248 #[.val (.int p1), .val (.int p2), .val (.long q3), .second, .val (.long q4), .second, .val (.long q5), .second, .val (.long q6), .second, .val (.int (p1 &&& (3 : Int32))), .val (.int (p2 &&& (255 : Int32))), .val (.ref b7), .val (.ref b15), .val (.int ((p2 &&& (255 : Int32)) / (64 : Int32))), .val (.int ((p2 &&& (255 : Int32)) % (64 : Int32))), .val (.int (own_j p1 p2)), .val (.long (own_bit (p2 &&& (255 : Int32)))), .second] [])) _
    refine XS.aload X26.here hx rfl (hb hby at_248) rfl rfl ?_
    show Steps p.tables e below (T26.setTop (mkF m 250 #[.val (.int p1), .val (.int p2), .val (.long q3), .second, .val (.long q4), .second, .val (.long q5), .second, .val (.long q6), .second, .val (.int (p1 &&& (3 : Int32))), .val (.int (p2 &&& (255 : Int32))), .val (.ref b7), .val (.ref b15), .val (.int ((p2 &&& (255 : Int32)) / (64 : Int32))), .val (.int ((p2 &&& (255 : Int32)) % (64 : Int32))), .val (.int (own_j p1 p2)), .val (.long (own_bit (p2 &&& (255 : Int32)))), .second] [(.ref b15)])) _
    refine XS.aload X26.here hx rfl (hb hby at_250) rfl rfl ?_
    show Steps p.tables e below (T26.setTop (mkF m 252 #[.val (.int p1), .val (.int p2), .val (.long q3), .second, .val (.long q4), .second, .val (.long q5), .second, .val (.long q6), .second, .val (.int (p1 &&& (3 : Int32))), .val (.int (p2 &&& (255 : Int32))), .val (.ref b7), .val (.ref b15), .val (.int ((p2 &&& (255 : Int32)) / (64 : Int32))), .val (.int ((p2 &&& (255 : Int32)) % (64 : Int32))), .val (.int (own_j p1 p2)), .val (.long (own_bit (p2 &&& (255 : Int32)))), .second] [(.ref b7), (.ref b15)])) _
    refine XS.iconst X26.here hx rfl (hb hby at_252) ?_
    show Steps p.tables e below (T26.setTop (mkF m 253 #[.val (.int p1), .val (.int p2), .val (.long q3), .second, .val (.long q4), .second, .val (.long q5), .second, .val (.long q6), .second, .val (.int (p1 &&& (3 : Int32))), .val (.int (p2 &&& (255 : Int32))), .val (.ref b7), .val (.ref b15), .val (.int ((p2 &&& (255 : Int32)) / (64 : Int32))), .val (.int ((p2 &&& (255 : Int32)) % (64 : Int32))), .val (.int (own_j p1 p2)), .val (.long (own_bit (p2 &&& (255 : Int32)))), .second] [(.int (3 : Int32)), (.ref b7), (.ref b15)])) _
    refine XS.iload X26.here hx rfl (hb hby at_253) rfl ?_
    show Steps p.tables e below (T26.setTop (mkF m 255 #[.val (.int p1), .val (.int p2), .val (.long q3), .second, .val (.long q4), .second, .val (.long q5), .second, .val (.long q6), .second, .val (.int (p1 &&& (3 : Int32))), .val (.int (p2 &&& (255 : Int32))), .val (.ref b7), .val (.ref b15), .val (.int ((p2 &&& (255 : Int32)) / (64 : Int32))), .val (.int ((p2 &&& (255 : Int32)) % (64 : Int32))), .val (.int (own_j p1 p2)), .val (.long (own_bit (p2 &&& (255 : Int32)))), .second] [(.int (own_j p1 p2)), (.int (3 : Int32)), (.ref b7), (.ref b15)])) _
    refine XS.lload X26.here hx rfl (hb hby at_255) rfl ?_
    show Steps p.tables e below (T26.setTop (mkF m 257 #[.val (.int p1), .val (.int p2), .val (.long q3), .second, .val (.long q4), .second, .val (.long q5), .second, .val (.long q6), .second, .val (.int (p1 &&& (3 : Int32))), .val (.int (p2 &&& (255 : Int32))), .val (.ref b7), .val (.ref b15), .val (.int ((p2 &&& (255 : Int32)) / (64 : Int32))), .val (.int ((p2 &&& (255 : Int32)) % (64 : Int32))), .val (.int (own_j p1 p2)), .val (.long (own_bit (p2 &&& (255 : Int32)))), .second] [(.long (own_bit (p2 &&& (255 : Int32)))), (.int (own_j p1 p2)), (.int (3 : Int32)), (.ref b7), (.ref b15)])) _
    refine st27 _ ?_
    show Steps p.tables e below (T27.setTop (mkF m 260 #[.val (.int p1), .val (.int p2), .val (.long q3), .second, .val (.long q4), .second, .val (.long q5), .second, .val (.long q6), .second, .val (.int (p1 &&& (3 : Int32))), .val (.int (p2 &&& (255 : Int32))), .val (.ref b7), .val (.ref b15), .val (.int ((p2 &&& (255 : Int32)) / (64 : Int32))), .val (.int ((p2 &&& (255 : Int32)) % (64 : Int32))), .val (.int (own_j p1 p2)), .val (.long (own_bit (p2 &&& (255 : Int32)))), .second] [(.int (1 : Int32))])) _
    refine XS.ifNo X27.here hx rfl (hb hby at_260) rfl ((if0 _ _).trans (feq hc260).1) ?_
    show Steps p.tables e below (T27.setTop (mkF m 263 #[.val (.int p1), .val (.int p2), .val (.long q3), .second, .val (.long q4), .second, .val (.long q5), .second, .val (.long q6), .second, .val (.int (p1 &&& (3 : Int32))), .val (.int (p2 &&& (255 : Int32))), .val (.ref b7), .val (.ref b15), .val (.int ((p2 &&& (255 : Int32)) / (64 : Int32))), .val (.int ((p2 &&& (255 : Int32)) % (64 : Int32))), .val (.int (own_j p1 p2)), .val (.long (own_bit (p2 &&& (255 : Int32)))), .second] [])) _
    refine XS.aload X27.here hx rfl (hb hby at_263) rfl rfl ?_
    show Steps p.tables e below (T27.setTop (mkF m 265 #[.val (.int p1), .val (.int p2), .val (.long q3), .second, .val (.long q4), .second, .val (.long q5), .second, .val (.long q6), .second, .val (.int (p1 &&& (3 : Int32))), .val (.int (p2 &&& (255 : Int32))), .val (.ref b7), .val (.ref b15), .val (.int ((p2 &&& (255 : Int32)) / (64 : Int32))), .val (.int ((p2 &&& (255 : Int32)) % (64 : Int32))), .val (.int (own_j p1 p2)), .val (.long (own_bit (p2 &&& (255 : Int32)))), .second] [(.ref b15)])) _
    refine XS.aload X27.here hx rfl (hb hby at_265) rfl rfl ?_
    show Steps p.tables e below (T27.setTop (mkF m 267 #[.val (.int p1), .val (.int p2), .val (.long q3), .second, .val (.long q4), .second, .val (.long q5), .second, .val (.long q6), .second, .val (.int (p1 &&& (3 : Int32))), .val (.int (p2 &&& (255 : Int32))), .val (.ref b7), .val (.ref b15), .val (.int ((p2 &&& (255 : Int32)) / (64 : Int32))), .val (.int ((p2 &&& (255 : Int32)) % (64 : Int32))), .val (.int (own_j p1 p2)), .val (.long (own_bit (p2 &&& (255 : Int32)))), .second] [(.ref b7), (.ref b15)])) _
    refine XS.iconst X27.here hx rfl (hb hby at_267) ?_
    show Steps p.tables e below (T27.setTop (mkF m 268 #[.val (.int p1), .val (.int p2), .val (.long q3), .second, .val (.long q4), .second, .val (.long q5), .second, .val (.long q6), .second, .val (.int (p1 &&& (3 : Int32))), .val (.int (p2 &&& (255 : Int32))), .val (.ref b7), .val (.ref b15), .val (.int ((p2 &&& (255 : Int32)) / (64 : Int32))), .val (.int ((p2 &&& (255 : Int32)) % (64 : Int32))), .val (.int (own_j p1 p2)), .val (.long (own_bit (p2 &&& (255 : Int32)))), .second] [(.int (4 : Int32)), (.ref b7), (.ref b15)])) _
    refine XS.iload X27.here hx rfl (hb hby at_268) rfl ?_
    show Steps p.tables e below (T27.setTop (mkF m 270 #[.val (.int p1), .val (.int p2), .val (.long q3), .second, .val (.long q4), .second, .val (.long q5), .second, .val (.long q6), .second, .val (.int (p1 &&& (3 : Int32))), .val (.int (p2 &&& (255 : Int32))), .val (.ref b7), .val (.ref b15), .val (.int ((p2 &&& (255 : Int32)) / (64 : Int32))), .val (.int ((p2 &&& (255 : Int32)) % (64 : Int32))), .val (.int (own_j p1 p2)), .val (.long (own_bit (p2 &&& (255 : Int32)))), .second] [(.int (own_j p1 p2)), (.int (4 : Int32)), (.ref b7), (.ref b15)])) _
    refine XS.lload X27.here hx rfl (hb hby at_270) rfl ?_
    show Steps p.tables e below (T27.setTop (mkF m 272 #[.val (.int p1), .val (.int p2), .val (.long q3), .second, .val (.long q4), .second, .val (.long q5), .second, .val (.long q6), .second, .val (.int (p1 &&& (3 : Int32))), .val (.int (p2 &&& (255 : Int32))), .val (.ref b7), .val (.ref b15), .val (.int ((p2 &&& (255 : Int32)) / (64 : Int32))), .val (.int ((p2 &&& (255 : Int32)) % (64 : Int32))), .val (.int (own_j p1 p2)), .val (.long (own_bit (p2 &&& (255 : Int32)))), .second] [(.long (own_bit (p2 &&& (255 : Int32)))), (.int (own_j p1 p2)), (.int (4 : Int32)), (.ref b7), (.ref b15)])) _
    refine st28 _ ?_
    show Steps p.tables e below (T28.setTop (mkF m 275 #[.val (.int p1), .val (.int p2), .val (.long q3), .second, .val (.long q4), .second, .val (.long q5), .second, .val (.long q6), .second, .val (.int (p1 &&& (3 : Int32))), .val (.int (p2 &&& (255 : Int32))), .val (.ref b7), .val (.ref b15), .val (.int ((p2 &&& (255 : Int32)) / (64 : Int32))), .val (.int ((p2 &&& (255 : Int32)) % (64 : Int32))), .val (.int (own_j p1 p2)), .val (.long (own_bit (p2 &&& (255 : Int32)))), .second] [(.int (1 : Int32))])) _
    refine XS.ifNo X28.here hx rfl (hb hby at_275) rfl ((if0 _ _).trans (feq hc275).1) ?_
    show Steps p.tables e below (T28.setTop (mkF m 278 #[.val (.int p1), .val (.int p2), .val (.long q3), .second, .val (.long q4), .second, .val (.long q5), .second, .val (.long q6), .second, .val (.int (p1 &&& (3 : Int32))), .val (.int (p2 &&& (255 : Int32))), .val (.ref b7), .val (.ref b15), .val (.int ((p2 &&& (255 : Int32)) / (64 : Int32))), .val (.int ((p2 &&& (255 : Int32)) % (64 : Int32))), .val (.int (own_j p1 p2)), .val (.long (own_bit (p2 &&& (255 : Int32)))), .second] [])) _
    refine XS.aload X28.here hx rfl (hb hby at_278) rfl rfl ?_
    show Steps p.tables e below (T28.setTop (mkF m 280 #[.val (.int p1), .val (.int p2), .val (.long q3), .second, .val (.long q4), .second, .val (.long q5), .second, .val (.long q6), .second, .val (.int (p1 &&& (3 : Int32))), .val (.int (p2 &&& (255 : Int32))), .val (.ref b7), .val (.ref b15), .val (.int ((p2 &&& (255 : Int32)) / (64 : Int32))), .val (.int ((p2 &&& (255 : Int32)) % (64 : Int32))), .val (.int (own_j p1 p2)), .val (.long (own_bit (p2 &&& (255 : Int32)))), .second] [(.ref b15)])) _
    refine XS.aload X28.here hx rfl (hb hby at_280) rfl rfl ?_
    show Steps p.tables e below (T28.setTop (mkF m 282 #[.val (.int p1), .val (.int p2), .val (.long q3), .second, .val (.long q4), .second, .val (.long q5), .second, .val (.long q6), .second, .val (.int (p1 &&& (3 : Int32))), .val (.int (p2 &&& (255 : Int32))), .val (.ref b7), .val (.ref b15), .val (.int ((p2 &&& (255 : Int32)) / (64 : Int32))), .val (.int ((p2 &&& (255 : Int32)) % (64 : Int32))), .val (.int (own_j p1 p2)), .val (.long (own_bit (p2 &&& (255 : Int32)))), .second] [(.ref b7), (.ref b15)])) _
    refine XS.iconst X28.here hx rfl (hb hby at_282) ?_
    show Steps p.tables e below (T28.setTop (mkF m 283 #[.val (.int p1), .val (.int p2), .val (.long q3), .second, .val (.long q4), .second, .val (.long q5), .second, .val (.long q6), .second, .val (.int (p1 &&& (3 : Int32))), .val (.int (p2 &&& (255 : Int32))), .val (.ref b7), .val (.ref b15), .val (.int ((p2 &&& (255 : Int32)) / (64 : Int32))), .val (.int ((p2 &&& (255 : Int32)) % (64 : Int32))), .val (.int (own_j p1 p2)), .val (.long (own_bit (p2 &&& (255 : Int32)))), .second] [(.int (5 : Int32)), (.ref b7), (.ref b15)])) _
    refine XS.iload X28.here hx rfl (hb hby at_283) rfl ?_
    show Steps p.tables e below (T28.setTop (mkF m 285 #[.val (.int p1), .val (.int p2), .val (.long q3), .second, .val (.long q4), .second, .val (.long q5), .second, .val (.long q6), .second, .val (.int (p1 &&& (3 : Int32))), .val (.int (p2 &&& (255 : Int32))), .val (.ref b7), .val (.ref b15), .val (.int ((p2 &&& (255 : Int32)) / (64 : Int32))), .val (.int ((p2 &&& (255 : Int32)) % (64 : Int32))), .val (.int (own_j p1 p2)), .val (.long (own_bit (p2 &&& (255 : Int32)))), .second] [(.int (own_j p1 p2)), (.int (5 : Int32)), (.ref b7), (.ref b15)])) _
    refine XS.lload X28.here hx rfl (hb hby at_285) rfl ?_
    show Steps p.tables e below (T28.setTop (mkF m 287 #[.val (.int p1), .val (.int p2), .val (.long q3), .second, .val (.long q4), .second, .val (.long q5), .second, .val (.long q6), .second, .val (.int (p1 &&& (3 : Int32))), .val (.int (p2 &&& (255 : Int32))), .val (.ref b7), .val (.ref b15), .val (.int ((p2 &&& (255 : Int32)) / (64 : Int32))), .val (.int ((p2 &&& (255 : Int32)) % (64 : Int32))), .val (.int (own_j p1 p2)), .val (.long (own_bit (p2 &&& (255 : Int32)))), .second] [(.long (own_bit (p2 &&& (255 : Int32)))), (.int (own_j p1 p2)), (.int (5 : Int32)), (.ref b7), (.ref b15)])) _
    refine st29 _ ?_
    show Steps p.tables e below (T29.setTop (mkF m 290 #[.val (.int p1), .val (.int p2), .val (.long q3), .second, .val (.long q4), .second, .val (.long q5), .second, .val (.long q6), .second, .val (.int (p1 &&& (3 : Int32))), .val (.int (p2 &&& (255 : Int32))), .val (.ref b7), .val (.ref b15), .val (.int ((p2 &&& (255 : Int32)) / (64 : Int32))), .val (.int ((p2 &&& (255 : Int32)) % (64 : Int32))), .val (.int (own_j p1 p2)), .val (.long (own_bit (p2 &&& (255 : Int32)))), .second] [(.int (1 : Int32))])) _
    refine XS.ifNo X29.here hx rfl (hb hby at_290) rfl ((if0 _ _).trans (feq hc290).1) ?_
    show Steps p.tables e below (T29.setTop (mkF m 293 #[.val (.int p1), .val (.int p2), .val (.long q3), .second, .val (.long q4), .second, .val (.long q5), .second, .val (.long q6), .second, .val (.int (p1 &&& (3 : Int32))), .val (.int (p2 &&& (255 : Int32))), .val (.ref b7), .val (.ref b15), .val (.int ((p2 &&& (255 : Int32)) / (64 : Int32))), .val (.int ((p2 &&& (255 : Int32)) % (64 : Int32))), .val (.int (own_j p1 p2)), .val (.long (own_bit (p2 &&& (255 : Int32)))), .second] [])) _
    refine XS.aload X29.here hx rfl (hb hby at_293) rfl rfl ?_
    show Steps p.tables e below (T29.setTop (mkF m 295 #[.val (.int p1), .val (.int p2), .val (.long q3), .second, .val (.long q4), .second, .val (.long q5), .second, .val (.long q6), .second, .val (.int (p1 &&& (3 : Int32))), .val (.int (p2 &&& (255 : Int32))), .val (.ref b7), .val (.ref b15), .val (.int ((p2 &&& (255 : Int32)) / (64 : Int32))), .val (.int ((p2 &&& (255 : Int32)) % (64 : Int32))), .val (.int (own_j p1 p2)), .val (.long (own_bit (p2 &&& (255 : Int32)))), .second] [(.ref b15)])) _
    refine XS.aload X29.here hx rfl (hb hby at_295) rfl rfl ?_
    show Steps p.tables e below (T29.setTop (mkF m 297 #[.val (.int p1), .val (.int p2), .val (.long q3), .second, .val (.long q4), .second, .val (.long q5), .second, .val (.long q6), .second, .val (.int (p1 &&& (3 : Int32))), .val (.int (p2 &&& (255 : Int32))), .val (.ref b7), .val (.ref b15), .val (.int ((p2 &&& (255 : Int32)) / (64 : Int32))), .val (.int ((p2 &&& (255 : Int32)) % (64 : Int32))), .val (.int (own_j p1 p2)), .val (.long (own_bit (p2 &&& (255 : Int32)))), .second] [(.ref b7), (.ref b15)])) _
    refine XS.bipush X29.here hx rfl (hb hby at_297) ?_
    show Steps p.tables e below (T29.setTop (mkF m 299 #[.val (.int p1), .val (.int p2), .val (.long q3), .second, .val (.long q4), .second, .val (.long q5), .second, .val (.long q6), .second, .val (.int (p1 &&& (3 : Int32))), .val (.int (p2 &&& (255 : Int32))), .val (.ref b7), .val (.ref b15), .val (.int ((p2 &&& (255 : Int32)) / (64 : Int32))), .val (.int ((p2 &&& (255 : Int32)) % (64 : Int32))), .val (.int (own_j p1 p2)), .val (.long (own_bit (p2 &&& (255 : Int32)))), .second] [(.int (6 : Int32)), (.ref b7), (.ref b15)])) _
    refine XS.iload X29.here hx rfl (hb hby at_299) rfl ?_
    show Steps p.tables e below (T29.setTop (mkF m 301 #[.val (.int p1), .val (.int p2), .val (.long q3), .second, .val (.long q4), .second, .val (.long q5), .second, .val (.long q6), .second, .val (.int (p1 &&& (3 : Int32))), .val (.int (p2 &&& (255 : Int32))), .val (.ref b7), .val (.ref b15), .val (.int ((p2 &&& (255 : Int32)) / (64 : Int32))), .val (.int ((p2 &&& (255 : Int32)) % (64 : Int32))), .val (.int (own_j p1 p2)), .val (.long (own_bit (p2 &&& (255 : Int32)))), .second] [(.int (own_j p1 p2)), (.int (6 : Int32)), (.ref b7), (.ref b15)])) _
    refine XS.lload X29.here hx rfl (hb hby at_301) rfl ?_
    show Steps p.tables e below (T29.setTop (mkF m 303 #[.val (.int p1), .val (.int p2), .val (.long q3), .second, .val (.long q4), .second, .val (.long q5), .second, .val (.long q6), .second, .val (.int (p1 &&& (3 : Int32))), .val (.int (p2 &&& (255 : Int32))), .val (.ref b7), .val (.ref b15), .val (.int ((p2 &&& (255 : Int32)) / (64 : Int32))), .val (.int ((p2 &&& (255 : Int32)) % (64 : Int32))), .val (.int (own_j p1 p2)), .val (.long (own_bit (p2 &&& (255 : Int32)))), .second] [(.long (own_bit (p2 &&& (255 : Int32)))), (.int (own_j p1 p2)), (.int (6 : Int32)), (.ref b7), (.ref b15)])) _
    refine st30 _ ?_
    show Steps p.tables e below (T30.setTop (mkF m 306 #[.val (.int p1), .val (.int p2), .val (.long q3), .second, .val (.long q4), .second, .val (.long q5), .second, .val (.long q6), .second, .val (.int (p1 &&& (3 : Int32))), .val (.int (p2 &&& (255 : Int32))), .val (.ref b7), .val (.ref b15), .val (.int ((p2 &&& (255 : Int32)) / (64 : Int32))), .val (.int ((p2 &&& (255 : Int32)) % (64 : Int32))), .val (.int (own_j p1 p2)), .val (.long (own_bit (p2 &&& (255 : Int32)))), .second] [(.int (1 : Int32))])) _
    refine XS.ifNo X30.here hx rfl (hb hby at_306) rfl ((if0 _ _).trans (feq hc306).1) ?_
    show Steps p.tables e below (T30.setTop (mkF m 309 #[.val (.int p1), .val (.int p2), .val (.long q3), .second, .val (.long q4), .second, .val (.long q5), .second, .val (.long q6), .second, .val (.int (p1 &&& (3 : Int32))), .val (.int (p2 &&& (255 : Int32))), .val (.ref b7), .val (.ref b15), .val (.int ((p2 &&& (255 : Int32)) / (64 : Int32))), .val (.int ((p2 &&& (255 : Int32)) % (64 : Int32))), .val (.int (own_j p1 p2)), .val (.long (own_bit (p2 &&& (255 : Int32)))), .second] [])) _
    refine XS.iconst X30.here hx rfl (hb hby at_309) ?_
    show Steps p.tables e below (T30.setTop (mkF m 310 #[.val (.int p1), .val (.int p2), .val (.long q3), .second, .val (.long q4), .second, .val (.long q5), .second, .val (.long q6), .second, .val (.int (p1 &&& (3 : Int32))), .val (.int (p2 &&& (255 : Int32))), .val (.ref b7), .val (.ref b15), .val (.int ((p2 &&& (255 : Int32)) / (64 : Int32))), .val (.int ((p2 &&& (255 : Int32)) % (64 : Int32))), .val (.int (own_j p1 p2)), .val (.long (own_bit (p2 &&& (255 : Int32)))), .second] [(.int (1 : Int32))])) _
    refine XS.goto X30.here hx rfl (pc0 := 310) (pc' := 314) rfl (hb hby at_310) (by decide) (by decide) ?_
    show Steps p.tables e below (T30.setTop (mkF m 314 #[.val (.int p1), .val (.int p2), .val (.long q3), .second, .val (.long q4), .second, .val (.long q5), .second, .val (.long q6), .second, .val (.int (p1 &&& (3 : Int32))), .val (.int (p2 &&& (255 : Int32))), .val (.ref b7), .val (.ref b15), .val (.int ((p2 &&& (255 : Int32)) / (64 : Int32))), .val (.int ((p2 &&& (255 : Int32)) % (64 : Int32))), .val (.int (own_j p1 p2)), .val (.long (own_bit (p2 &&& (255 : Int32)))), .second] [(.int (1 : Int32))])) _
    exact retN X30 hx (t := .boolean) Bd.returns (by simp) (hb hby at_314) hr
  · show Q0 Z p1 p2 q3 q4 q5 q6 h0 n0 _ T30.heap _
    rw [q30]
    exact ⟨rfl, N30⟩
set_option maxRecDepth 65536 in
set_option maxHeartbeats 40000000 in
theorem comes_1 {Post : Tables → Env → Array Value → State → Outcome → State → Prop} (hpost : ∀ tb e args s v u, (limb_1_1.after args s (.returned v) u = true ∧ limb_1_2.after args s (.returned v) u = true ∧ True) → FrameEnd s (.returned v) u (Jvm.fieldLocs frame_1_writes args s ++ Jvm.arrayLocs frame_1_arrays args s ++ Jvm.staticLocs frame_1_statics s) 16 128 → Post tb e args s (.returned v) u) :
    ArmFor flags0 classFile x code maxLocals ret World_1 tables_1 room_1 Calls_1 rest_1 Pre_1 Post := by
  intro l hfl _ _ p e ha hc hk s m args below hf hA hF happ hP
  obtain ⟨hcalls, hrest, hpre⟩ := hP
  obtain ⟨-, -, -, hnamed, -, -, -, hat⟩ := (Spec.applies_iff hf).mp happ
  obtain ⟨hg, hn⟩ := and_e (Cond.before_iff.mp (show (Jvm.Cond.and given_1 narrow_1).before args s = true from hpre))
  obtain ⟨g31, g32⟩ := and_e hg
  obtain ⟨g33, g34⟩ := and_e g32
  obtain ⟨g35, g36⟩ := and_e g34
  obtain ⟨g37, g38⟩ := and_e g36
  obtain ⟨g39, g40⟩ := and_e g38
  obtain ⟨g41, g42⟩ := and_e g40
  obtain ⟨w0, w1, w2, w3, w4, w5, rfl⟩ : ∃ w0 w1 w2 w3 w4 w5 : Value, args = #[w0, w1, w2, w3, w4, w5] := by
    have hs : args.size = 6 := by simpa [Cond.value, given_1] using g31
    obtain ⟨L⟩ := args
    match L, hs with
    | [w0, w1, w2, w3, w4, w5], _ => exact ⟨w0, w1, w2, w3, w4, w5, rfl⟩
  have hw := fun d (hd : d ∈ tables_1) => atoms_spec (ws := Jvm.Cond.code x code maxLocals ret :: tables_1) hat d (List.mem_cons_of_mem _ hd)
  have hfit : Fit s := fun {y c} hc i hi => by
    obtain ⟨ha, rfl⟩ := Array.getElem?_eq_some_iff.mp hc
    have q := List.all_eq_true.mp ((Array.all_eq_true_iff_forall_mem.mp hF) _ (Array.getElem_mem ha)) i (List.mem_range.mpr hi)
    simpa [Array.getElem?_eq_getElem hi] using q
  obtain ⟨i0, ei0⟩ := is_v g33
  obtain rfl : w0 = (.int i0) := Option.some.inj ei0
  obtain ⟨i1, ei1⟩ := is_v g35
  obtain rfl : w1 = (.int i1) := Option.some.inj ei1
  obtain ⟨i2, ei2⟩ := isL_v g37
  obtain rfl : w2 = (.long i2) := Option.some.inj ei2
  obtain ⟨i3, ei3⟩ := isL_v g39
  obtain rfl : w3 = (.long i3) := Option.some.inj ei3
  obtain ⟨i4, ei4⟩ := isL_v g41
  obtain rfl : w4 = (.long i4) := Option.some.inj ei4
  obtain ⟨i5, ei5⟩ := isL_v g42
  obtain rfl : w5 = (.long i5) := Option.some.inj ei5
  obtain ⟨n, o, h1, h2, h3, _, L, rfl, ⟨rfl, N⟩, hq⟩ := rm0 l s _ hw tables_1 i0 i1 i2 i3 i4 i5 s.heap s.heap.size (Nat.le_refl _) p e ha hc hk s m _ below hf ((Spec.applies_iff_loose hf).mp happ).1 ⟨rfl, State.Warmed39.refl s, rfl⟩ trivial
  refine ⟨n, _, h1, h2, h3, hpost _ _ _ _ _ _ ⟨Cond.after_iff.mpr rfl, Cond.after_iff.mpr (eq_i res_at (Term.int_eval (1)) rfl), trivial⟩ ⟨hq.1, hq.2.1, (hq.2.2.sift fun y hy => Or.inr (N y hy)).mono (by decide) (by decide)⟩⟩
theorem main_1_1 : Claimed_1_1 := comes_1 fun _ _ _ _ _ _ h hF => ⟨h.1, hF⟩
theorem main_1_2 : Claimed_1_2 := comes_1 fun _ _ _ _ _ _ h hF => ⟨h.2.1, hF⟩

end Jvm.Pilot.@@N@@
namespace Jvm.Pilot.@@N@@
open Jvm Jvm.ClassFile Sem Op Lib Jvm.Free Jvm.Stand Jvm.Pilot.@@N@@.Jvm.D
/-! MADE BY PROGRAM (witnessworld.py) out of the Statement's table words and the real class files: 11 classes; the members and pool entries that the words name. The judged class is class 1, her method 1. -/
namespace start1
open Jvm.ClassFile
def u (s : String) : CpInfo := .utf8 (stringToUtf16 s)
/-- a pool by its gaps: so many unusable entries, then the entry; so many at the end -/
def gap : Nat → List CpInfo → List CpInfo
  | 0, r => r
  | n + 1, r => .unusable :: gap n r
def poolList (es : List (Nat × CpInfo)) (last : Nat) : List CpInfo := es.foldr (fun e r => gap e.1 (e.2 :: r)) (gap last [])
def pool (es : List (Nat × CpInfo)) (last : Nat) : Array CpInfo := ⟨poolList es last⟩
def fileOf (pool : Array CpInfo) (this : Nat) (attrs : Array Attribute := #[]) (ms : Array MethodInfo := #[]) (fl : Nat := 33) (sup : Nat := 0) (ifs : Array Nat := #[]) (fds : Array FieldInfo := #[]) : ClassFile where
  minorVersion := 0
  majorVersion := 65
  constantPool := pool
  accessFlags := fl
  thisClass := this
  superClass := sup
  interfaces := ifs
  fields := fds
  methods := ms
  attributes := attrs
def plain (name : String) (sup : Option ClassId) : Class where
  name := name
  kind := .ordinary
  loader := none
  accessFlags := 33
  super := sup
  interfaces := #[]
  cf := none
  fields := #[]
  methods := #[]
  instanceTypes := #[]
  staticTypes := #[]
  resolved := #[]
  callSites := []
  init := .initialized
  statics := none
  mirror := none

def pool0 : Array CpInfo := pool [(5, u "<init>"), (0, u "()V"), (1, .class_ 10), (1, u "java/lang/Object")] 113

def k0m0 : Method := { name := "<init>", desc := "()V", sig := { parameters := [], returnType := none }, accessFlags := 1, code := none }
/-- java/lang/Object -/
def k0 : Class := { plain "java/lang/Object" none with
  accessFlags := 33
  interfaces := #[]
  cf := some (fileOf pool0 8 #[] #[{ accessFlags := 1, nameIndex := 5, descriptorIndex := 6, attributes := #[] }] 33 0 #[] #[])
  fields := #[]
  methods := #[k0m0]
  instanceTypes := #[]
  staticTypes := #[]
  resolved := Array.replicate 124 none
  statics := none }

def pool1 : Array CpInfo := pool [(2, .class_ 4), (1, u "java/lang/Object"), (0, u "<init>"), (0, u "()V"), (0, .long 18446744073709551615), (1, .methodref 10 11), (0, .class_ 12), (0, .nameAndType 13 14), (0, u "com/example/rillpath/rillpath/engine/StepSets"), (0, u "add"), (0, u "([JII)V"), (0, .methodref 16 17), (0, .class_ 18), (0, .nameAndType 19 20), (0, u "com/example/rillpath/rillpath/engine/StepSetsAddPinLaw"), (0, u "same"), (0, u "([J[JIIJ)Z"), (2, u "law"), (0, u "(IIJJJJ)Z")] 5

def k1m0 : Method := { name := "<init>", desc := "()V", sig := { parameters := [], returnType := none }, accessFlags := 1, code := none }
def k1c1 : Code := { maxStack := 7, maxLocals := 19, code := code, exceptionTable := #[], attributes := #[] }
def k1m1 : Method := { name := "law", desc := "(IIJJJJ)Z", sig := { parameters := [.int, .int, .long, .long, .long, .long], returnType := some .boolean }, accessFlags := 9, code := some k1c1 }
def k1c2 : Code := { maxStack := 4, maxLocals := 8, code := method_3_code, exceptionTable := #[], attributes := #[] }
def k1m2 : Method := { name := "same", desc := "([J[JIIJ)Z", sig := { parameters := [(.array .long), (.array .long), .int, .int, .long], returnType := some .boolean }, accessFlags := 10, code := some k1c2 }
/-- com/example/rillpath/rillpath/engine/StepSetsAddPinLaw -/
def k1 : Class := { plain "com/example/rillpath/rillpath/engine/StepSetsAddPinLaw" (some 0) with
  accessFlags := 49
  interfaces := #[]
  cf := some (fileOf pool1 16 #[] #[{ accessFlags := 1, nameIndex := 5, descriptorIndex := 6, attributes := #[] }, { accessFlags := 9, nameIndex := 23, descriptorIndex := 24, attributes := #[] }, { accessFlags := 10, nameIndex := 19, descriptorIndex := 20, attributes := #[] }] 49 2 #[] #[])
  fields := #[]
  methods := #[k1m0, k1m1, k1m2]
  instanceTypes := #[]
  staticTypes := #[]
  resolved := Array.replicate 30 none
  statics := none }

def pool2 : Array CpInfo := pool [(2, .class_ 4), (1, u "com/example/rillpath/rillpath/engine/StepSets"), (3, .class_ 10), (1, u "java/lang/Object"), (3, u "plan"), (0, u "Lcom/example/rillpath/rillpath/engine/PathPlan;"), (5, u "I"), (2, u "stride"), (2, u "conditions"), (0, u "Lcom/example/rillpath/rillpath/engine/Conditions;"), (2, u "begin"), (0, u "Ljava/util/function/Function;"), (5, u "reached"), (0, u "[J"), (2, u "inherited"), (8, u "reachedIf"), (0, u "[Lcom/example/rillpath/rillpath/engine/Condition;"), (2, u "inheritedIf"), (2, u "candidates"), (2, u "repeats"), (0, u "[I"), (2, u "add"), (0, u "([JII)V"), (3, u "Lcom/example/rillpath/rillpath/engine/Condition;"), (25, u "selected"), (2, u "level")] 154

def k2c0 : Code := { maxStack := 8, maxLocals := 3, code := prog_31_method_30_code, exceptionTable := #[], attributes := #[] }
def k2m0 : Method := { name := "add", desc := "([JII)V", sig := { parameters := [(.array .long), .int, .int], returnType := none }, accessFlags := 8, code := some k2c0 }
/-- com/example/rillpath/rillpath/engine/StepSets -/
def k2 : Class := { plain "com/example/rillpath/rillpath/engine/StepSets" (some 0) with
  accessFlags := 48
  interfaces := #[]
  cf := some (fileOf pool2 2 #[] #[{ accessFlags := 8, nameIndex := 65, descriptorIndex := 66, attributes := #[] }] 48 8 #[] #[{ accessFlags := 18, nameIndex := 14, descriptorIndex := 15, attributes := #[] }, { accessFlags := 18, nameIndex := 24, descriptorIndex := 21, attributes := #[] }, { accessFlags := 18, nameIndex := 27, descriptorIndex := 28, attributes := #[] }, { accessFlags := 18, nameIndex := 31, descriptorIndex := 32, attributes := #[] }, { accessFlags := 2, nameIndex := 38, descriptorIndex := 39, attributes := #[] }, { accessFlags := 2, nameIndex := 42, descriptorIndex := 39, attributes := #[] }, { accessFlags := 2, nameIndex := 51, descriptorIndex := 52, attributes := #[] }, { accessFlags := 2, nameIndex := 55, descriptorIndex := 52, attributes := #[] }, { accessFlags := 18, nameIndex := 58, descriptorIndex := 39, attributes := #[] }, { accessFlags := 2, nameIndex := 61, descriptorIndex := 62, attributes := #[] }, { accessFlags := 2, nameIndex := 99, descriptorIndex := 21, attributes := #[] }, { accessFlags := 2, nameIndex := 96, descriptorIndex := 70, attributes := #[] }])
  fields := #[{ name := "plan", type := (.object "com/example/rillpath/rillpath/engine/PathPlan"), accessFlags := 18, slot := 0, constantValue := 0 }, { name := "stride", type := .int, accessFlags := 18, slot := 1, constantValue := 0 }, { name := "conditions", type := (.object "com/example/rillpath/rillpath/engine/Conditions"), accessFlags := 18, slot := 2, constantValue := 0 }, { name := "begin", type := (.object "java/util/function/Function"), accessFlags := 18, slot := 3, constantValue := 0 }, { name := "reached", type := (.array .long), accessFlags := 2, slot := 4, constantValue := 0 }, { name := "inherited", type := (.array .long), accessFlags := 2, slot := 5, constantValue := 0 }, { name := "reachedIf", type := (.array (.object "com/example/rillpath/rillpath/engine/Condition")), accessFlags := 2, slot := 6, constantValue := 0 }, { name := "inheritedIf", type := (.array (.object "com/example/rillpath/rillpath/engine/Condition")), accessFlags := 2, slot := 7, constantValue := 0 }, { name := "candidates", type := (.array .long), accessFlags := 18, slot := 8, constantValue := 0 }, { name := "repeats", type := (.array .int), accessFlags := 2, slot := 9, constantValue := 0 }, { name := "level", type := .int, accessFlags := 2, slot := 10, constantValue := 0 }, { name := "selected", type := (.object "com/example/rillpath/rillpath/engine/Condition"), accessFlags := 2, slot := 11, constantValue := 0 }]
  methods := #[k2m0]
  instanceTypes := #[(.object "com/example/rillpath/rillpath/engine/PathPlan"), .int, (.object "com/example/rillpath/rillpath/engine/Conditions"), (.object "java/util/function/Function"), (.array .long), (.array .long), (.array (.object "com/example/rillpath/rillpath/engine/Condition")), (.array (.object "com/example/rillpath/rillpath/engine/Condition")), (.array .long), (.array .int), .int, (.object "com/example/rillpath/rillpath/engine/Condition")]
  staticTypes := #[]
  resolved := Array.replicate 254 none
  statics := none }

def pool3 : Array CpInfo := pool [(1, u "java/lang/Cloneable"), (0, .class_ 1), (0, u "java/lang/Object"), (0, .class_ 3)] 3

/-- java/lang/Cloneable -/
def k3 : Class := { plain "java/lang/Cloneable" (some 0) with
  accessFlags := 1537
  interfaces := #[]
  cf := some (fileOf pool3 2 #[] #[] 1537 4 #[] #[])
  fields := #[]
  methods := #[]
  instanceTypes := #[]
  staticTypes := #[]
  resolved := Array.replicate 8 none
  statics := none }

def pool4 : Array CpInfo := pool [(1, u "java/io/Serializable"), (0, .class_ 1), (0, u "java/lang/Object"), (0, .class_ 3)] 3

/-- java/io/Serializable -/
def k4 : Class := { plain "java/io/Serializable" (some 0) with
  accessFlags := 1537
  interfaces := #[]
  cf := some (fileOf pool4 2 #[] #[] 1537 4 #[] #[])
  fields := #[]
  methods := #[]
  instanceTypes := #[]
  staticTypes := #[]
  resolved := Array.replicate 8 none
  statics := none }

/-- the primitive byte -/
def k5 : Class := { plain "byte" none with kind := .primitive 'B', accessFlags := 0x411 }
/-- [B -/
def k6 : Class := { plain "[B" (some 0) with kind := .array 5 .byte, interfaces := #[3, 4], accessFlags := 1041 }

/-- the primitive int -/
def k7 : Class := { plain "int" none with kind := .primitive 'I', accessFlags := 0x411 }
/-- [I -/
def k8 : Class := { plain "[I" (some 0) with kind := .array 7 .int, interfaces := #[3, 4], accessFlags := 1041 }

/-- the primitive long -/
def k9 : Class := { plain "long" none with kind := .primitive 'J', accessFlags := 0x411 }
/-- [J -/
def k10 : Class := { plain "[J" (some 0) with kind := .array 9 .long, interfaces := #[3, 4], accessFlags := 1041 }

def heap : Heap := #[]
def classes : Array Class := #[k0, k1, k2, k3, k4, k5, k6, k7, k8, k9, k10]
def interned : List (Array UInt16 × Addr) := []
def slotsUsed : Nat := 0
def theMethod : MethodId := ⟨1, 1⟩
def args0 : Array Value := #[.int 1, .int 70, .long 1, .long 2, .long 3, .long 4]
def aboutOver (below : List Frame) : State where
  vm := { classes := classes, interned := interned.toArray }
  heap := heap
  slotsUsed := slotsUsed
  threads := #[{ frames := .invoking theMethod args0 :: below }]
def below0 : List Frame := [.native { method := ⟨0, 0⟩, args := #[] }]
def about1 : State := aboutOver below0
def p0 : Program := .bare "" "" ""
def e0 : Env := launch0.env 0 0 0
theorem w_frames : about1.frames = Frame.invoking theMethod args0 :: below0 := rfl
set_option maxRecDepth 65536 in
theorem w_args : argsFit about1.vm theMethod args0 = true := by decide +kernel
set_option maxRecDepth 65536 in
theorem w_heap : heapFits about1 = true := by decide +kernel
set_option maxRecDepth 65536 in
theorem w_runnable : about1.curStatus? = some .runnable := by decide +kernel
set_option maxRecDepth 65536 in
theorem w_alone : about1.alone = true := by decide +kernel
set_option maxRecDepth 65536 in
theorem w_named : about1.methodNamed? x = some theMethod := by decide +kernel
set_option maxRecDepth 65536 in
theorem w_hears : about1.hears theMethod below0 = true := by decide +kernel
set_option maxRecDepth 65536 in
theorem w_ripe : about1.ripe theMethod args0 below0 = true := by decide +kernel
theorem w_running : about1.status = .running := rfl
set_option maxRecDepth 65536 in
theorem w_room : about1.hasRoom e0.platform room_1 = true :=
  launch0.hasRoom_least _ room_1 (by decide +kernel) (by decide +kernel) (by decide +kernel) (by decide +kernel) (by decide +kernel) (by decide +kernel)
theorem allAtoms_all (ts : List Jvm.Cond) (a : Array Jvm.Value) (st : Jvm.State) : (allAtoms ts).before a st = ts.all (fun c => c.before a st) := by
  induction ts with
  | nil => rfl
  | cons c t ih =>
    show (Jvm.Cond.and c (allAtoms t)).before a st = _
    rw [Jvm.Cond.before_and, ih, List.all_cons]
def words1 : List Jvm.Cond := Jvm.Cond.code x code maxLocals ret :: tables_1
/-- a 'code' word, met by the world's own term for the bytes: nothing is compared byte by byte -/
theorem code_word {y : MethodName} {bytes : ByteArray} {mx : Nat} {rt : Option FieldType} {a : Array Value} {s : State} {m : MethodId} {meth : Method} {c : Code} (h1 : s.methodNamed? y = some m) (h2 : s.vm.method? m = some meth) (h3 : meth.code = some c) (h4 : c.code = bytes)
    (h5 : (c.maxLocals == mx && c.exceptionTable.isEmpty && decide (c.maxStack ≤ mostOperands) && decide (meth.sig.returnType = rt) && !meth.locks && decide (parseMethodDescriptor y.desc = some meth.sig)) = true) : (Jvm.Cond.code y bytes mx rt).before a s = true := by
  simp only [Bool.and_eq_true, beq_iff_eq, Bool.not_eq_true', decide_eq_true_eq] at h5
  obtain ⟨⟨⟨⟨⟨g1, g2⟩, g3⟩, g4⟩, g5⟩, g6⟩ := h5
  simp [Cond.before, Cond.holds, Cond.value, h1, h2, h3, h4, g1, g2, g3, g4, g5, g6]
def isCode : Jvm.Cond → Bool
  | .code _ _ _ _ => true
  | _ => false
theorem all_split {L : List Jvm.Cond} {P : Jvm.Cond → Bool} (h1 : L.all (fun c => isCode c || P c) = true) (h2 : ∀ c ∈ L.filter isCode, P c = true) : L.all P = true := by
  refine List.all_eq_true.mpr fun c hc => ?_
  have h := List.all_eq_true.mp h1 c hc
  rcases Bool.eq_false_or_eq_true (isCode c) with hi | hi
  · exact h2 c (List.mem_filter.mpr ⟨hc, hi⟩)
  · simpa [hi] using h
set_option maxRecDepth 65536 in
theorem w_c0 : (Jvm.Cond.code x code maxLocals ret).before args0 about1 = true := code_word (m := ⟨1, 1⟩) (meth := k1m1) (c := k1c1) (by decide +kernel) rfl rfl rfl (by decide +kernel)
set_option maxRecDepth 65536 in
theorem w_c1 : (Jvm.Cond.code ({ cls := "com/example/rillpath/rillpath/engine/StepSets", name := "add", desc := "([JII)V" } : Jvm.MethodName) prog_31_method_30_code (3 : Nat) (Option.none : Option Jvm.ClassFile.FieldType)).before args0 about1 = true := code_word (m := ⟨2, 0⟩) (meth := k2m0) (c := k2c0) (by decide +kernel) rfl rfl rfl (by decide +kernel)
set_option maxRecDepth 65536 in
theorem w_c2 : (Jvm.Cond.code ({ cls := "com/example/rillpath/rillpath/engine/StepSetsAddPinLaw", name := "same", desc := "([J[JIIJ)Z" } : Jvm.MethodName) method_3_code (8 : Nat) (Option.some Jvm.ClassFile.FieldType.boolean)).before args0 about1 = true := code_word (m := ⟨1, 2⟩) (meth := k1m2) (c := k1c2) (by decide +kernel) rfl rfl rfl (by decide +kernel)
def codes1 : List Jvm.Cond := [Jvm.Cond.code x code maxLocals ret, Jvm.Cond.code ({ cls := "com/example/rillpath/rillpath/engine/StepSets", name := "add", desc := "([JII)V" } : Jvm.MethodName) prog_31_method_30_code (3 : Nat) (Option.none : Option Jvm.ClassFile.FieldType), Jvm.Cond.code ({ cls := "com/example/rillpath/rillpath/engine/StepSetsAddPinLaw", name := "same", desc := "([J[JIIJ)Z" } : Jvm.MethodName) method_3_code (8 : Nat) (Option.some Jvm.ClassFile.FieldType.boolean)]
set_option maxRecDepth 65536 in
theorem codes_eq : words1.filter isCode = codes1 := rfl
theorem w_codes : ∀ c ∈ words1.filter isCode, c.before args0 about1 = true := by
  rw [codes_eq]
  intro c hc
  simp only [codes1, List.mem_cons, List.not_mem_nil, or_false] at hc
  rcases hc with rfl | rfl | rfl
  · exact w_c0
  · exact w_c1
  · exact w_c2
set_option maxRecDepth 65536 in
theorem w_t1 : words1.all (fun c => isCode c || c.before args0 about1) = true := by decide +kernel
theorem w_tables : (allAtoms (Jvm.Cond.code x code maxLocals ret :: tables_1)).before args0 about1 = true := by
  rw [allAtoms_all]
  show words1.all (fun c => c.before args0 about1) = true
  refine all_split ?_ w_codes
  rw [w_t1]
set_option maxRecDepth 65536 in
theorem w_case : (Jvm.Cond.and given_1 narrow_1).before args0 about1 = true := by decide +kernel
theorem w_applies : (headSpec (Jvm.Cond.code x code maxLocals ret :: tables_1) room_1).applies x e0.platform about1 = true :=
  (Spec.applies_iff w_frames).mpr ⟨w_running, w_runnable, w_alone, w_named, w_hears, w_ripe, w_room, w_tables⟩
theorem atStart : AtStart classFile x code maxLocals ret World_1 tables_1 room_1 Calls_1 rest_1 Pre_1 launch0 p0 e0 about1 theMethod args0 below0 :=
  ⟨lists_1, trivial, launch0.admits_env _ _ _, launch0.least_env, fairChoices_fair.cas, fairChoices_fair.clock, w_frames, w_args, w_heap, w_applies, trivial, trivial, w_case⟩
end start1
theorem witness_1 : WitnessClaimed_1 := ⟨start1.p0, start1.e0, start1.about1, start1.theMethod, start1.args0, start1.below0, start1.atStart⟩
end Jvm.Pilot.@@N@@
