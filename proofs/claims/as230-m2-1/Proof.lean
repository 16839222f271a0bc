import JvmDerived
import JvmDerived.Pilot.@@N@@Statement
import JvmDerived.Pilot.@@N@@Code
set_option linter.unusedVariables false
set_option linter.unusedSimpArgs false
@@BLOCK:NumsL.lean.txt@@
namespace Jvm.Pilot.@@N@@
open Jvm Jvm.ClassFile Sem Op Lib Jvm.Free Jvm.Stand Jvm.LawKit Jvm.RoadKit Bundle Jvm.Pilot.@@N@@.Jvm.D
/-- a byte cut twice is the byte cut once -/
theorem own_b8 (x : Int32) : x.toInt8.toInt32.toInt8.toInt32 = x.toInt8.toInt32 := by
  apply Int32.toInt_inj.mp
  have h1 := c_i2b x
  have h2 := c_i2b x.toInt8.toInt32
  omega
theorem own_n4 (p : Int32) : (p &&& (3 : Int32)) + (1 : Int32) = (1 : Int32) ∨ (p &&& (3 : Int32)) + (1 : Int32) = (2 : Int32) ∨ (p &&& (3 : Int32)) + (1 : Int32) = (3 : Int32) ∨ (p &&& (3 : Int32)) + (1 : Int32) = (4 : Int32) := by
  have h : 0 ≤ (p &&& (3 : Int32)).toInt ∧ (p &&& (3 : Int32)).toInt ≤ 3 := c_and p 3 (by decide)
  have hk : (p &&& (3 : Int32)).toInt = 0 ∨ (p &&& (3 : Int32)).toInt = 1 ∨ (p &&& (3 : Int32)).toInt = 2 ∨ (p &&& (3 : Int32)).toInt = 3 := by omega
  rcases hk with e | e | e | e
  · rw [Int32.toInt_inj.mp (e.trans (show (0 : Int) = (0 : Int32).toInt from rfl))]; decide
  · rw [Int32.toInt_inj.mp (e.trans (show (1 : Int) = (1 : Int32).toInt from rfl))]; decide
  · rw [Int32.toInt_inj.mp (e.trans (show (2 : Int) = (2 : Int32).toInt from rfl))]; decide
  · rw [Int32.toInt_inj.mp (e.trans (show (3 : Int) = (3 : Int32).toInt from rfl))]; decide
theorem d1_1 : decode prog_35_method_8_code 1 = .ok (.invokevirtual 100, 3) := by decide +kernel
theorem d1_0 : decode prog_35_method_8_code 0 = .ok (.aload_n 0, 1) := by decide +kernel
theorem d1_4 : decode prog_35_method_8_code 4 = .ok (.checkcast 101, 3) := by decide +kernel
theorem d1_7 : decode prog_35_method_8_code 7 = .ok (.astore_n 1, 1) := by decide +kernel
theorem d1_8 : decode prog_35_method_8_code 8 = .ok (.aload_n 1, 1) := by decide +kernel
theorem d1_9 : decode prog_35_method_8_code 9 = .ok (.iconst 0, 1) := by decide +kernel
theorem d1_10 : decode prog_35_method_8_code 10 = .ok (.iconst 1, 1) := by decide +kernel
theorem d1_11 : decode prog_35_method_8_code 11 = .ok (.bastore, 1) := by decide +kernel
theorem d1_12 : decode prog_35_method_8_code 12 = .ok (.aload_n 1, 1) := by decide +kernel
theorem d1_13 : decode prog_35_method_8_code 13 = .ok (.areturn, 1) := by decide +kernel
theorem pn_1 : plainName "com/example/keyspace/keyspace/storage/KeyCodec" = true := by first | (simp [plainName, overriddenIn]; done) | decide +kernel
theorem ef_1 (m : MethodId) (x0 : Addr) : entryFrame m #[(.ref x0)] 2 = mkF m 0 #[.val (.ref x0), .unset] [] := by first | (simp [entryFrame, mkF, argsToLocals, Value.category]; done) | rfl
def Q1 (Z : State) (a1 : Addr) (cl_a1 : Cell) (bC : Addr) (h0 : Heap) (n0 : Nat) (v : Option Value) (h : Heap) (L : List Loc) : Prop := v = some (.ref bC) ∧ Fr n0 L ∧ Keep h0 h [] ∧ Arr Z h bC ((cloneOf cl_a1).setSlot ((0 : Int32)).toNatClampNeg (.int (nar .byte (1 : Int32)))) .byte
set_option maxRecDepth 65536 in
set_option maxHeartbeats 40000000 in
theorem rm1 (l : Launch) (Z : State) (a0 : Array Value) (hw : ∀ d ∈ tables_1, d.before a0 Z = true) (ws : List Jvm.Cond) (a1 : Addr) (cl_a1 : Cell) (bC : Addr) (h0 : Heap) (n0 : Nat) (Z0 : n0 ≤ h0.size) (Ar_a1 : Arr Z h0 a1 cl_a1 .byte) (E_a1 : Exa Z h0 a1 "[B") (FC : FitC Z cl_a1) (hsz : cl_a1.slots.size ≤ 4) (hin11 : ¬ ((0 : Int32) < 0 ∨ cl_a1.slots.size ≤ ((0 : Int32)).toNatClampNeg)) (gb : bC = h0.size) :
    MetFree l (⟨"com/example/keyspace/keyspace/storage/KeyCodec", "rangeDeletionsPrefix", "([B)[B"⟩ : MethodName) (head1 (Jvm.Cond.code (⟨"com/example/keyspace/keyspace/storage/KeyCodec", "rangeDeletionsPrefix", "([B)[B"⟩ : MethodName) prog_35_method_8_code 2 (some (.array .byte)) :: ws) ({ frames := 1, cells := 1, slots := 4, locals := 14 } : Room)) (fun a U => a = #[(.ref a1)] ∧ Z.Warmed39 U.vm ∧ U.heap = h0) (fun _ _ _ _ _ => True) (fun _ U o U' => ∃ v L, o = .returned v ∧ Q1 Z a1 cl_a1 bC h0 n0 v U'.heap L ∧ FrameEnd U o U' L ({ frames := 1, cells := 1, slots := 4, locals := 14 } : Room).cells ({ frames := 1, cells := 1, slots := 4, locals := 14 } : Room).slots) := by
  refine MetFree.of_bodySF (plainFor_of_name pn_1) hisR ?_
  intro p e s m args below meth c s₁ Bd hml0 hP hK
  obtain ⟨rfl, hZ, hh⟩ := hP
  have hx := Bd.exec
  have hby := Bd.bytes
  have hml : c.maxLocals = 2 := hml0
  have hown : s.vm.findClass "com/example/keyspace/keyspace/storage/KeyCodec" = some m.cls := findClass_of_methodNamed Bd.named
  have hnm := (name_of_methodNamed Bd.named Bd.method).1
  have X0 : Stand p l e ({ frames := 1, cells := 1, slots := 4, locals := 14 } : Room) s m #[(.ref a1)] below meth c s₁ [] 0 0 := Stand.of_body Bd
  have e0 : s₁.heap = h0 := by rw [← hh, Bd.state]; rfl
  have N0 := Fr.nil n0
  have pre0 : ∀ t, Steps p.tables e below (s₁.setTop (mkF m 0 #[.val (.ref a1), .unset] [])) t → Steps p.tables e below (s₁.setTop (entryFrame m #[(.ref a1)] 2)) t := fun t k => castTop (ef_1 m a1) k
  obtain ⟨T2, h2, X2, e2, Ex2, Ar_bC, Eb2, st2⟩ := cloneA X0 hx hZ hown (hw _ (List.mem_of_getElem? (i := 5) rfl)) (hw _ (List.mem_of_getElem? (i := 6) rfl)) (hw _ (List.mem_of_getElem? (i := 10) rfl)) (hw _ (List.mem_of_getElem? (i := 8) rfl)) (hw _ (List.mem_of_getElem? (i := 9) rfl)) (hw _ (List.mem_of_getElem? (i := 11) rfl)) e0 Ar_a1 E_a1 FC (g := (mkF m 1 #[.val (.ref a1), .unset] [(.ref a1)])) rfl (by rw [hml]; rfl) rfl (hb hby d1_1) (by decide) (W := 0) (cap := 4) (by show 2 * 0 + _ ≤ _; exact Nat.le_of_eq rfl) (by decide) hsz (by decide) (by decide)
  rw [← gb] at Ar_bC Eb2 st2
  have N2 := N0
  have I_bC := Ins.self Eb2
  have g_bC : n0 ≤ bC := by rw [gb]; exact Z0
  obtain ⟨T3, X3, e3, st3⟩ := castY X2 hx hZ hown (hw _ (List.mem_of_getElem? (i := 12) rfl)) e2 I_bC (g := (mkF m 4 #[.val (.ref a1), .unset] [(.ref bC)])) rfl rfl (hb hby d1_4)
  obtain ⟨T4, h4, X4, e4, W4, st4⟩ := stB X3 hx hZ e3 Ar_bC (j := (0 : Int32)) hin11 (g := (mkF m 11 #[.val (.ref a1), .val (.ref bC)] [(.int (1 : Int32)), (.int (0 : Int32)), (.ref bC)])) rfl rfl (hb hby d1_11)
  have N4 := Fr.snoc X4 N2 g_bC
  -- Ar_bC.same W4 : the array with (.int (1 : Int32)) at the place (0 : Int32)
  have K4 : Keep h0 h4 [] := ((Keep.refl h0 []).ext Ex2).wr W4 (Or.inr (by rw [gb]; exact Nat.le_refl _))
  obtain ⟨fs, hr, hrun, hended, hW, hsame⟩ := X4.leave (v := some (.ref bC)) (fun h => by rw [Bd.returns] at h; cases h)
  refine ⟨_, _, pre0 _ ?_, hrun, hended, _, _, rfl, ?_, ⟨_, rfl⟩, hW, hsame.mono (by decide) (by decide)⟩
  · show Steps p.tables e below (s₁.setTop (mkF m 0 #[.val (.ref a1), .unset] [])) _
    refine XS.aloadN X0.here hx rfl (hb hby d1_0) rfl rfl ?_
    show Steps p.tables e below (s₁.setTop (mkF m 1 #[.val (.ref a1), .unset] [(.ref a1)])) _
    refine st2 _ ?_
    show Steps p.tables e below (T2.setTop (mkF m 4 #[.val (.ref a1), .unset] [(.ref bC)])) _
    refine st3 _ ?_
    show Steps p.tables e below (T3.setTop (mkF m 7 #[.val (.ref a1), .unset] [(.ref bC)])) _
    refine XS.astoreN X3.here hx rfl (hb hby d1_7) rfl rfl (l' := #[.val (.ref a1), .val (.ref bC)]) rfl ?_
    show Steps p.tables e below (T3.setTop (mkF m 8 #[.val (.ref a1), .val (.ref bC)] [])) _
    refine XS.aloadN X3.here hx rfl (hb hby d1_8) rfl rfl ?_
    show Steps p.tables e below (T3.setTop (mkF m 9 #[.val (.ref a1), .val (.ref bC)] [(.ref bC)])) _
    refine XS.iconst X3.here hx rfl (hb hby d1_9) ?_
    show Steps p.tables e below (T3.setTop (mkF m 10 #[.val (.ref a1), .val (.ref bC)] [(.int (0 : Int32)), (.ref bC)])) _
    refine XS.iconst X3.here hx rfl (hb hby d1_10) ?_
    show Steps p.tables e below (T3.setTop (mkF m 11 #[.val (.ref a1), .val (.ref bC)] [(.int (1 : Int32)), (.int (0 : Int32)), (.ref bC)])) _
    refine st4 _ ?_
    show Steps p.tables e below (T4.setTop (mkF m 12 #[.val (.ref a1), .val (.ref bC)] [])) _
    refine XS.aloadN X4.here hx rfl (hb hby d1_12) rfl rfl ?_
    show Steps p.tables e below (T4.setTop (mkF m 13 #[.val (.ref a1), .val (.ref bC)] [(.ref bC)])) _
    jvm_step X4.here [X4.here.top, hx, (hb hby d1_13), X4.method', Bd.returns, Value.isRef, FieldType.isReference]
    first | (intro acts; rw [hr _ acts rfl rfl rfl]) | rw [hr _ _ rfl rfl rfl]
    exact Steps.refl _
  · show Q1 Z a1 cl_a1 bC h0 n0 _ T4.heap _
    rw [e4]
    exact ⟨rfl, N4, K4, Ar_bC.same W4⟩
theorem pn_0 : plainName "com/example/keyspace/keyspace/storage/KeyCodecRangeDeletionsPrefixPinLaw" = true := by first | (simp [plainName, overriddenIn]; done) | decide +kernel
theorem pd_0_0 : parseMethodDescriptor "([B)[B" = some ⟨[(.array .byte)], some (.array .byte)⟩ := by decide +kernel
theorem ef_0 (m : MethodId) (x0 : Int32) (x1 : Int32) (x2 : Int32) (x3 : Int32) (x4 : Int32) : entryFrame m #[(.int x0), (.int x1), (.int x2), (.int x3), (.int x4)] maxLocals = mkF m 0 #[.val (.int x0), .val (.int x1), .val (.int x2), .val (.int x3), .val (.int x4), .unset, .unset, .unset] [] := by first | (simp [entryFrame, mkF, argsToLocals, Value.category, maxLocals]; done) | rfl
def Q0 (Z : State) (p1 : Int32) (p2 : Int32) (p3 : Int32) (p4 : Int32) (p5 : Int32) (h0 : Heap) (n0 : Nat) (v : Option Value) (h : Heap) (L : List Loc) : Prop := v = some (.int (1 : Int32)) ∧ Fr n0 L
set_option maxRecDepth 65536 in
set_option maxHeartbeats 40000000 in
theorem rm0_1 (l : Launch) (Z : State) (a0 : Array Value) (hw : ∀ d ∈ tables_1, d.before a0 Z = true) (ws : List Jvm.Cond) (p1 : Int32) (p2 : Int32) (p3 : Int32) (p4 : Int32) (p5 : Int32) (h0 : Heap) (n0 : Nat) (Z0 : n0 ≤ h0.size) (en : (p1 &&& (3 : Int32)) + (1 : Int32) = (1 : Int32)) :
    MetFree l x (head1 (Jvm.Cond.code x code maxLocals ret :: ws) room_1) (fun a U => a = #[(.int p1), (.int p2), (.int p3), (.int p4), (.int p5)] ∧ Z.Warmed39 U.vm ∧ U.heap = h0) (fun _ _ _ _ _ => True) (fun _ U o U' => ∃ v L, o = .returned v ∧ Q0 Z p1 p2 p3 p4 p5 h0 n0 v U'.heap L ∧ FrameEnd U o U' L room_1.cells room_1.slots) := by
  refine MetFree.of_bodySF (plainFor_of_name pn_0) hisR ?_
  intro p e s m args below meth c s₁ Bd hml0 hP hK
  obtain ⟨rfl, hZ, hh⟩ := hP
  have hx := Bd.exec
  have hby := Bd.bytes
  have hml : c.maxLocals = 8 := hml0
  have hown : s.vm.findClass "com/example/keyspace/keyspace/storage/KeyCodecRangeDeletionsPrefixPinLaw" = some m.cls := findClass_of_methodNamed Bd.named
  have hnm := (name_of_methodNamed Bd.named Bd.method).1
  have X0 : Stand p l e room_1 s m #[(.int p1), (.int p2), (.int p3), (.int p4), (.int p5)] below meth c s₁ [] 0 0 := Stand.of_body Bd
  have e0 : s₁.heap = h0 := by rw [← hh, Bd.state]; rfl
  have N0 := Fr.nil n0
  have pre0 : ∀ t, Steps p.tables e below (s₁.setTop (mkF m 0 #[.val (.int p1), .val (.int p2), .val (.int p3), .val (.int p4), .val (.int p5), .unset, .unset, .unset] [])) t → Steps p.tables e below (s₁.setTop (entryFrame m #[(.int p1), (.int p2), (.int p3), (.int p4), (.int p5)] maxLocals)) t := fun t k => castTop (ef_0 m p1 p2 p3 p4 p5) k
  have hc22 : ¬ ((1 : Int32) < (1 : Int32)) := by first | rfl | decide
  have hc34 : ¬ ((2 : Int32) < (1 : Int32)) := by first | rfl | decide
  have hc46 : ¬ ((3 : Int32) < (1 : Int32)) := by first | rfl | decide
  have hc80 : (1 : Int32) = (1 : Int32) := by first | rfl | decide
  have hc90 : (1 : Int32) = (1 : Int32) := by first | rfl | decide
  have hc101 : (p2.toInt8.toInt32) = (p2.toInt8.toInt32) := by first | rfl | decide
  have hc109 : ¬ ((1 : Int32) < (1 : Int32)) := by first | rfl | decide
  have hc135 : ¬ ((2 : Int32) < (1 : Int32)) := by first | rfl | decide
  have hc161 : ¬ ((3 : Int32) < (1 : Int32)) := by first | rfl | decide
  obtain ⟨T6, h6, k6, X6, e6, E6, A6, EB6, st6⟩ := newPE X0 hx hZ (hw _ (List.mem_of_getElem? (i := 0) rfl)) e0 (g := (mkF m 9 #[.val (.int p1), .val (.int p2), .val (.int p3), .val (.int p4), .val (.int p5), .val (.int (1 : Int32)), .unset, .unset] [(.int (1 : Int32))])) rfl (hb hby at_9) rfl (by decide) (cap := 1) (by decide) (by decide) (by decide) (by decide) (ad := "[B") (by decide)
  obtain ⟨b6, g6⟩ : ∃ z, z = h0.size := ⟨_, rfl⟩      -- the fresh array's address
  rw [← g6] at A6 EB6 st6
  have V_b6 : Arv Z h6 b6 k6 .byte (1 : Int32) [(.int (0 : Int32))] (.int (0 : Int32)) := (Arv.new A6 (by decide)).pad (pad_rep [] (.int (0 : Int32)) 1)
  have g_b6 : n0 ≤ b6 := Nat.le_trans Z0 (Nat.le_of_eq g6.symm)
  have sz_b6 : h0.size ≤ b6 := (Nat.le_trans (Keep.refl h0 []).1 (Nat.le_of_eq g6.symm))
  have K6 : Keep h0 h6 [] := (Keep.refl h0 []).ext E6
  obtain ⟨cl_b6_18, Ar_b6, q_b6, S_b6, N_b6, H_b6, G_b6⟩ := V_b6      -- open the array's fact as it stands now (its cell, kind, length, elements)
  have hin18 : ¬ ((0 : Int32) < 0 ∨ cl_b6_18.slots.size ≤ ((0 : Int32)).toNatClampNeg) := inb_of S_b6 ⟨by decide, by decide⟩
  obtain ⟨T7, h7, X7, e7, W7, st7⟩ := stB X6 hx hZ e6 Ar_b6 (j := (0 : Int32)) hin18 (g := (mkF m 18 #[.val (.int p1), .val (.int p2), .val (.int p3), .val (.int p4), .val (.int p5), .val (.int (1 : Int32)), .val (.ref b6), .unset] [(.int (p2.toInt8.toInt32)), (.int (0 : Int32)), (.ref b6)])) rfl rfl (hb hby at_18)
  have V_b6_7 := Arv.set Ar_b6 q_b6 S_b6 N_b6 H_b6 G_b6 (fits_nar_byte _) W7 0 rfl (Nat.le_of_ble_eq_true rfl)      -- the array as it stands now (the place must lie among its first values: Arv.pad with pad_rep lengthens them)
  have K7 : Keep h0 h7 [] := K6.wr W7 (Or.inr sz_b6)
  have N7 := Fr.snoc X7 N0 g_b6
  -- (bastore into a boolean[]: stZ in stB's place)
  obtain ⟨cI, ArI, qI, SI, NI, HI, GI⟩ := V_b6_7
  have FC : FitC Z cI := fitC_of ArI fun i hi v hv => by rw [HI i hi] at hv; cases hv; exact GI i hi
  obtain ⟨bO, gO⟩ : ∃ z, z = h7.size := ⟨_, rfl⟩
  have Zs : n0 ≤ h7.size := Nat.le_trans Z0 K7.1
  have ha72 : ¬ (bO = b6) := by rw [gO]; exact (Nat.ne_of_lt ArI.lt).symm
  -- pc 58: com/example/keyspace/keyspace/storage/KeyCodec.rangeDeletionsPrefix by its contract rm1
  obtain ⟨_, _, ⟨T8, L8, k8, n8⟩, -, X8, ⟨Lc8, hQ8, l8, y8, z8⟩, st8⟩ := Jvm.LawKit.callS X7 hx (y := (⟨"com/example/keyspace/keyspace/storage/KeyCodec", "rangeDeletionsPrefix", "([B)[B"⟩ : MethodName)) hown (mvT hZ (hw _ (List.mem_of_getElem? (i := 1) rfl))) (mvT hZ (hw _ (List.mem_of_getElem? (i := 2) rfl))) (mvT hZ (hw _ (List.mem_of_getElem? (i := 3) rfl))) (mvT hZ (hw _ (List.mem_of_getElem? (i := 4) rfl))) (by decide) (backOf (W := 0) (rm1 l Z a0 hw [] b6 cI bO h7 n0 Zs ArI (EB6.wr W7) FC (by rw [SI]; decide) (inb_of SI ⟨by decide, by decide⟩) gO) hZ (hw _ (List.mem_of_getElem? (i := 4) rfl)) (hw _ (List.mem_of_getElem? (i := 3) rfl)) (by decide) (by decide)) (g := (mkF m 58 #[.val (.int p1), .val (.int p2), .val (.int p3), .val (.int p4), .val (.int p5), .val (.int (1 : Int32)), .val (.ref b6), .unset] [(.ref b6)])) rfl (by rw [hml]; rfl) (argsL := [(.ref b6)]) (rest := []) (lenOf pd_0_0 rfl) rfl (by show 2 * 0 + _ ≤ _; exact Nat.le_of_eq rfl) (hb hby at_58) (fun _ _ => ⟨rfl, e7, (by decide : 1 + 1 ≤ _), (by decide : 1 + 4 ≤ _)⟩)
  dsimp only [Pt.U, Pt.locs, Pt.cells, Pt.slots] at X8 l8 y8 z8 st8 hQ8
  subst l8 y8 z8
  obtain ⟨rfl, N8q, K8, Ar_bO⟩ := hQ8      -- what it returned, that it wrote nothing old, and the rest of your Q1
  have N8 := Fr.app N7 N8q
  have S_bO : ((cloneOf cI).setSlot ((0 : Int32)).toNatClampNeg (.int (nar .byte (1 : Int32)))).slots.size = (1 : Int32).toNatClampNeg := by rw [sz_set]; exact SI
  have N_bO : ¬ (1 : Int32) < 0 := by decide
  have Ar_b6 : Arr Z T8.heap b6 cI .byte := ⟨K8.2.1 b6 cI ArI.1 (by simp), ArI.2⟩
  have hin88 := inb_of S_bO (j := (0 : Int32)) ⟨by decide, by decide⟩
  have hat88 : ((cloneOf cI).setSlot ((0 : Int32)).toNatClampNeg (.int (nar .byte (1 : Int32)))).slots[((0 : Int32)).toNatClampNeg]? = some (.int (1 : Int32)) := get_hit (c := cloneOf cI) (j := (0 : Int32)) (inb_of (c := cloneOf cI) SI ⟨by decide, by decide⟩) rfl
  have hv0 : cI.slots[((0 : Int32)).toNatClampNeg]? = some (.int (p2.toInt8.toInt32)) := (HI 0 (by rw [SI]; decide)).trans (congrArg (fun z => some (Value.int z)) (own_b8 p2))
  have hin98 := inb_of SI (j := (0 : Int32)) ⟨by decide, by decide⟩
  have hat98 := hv0
  -- pc 98: the array at b6: open its fact V_b6 (as at a store): Ar : Arr Z T8.heap b6 cl <kind>; hin98 : the place is inside; hat98 : cl.slots[place]? = some (.int (p2.toInt8.toInt32))
  obtain ⟨fs, hr, hrun, hended, hW, hsame⟩ := X8.leave (v := some (.int (1 : Int32))) (fun h => by rw [Bd.returns] at h; cases h)
  refine ⟨_, _, pre0 _ ?_, hrun, hended, _, _, rfl, ?_, ⟨_, rfl⟩, hW, hsame.mono (by decide) (by decide)⟩
  · show Steps p.tables e below (s₁.setTop (mkF m 0 #[.val (.int p1), .val (.int p2), .val (.int p3), .val (.int p4), .val (.int p5), .unset, .unset, .unset] [])) _
    refine XS.iloadN X0.here hx rfl (hb hby at_0) rfl ?_
    show Steps p.tables e below (s₁.setTop (mkF m 1 #[.val (.int p1), .val (.int p2), .val (.int p3), .val (.int p4), .val (.int p5), .unset, .unset, .unset] [(.int p1)])) _
    refine XS.iconst X0.here hx rfl (hb hby at_1) ?_
    show Steps p.tables e below (s₁.setTop (mkF m 2 #[.val (.int p1), .val (.int p2), .val (.int p3), .val (.int p4), .val (.int p5), .unset, .unset, .unset] [(.int (3 : Int32)), (.int p1)])) _
    refine XS.iand X0.here hx rfl (hb hby at_2) rfl ?_
    show Steps p.tables e below (s₁.setTop (mkF m 3 #[.val (.int p1), .val (.int p2), .val (.int p3), .val (.int p4), .val (.int p5), .unset, .unset, .unset] [(.int (p1 &&& (3 : Int32)))])) _
    refine XS.iconst X0.here hx rfl (hb hby at_3) ?_
    show Steps p.tables e below (s₁.setTop (mkF m 4 #[.val (.int p1), .val (.int p2), .val (.int p3), .val (.int p4), .val (.int p5), .unset, .unset, .unset] [(.int (1 : Int32)), (.int (p1 &&& (3 : Int32)))])) _
    refine XS.iadd X0.here hx rfl (hb hby at_4) rfl ?_
    show Steps p.tables e below (s₁.setTop (mkF m 5 #[.val (.int p1), .val (.int p2), .val (.int p3), .val (.int p4), .val (.int p5), .unset, .unset, .unset] [(.int ((p1 &&& (3 : Int32)) + (1 : Int32)))])) _
    refine XS.istore X0.here hx rfl (hb hby at_5) rfl (l' := #[.val (.int p1), .val (.int p2), .val (.int p3), .val (.int p4), .val (.int p5), .val (.int ((p1 &&& (3 : Int32)) + (1 : Int32))), .unset, .unset]) rfl ?_
    show Steps p.tables e below (s₁.setTop (mkF m 7 #[.val (.int p1), .val (.int p2), .val (.int p3), .val (.int p4), .val (.int p5), .val (.int ((p1 &&& (3 : Int32)) + (1 : Int32))), .unset, .unset] [])) _
    rw [en]
    show Steps p.tables e below (s₁.setTop (mkF m 7 #[.val (.int p1), .val (.int p2), .val (.int p3), .val (.int p4), .val (.int p5), .val (.int (1 : Int32)), .unset, .unset] [])) _
    refine XS.iload X0.here hx rfl (hb hby at_7) rfl ?_
    show Steps p.tables e below (s₁.setTop (mkF m 9 #[.val (.int p1), .val (.int p2), .val (.int p3), .val (.int p4), .val (.int p5), .val (.int (1 : Int32)), .unset, .unset] [(.int (1 : Int32))])) _
    refine st6 _ ?_
    show Steps p.tables e below (T6.setTop (mkF m 11 #[.val (.int p1), .val (.int p2), .val (.int p3), .val (.int p4), .val (.int p5), .val (.int (1 : Int32)), .unset, .unset] [(.ref b6)])) _
    refine XS.astore X6.here hx rfl (hb hby at_11) rfl rfl (l' := #[.val (.int p1), .val (.int p2), .val (.int p3), .val (.int p4), .val (.int p5), .val (.int (1 : Int32)), .val (.ref b6), .unset]) rfl ?_
    show Steps p.tables e below (T6.setTop (mkF m 13 #[.val (.int p1), .val (.int p2), .val (.int p3), .val (.int p4), .val (.int p5), .val (.int (1 : Int32)), .val (.ref b6), .unset] [])) _
    refine XS.aload X6.here hx rfl (hb hby at_13) rfl rfl ?_
    show Steps p.tables e below (T6.setTop (mkF m 15 #[.val (.int p1), .val (.int p2), .val (.int p3), .val (.int p4), .val (.int p5), .val (.int (1 : Int32)), .val (.ref b6), .unset] [(.ref b6)])) _
    refine XS.iconst X6.here hx rfl (hb hby at_15) ?_
    show Steps p.tables e below (T6.setTop (mkF m 16 #[.val (.int p1), .val (.int p2), .val (.int p3), .val (.int p4), .val (.int p5), .val (.int (1 : Int32)), .val (.ref b6), .unset] [(.int (0 : Int32)), (.ref b6)])) _
    refine XS.iloadN X6.here hx rfl (hb hby at_16) rfl ?_
    show Steps p.tables e below (T6.setTop (mkF m 17 #[.val (.int p1), .val (.int p2), .val (.int p3), .val (.int p4), .val (.int p5), .val (.int (1 : Int32)), .val (.ref b6), .unset] [(.int p2), (.int (0 : Int32)), (.ref b6)])) _
    refine XS.i2b X6.here hx rfl (hb hby at_17) rfl ?_
    show Steps p.tables e below (T6.setTop (mkF m 18 #[.val (.int p1), .val (.int p2), .val (.int p3), .val (.int p4), .val (.int p5), .val (.int (1 : Int32)), .val (.ref b6), .unset] [(.int (p2.toInt8.toInt32)), (.int (0 : Int32)), (.ref b6)])) _
    refine st7 _ ?_
    show Steps p.tables e below (T7.setTop (mkF m 19 #[.val (.int p1), .val (.int p2), .val (.int p3), .val (.int p4), .val (.int p5), .val (.int (1 : Int32)), .val (.ref b6), .unset] [])) _
    refine XS.iload X7.here hx rfl (hb hby at_19) rfl ?_
    show Steps p.tables e below (T7.setTop (mkF m 21 #[.val (.int p1), .val (.int p2), .val (.int p3), .val (.int p4), .val (.int p5), .val (.int (1 : Int32)), .val (.ref b6), .unset] [(.int (1 : Int32))])) _
    refine XS.iconst X7.here hx rfl (hb hby at_21) ?_
    show Steps p.tables e below (T7.setTop (mkF m 22 #[.val (.int p1), .val (.int p2), .val (.int p3), .val (.int p4), .val (.int p5), .val (.int (1 : Int32)), .val (.ref b6), .unset] [(.int (1 : Int32)), (.int (1 : Int32))])) _
    refine XS.icmpYes X7.here hx rfl (pc0 := 22) (pc' := 31) rfl (hb hby at_22) rfl (flt hc22).2.2.2 (by decide) (by decide) ?_
    show Steps p.tables e below (T7.setTop (mkF m 31 #[.val (.int p1), .val (.int p2), .val (.int p3), .val (.int p4), .val (.int p5), .val (.int (1 : Int32)), .val (.ref b6), .unset] [])) _
    refine XS.iload X7.here hx rfl (hb hby at_31) rfl ?_
    show Steps p.tables e below (T7.setTop (mkF m 33 #[.val (.int p1), .val (.int p2), .val (.int p3), .val (.int p4), .val (.int p5), .val (.int (1 : Int32)), .val (.ref b6), .unset] [(.int (1 : Int32))])) _
    refine XS.iconst X7.here hx rfl (hb hby at_33) ?_
    show Steps p.tables e below (T7.setTop (mkF m 34 #[.val (.int p1), .val (.int p2), .val (.int p3), .val (.int p4), .val (.int p5), .val (.int (1 : Int32)), .val (.ref b6), .unset] [(.int (2 : Int32)), (.int (1 : Int32))])) _
    refine XS.icmpYes X7.here hx rfl (pc0 := 34) (pc' := 43) rfl (hb hby at_34) rfl (flt hc34).2.2.2 (by decide) (by decide) ?_
    show Steps p.tables e below (T7.setTop (mkF m 43 #[.val (.int p1), .val (.int p2), .val (.int p3), .val (.int p4), .val (.int p5), .val (.int (1 : Int32)), .val (.ref b6), .unset] [])) _
    refine XS.iload X7.here hx rfl (hb hby at_43) rfl ?_
    show Steps p.tables e below (T7.setTop (mkF m 45 #[.val (.int p1), .val (.int p2), .val (.int p3), .val (.int p4), .val (.int p5), .val (.int (1 : Int32)), .val (.ref b6), .unset] [(.int (1 : Int32))])) _
    refine XS.iconst X7.here hx rfl (hb hby at_45) ?_
    show Steps p.tables e below (T7.setTop (mkF m 46 #[.val (.int p1), .val (.int p2), .val (.int p3), .val (.int p4), .val (.int p5), .val (.int (1 : Int32)), .val (.ref b6), .unset] [(.int (3 : Int32)), (.int (1 : Int32))])) _
    refine XS.icmpYes X7.here hx rfl (pc0 := 46) (pc' := 56) rfl (hb hby at_46) rfl (flt hc46).2.2.2 (by decide) (by decide) ?_
    show Steps p.tables e below (T7.setTop (mkF m 56 #[.val (.int p1), .val (.int p2), .val (.int p3), .val (.int p4), .val (.int p5), .val (.int (1 : Int32)), .val (.ref b6), .unset] [])) _
    refine XS.aload X7.here hx rfl (hb hby at_56) rfl rfl ?_
    show Steps p.tables e below (T7.setTop (mkF m 58 #[.val (.int p1), .val (.int p2), .val (.int p3), .val (.int p4), .val (.int p5), .val (.int (1 : Int32)), .val (.ref b6), .unset] [(.ref b6)])) _
    refine st8 _ ?_
    show Steps p.tables e below (T8.setTop (mkF m 61 #[.val (.int p1), .val (.int p2), .val (.int p3), .val (.int p4), .val (.int p5), .val (.int (1 : Int32)), .val (.ref b6), .unset] [(.ref bO)])) _
    refine XS.astore X8.here hx rfl (hb hby at_61) rfl rfl (l' := #[.val (.int p1), .val (.int p2), .val (.int p3), .val (.int p4), .val (.int p5), .val (.int (1 : Int32)), .val (.ref b6), .val (.ref bO)]) rfl ?_
    show Steps p.tables e below (T8.setTop (mkF m 63 #[.val (.int p1), .val (.int p2), .val (.int p3), .val (.int p4), .val (.int p5), .val (.int (1 : Int32)), .val (.ref b6), .val (.ref bO)] [])) _
    refine XS.aload X8.here hx rfl (hb hby at_63) rfl rfl ?_
    show Steps p.tables e below (T8.setTop (mkF m 65 #[.val (.int p1), .val (.int p2), .val (.int p3), .val (.int p4), .val (.int p5), .val (.int (1 : Int32)), .val (.ref b6), .val (.ref bO)] [(.ref bO)])) _
    refine XS.ifnullNo X8.here hx rfl (hb hby at_65) rfl ?_
    show Steps p.tables e below (T8.setTop (mkF m 68 #[.val (.int p1), .val (.int p2), .val (.int p3), .val (.int p4), .val (.int p5), .val (.int (1 : Int32)), .val (.ref b6), .val (.ref bO)] [])) _
    refine XS.aload X8.here hx rfl (hb hby at_68) rfl rfl ?_
    show Steps p.tables e below (T8.setTop (mkF m 70 #[.val (.int p1), .val (.int p2), .val (.int p3), .val (.int p4), .val (.int p5), .val (.int (1 : Int32)), .val (.ref b6), .val (.ref bO)] [(.ref bO)])) _
    refine XS.aload X8.here hx rfl (hb hby at_70) rfl rfl ?_
    show Steps p.tables e below (T8.setTop (mkF m 72 #[.val (.int p1), .val (.int p2), .val (.int p3), .val (.int p4), .val (.int p5), .val (.int (1 : Int32)), .val (.ref b6), .val (.ref bO)] [(.ref b6), (.ref bO)])) _
    refine Jvm.RoadKit.acmp (g := (mkF m 72 #[.val (.int p1), .val (.int p2), .val (.int p3), .val (.int p4), .val (.int p5), .val (.int (1 : Int32)), .val (.ref b6), .val (.ref bO)] [(.ref b6), (.ref bO)])) X8 hx rfl rfl rfl (pc0 := 72) (pc' := 75) (same := false) rfl (hb hby at_72) rfl (decide_eq_false fun q => ha72 (Value.ref.inj q)) (by decide) (by decide) ?_
    show Steps p.tables e below (T8.setTop (mkF m 75 #[.val (.int p1), .val (.int p2), .val (.int p3), .val (.int p4), .val (.int p5), .val (.int (1 : Int32)), .val (.ref b6), .val (.ref bO)] [])) _
    refine XS.aload X8.here hx rfl (hb hby at_75) rfl rfl ?_
    show Steps p.tables e below (T8.setTop (mkF m 77 #[.val (.int p1), .val (.int p2), .val (.int p3), .val (.int p4), .val (.int p5), .val (.int (1 : Int32)), .val (.ref b6), .val (.ref bO)] [(.ref bO)])) _
    refine X8.arraylength hx Ar_bO.1 (State.isArrayOf_alike hZ.alike Ar_bO.2.1) (g := (mkF m 77 #[.val (.int p1), .val (.int p2), .val (.int p3), .val (.int p4), .val (.int p5), .val (.int (1 : Int32)), .val (.ref b6), .val (.ref bO)] [(.ref bO)])) rfl rfl (hb hby at_77) _ ?_
    rw [len_of S_bO N_bO]
    show Steps p.tables e below (T8.setTop (mkF m 78 #[.val (.int p1), .val (.int p2), .val (.int p3), .val (.int p4), .val (.int p5), .val (.int (1 : Int32)), .val (.ref b6), .val (.ref bO)] [(.int (1 : Int32))])) _
    refine XS.iload X8.here hx rfl (hb hby at_78) rfl ?_
    show Steps p.tables e below (T8.setTop (mkF m 80 #[.val (.int p1), .val (.int p2), .val (.int p3), .val (.int p4), .val (.int p5), .val (.int (1 : Int32)), .val (.ref b6), .val (.ref bO)] [(.int (1 : Int32)), (.int (1 : Int32))])) _
    refine XS.icmpYes X8.here hx rfl (pc0 := 80) (pc' := 85) rfl (hb hby at_80) rfl (teq hc80).1 (by decide) (by decide) ?_
    show Steps p.tables e below (T8.setTop (mkF m 85 #[.val (.int p1), .val (.int p2), .val (.int p3), .val (.int p4), .val (.int p5), .val (.int (1 : Int32)), .val (.ref b6), .val (.ref bO)] [])) _
    refine XS.aload X8.here hx rfl (hb hby at_85) rfl rfl ?_
    show Steps p.tables e below (T8.setTop (mkF m 87 #[.val (.int p1), .val (.int p2), .val (.int p3), .val (.int p4), .val (.int p5), .val (.int (1 : Int32)), .val (.ref b6), .val (.ref bO)] [(.ref bO)])) _
    refine XS.iconst X8.here hx rfl (hb hby at_87) ?_
    show Steps p.tables e below (T8.setTop (mkF m 88 #[.val (.int p1), .val (.int p2), .val (.int p3), .val (.int p4), .val (.int p5), .val (.int (1 : Int32)), .val (.ref b6), .val (.ref bO)] [(.int (0 : Int32)), (.ref bO)])) _
    refine X8.baloadBytes hx (j := (0 : Int32)) (v := (.int (1 : Int32))) Ar_bO.1 (State.isArrayOf_alike hZ.alike Ar_bO.2.1) Ar_bO.2.2 hin88 hat88 (g := (mkF m 88 #[.val (.int p1), .val (.int p2), .val (.int p3), .val (.int p4), .val (.int p5), .val (.int (1 : Int32)), .val (.ref b6), .val (.ref bO)] [(.int (0 : Int32)), (.ref bO)])) rfl rfl (hb hby at_88) _ ?_
    show Steps p.tables e below (T8.setTop (mkF m 89 #[.val (.int p1), .val (.int p2), .val (.int p3), .val (.int p4), .val (.int p5), .val (.int (1 : Int32)), .val (.ref b6), .val (.ref bO)] [(.int (1 : Int32))])) _
    refine XS.iconst X8.here hx rfl (hb hby at_89) ?_
    show Steps p.tables e below (T8.setTop (mkF m 90 #[.val (.int p1), .val (.int p2), .val (.int p3), .val (.int p4), .val (.int p5), .val (.int (1 : Int32)), .val (.ref b6), .val (.ref bO)] [(.int (1 : Int32)), (.int (1 : Int32))])) _
    refine XS.icmpYes X8.here hx rfl (pc0 := 90) (pc' := 95) rfl (hb hby at_90) rfl (teq hc90).1 (by decide) (by decide) ?_
    show Steps p.tables e below (T8.setTop (mkF m 95 #[.val (.int p1), .val (.int p2), .val (.int p3), .val (.int p4), .val (.int p5), .val (.int (1 : Int32)), .val (.ref b6), .val (.ref bO)] [])) _
    refine XS.aload X8.here hx rfl (hb hby at_95) rfl rfl ?_
    show Steps p.tables e below (T8.setTop (mkF m 97 #[.val (.int p1), .val (.int p2), .val (.int p3), .val (.int p4), .val (.int p5), .val (.int (1 : Int32)), .val (.ref b6), .val (.ref bO)] [(.ref b6)])) _
    refine XS.iconst X8.here hx rfl (hb hby at_97) ?_
    show Steps p.tables e below (T8.setTop (mkF m 98 #[.val (.int p1), .val (.int p2), .val (.int p3), .val (.int p4), .val (.int p5), .val (.int (1 : Int32)), .val (.ref b6), .val (.ref bO)] [(.int (0 : Int32)), (.ref b6)])) _
    refine X8.baloadBytes hx (j := (0 : Int32)) (v := (.int (p2.toInt8.toInt32))) Ar_b6.1 (State.isArrayOf_alike hZ.alike Ar_b6.2.1) Ar_b6.2.2 hin98 hat98 (g := (mkF m 98 #[.val (.int p1), .val (.int p2), .val (.int p3), .val (.int p4), .val (.int p5), .val (.int (1 : Int32)), .val (.ref b6), .val (.ref bO)] [(.int (0 : Int32)), (.ref b6)])) rfl rfl (hb hby at_98) _ ?_
    show Steps p.tables e below (T8.setTop (mkF m 99 #[.val (.int p1), .val (.int p2), .val (.int p3), .val (.int p4), .val (.int p5), .val (.int (1 : Int32)), .val (.ref b6), .val (.ref bO)] [(.int (p2.toInt8.toInt32))])) _
    refine XS.iloadN X8.here hx rfl (hb hby at_99) rfl ?_
    show Steps p.tables e below (T8.setTop (mkF m 100 #[.val (.int p1), .val (.int p2), .val (.int p3), .val (.int p4), .val (.int p5), .val (.int (1 : Int32)), .val (.ref b6), .val (.ref bO)] [(.int p2), (.int (p2.toInt8.toInt32))])) _
    refine XS.i2b X8.here hx rfl (hb hby at_100) rfl ?_
    show Steps p.tables e below (T8.setTop (mkF m 101 #[.val (.int p1), .val (.int p2), .val (.int p3), .val (.int p4), .val (.int p5), .val (.int (1 : Int32)), .val (.ref b6), .val (.ref bO)] [(.int (p2.toInt8.toInt32)), (.int (p2.toInt8.toInt32))])) _
    refine XS.icmpYes X8.here hx rfl (pc0 := 101) (pc' := 106) rfl (hb hby at_101) rfl (teq hc101).1 (by decide) (by decide) ?_
    show Steps p.tables e below (T8.setTop (mkF m 106 #[.val (.int p1), .val (.int p2), .val (.int p3), .val (.int p4), .val (.int p5), .val (.int (1 : Int32)), .val (.ref b6), .val (.ref bO)] [])) _
    refine XS.iload X8.here hx rfl (hb hby at_106) rfl ?_
    show Steps p.tables e below (T8.setTop (mkF m 108 #[.val (.int p1), .val (.int p2), .val (.int p3), .val (.int p4), .val (.int p5), .val (.int (1 : Int32)), .val (.ref b6), .val (.ref bO)] [(.int (1 : Int32))])) _
    refine XS.iconst X8.here hx rfl (hb hby at_108) ?_
    show Steps p.tables e below (T8.setTop (mkF m 109 #[.val (.int p1), .val (.int p2), .val (.int p3), .val (.int p4), .val (.int p5), .val (.int (1 : Int32)), .val (.ref b6), .val (.ref bO)] [(.int (1 : Int32)), (.int (1 : Int32))])) _
    refine XS.icmpYes X8.here hx rfl (pc0 := 109) (pc' := 132) rfl (hb hby at_109) rfl (flt hc109).2.2.2 (by decide) (by decide) ?_
    show Steps p.tables e below (T8.setTop (mkF m 132 #[.val (.int p1), .val (.int p2), .val (.int p3), .val (.int p4), .val (.int p5), .val (.int (1 : Int32)), .val (.ref b6), .val (.ref bO)] [])) _
    refine XS.iload X8.here hx rfl (hb hby at_132) rfl ?_
    show Steps p.tables e below (T8.setTop (mkF m 134 #[.val (.int p1), .val (.int p2), .val (.int p3), .val (.int p4), .val (.int p5), .val (.int (1 : Int32)), .val (.ref b6), .val (.ref bO)] [(.int (1 : Int32))])) _
    refine XS.iconst X8.here hx rfl (hb hby at_134) ?_
    show Steps p.tables e below (T8.setTop (mkF m 135 #[.val (.int p1), .val (.int p2), .val (.int p3), .val (.int p4), .val (.int p5), .val (.int (1 : Int32)), .val (.ref b6), .val (.ref bO)] [(.int (2 : Int32)), (.int (1 : Int32))])) _
    refine XS.icmpYes X8.here hx rfl (pc0 := 135) (pc' := 158) rfl (hb hby at_135) rfl (flt hc135).2.2.2 (by decide) (by decide) ?_
    show Steps p.tables e below (T8.setTop (mkF m 158 #[.val (.int p1), .val (.int p2), .val (.int p3), .val (.int p4), .val (.int p5), .val (.int (1 : Int32)), .val (.ref b6), .val (.ref bO)] [])) _
    refine XS.iload X8.here hx rfl (hb hby at_158) rfl ?_
    show Steps p.tables e below (T8.setTop (mkF m 160 #[.val (.int p1), .val (.int p2), .val (.int p3), .val (.int p4), .val (.int p5), .val (.int (1 : Int32)), .val (.ref b6), .val (.ref bO)] [(.int (1 : Int32))])) _
    refine XS.iconst X8.here hx rfl (hb hby at_160) ?_
    show Steps p.tables e below (T8.setTop (mkF m 161 #[.val (.int p1), .val (.int p2), .val (.int p3), .val (.int p4), .val (.int p5), .val (.int (1 : Int32)), .val (.ref b6), .val (.ref bO)] [(.int (3 : Int32)), (.int (1 : Int32))])) _
    refine XS.icmpYes X8.here hx rfl (pc0 := 161) (pc' := 186) rfl (hb hby at_161) rfl (flt hc161).2.2.2 (by decide) (by decide) ?_
    show Steps p.tables e below (T8.setTop (mkF m 186 #[.val (.int p1), .val (.int p2), .val (.int p3), .val (.int p4), .val (.int p5), .val (.int (1 : Int32)), .val (.ref b6), .val (.ref bO)] [])) _
    refine XS.iconst X8.here hx rfl (hb hby at_186) ?_
    show Steps p.tables e below (T8.setTop (mkF m 187 #[.val (.int p1), .val (.int p2), .val (.int p3), .val (.int p4), .val (.int p5), .val (.int (1 : Int32)), .val (.ref b6), .val (.ref bO)] [(.int (1 : Int32))])) _
    exact retN X8 hx (t := .boolean) Bd.returns (by simp) (hb hby at_187) hr
  · show Q0 Z p1 p2 p3 p4 p5 h0 n0 _ T8.heap _
    exact ⟨rfl, N8⟩
set_option maxRecDepth 65536 in
set_option maxHeartbeats 40000000 in
theorem rm0_2 (l : Launch) (Z : State) (a0 : Array Value) (hw : ∀ d ∈ tables_1, d.before a0 Z = true) (ws : List Jvm.Cond) (p1 : Int32) (p2 : Int32) (p3 : Int32) (p4 : Int32) (p5 : Int32) (h0 : Heap) (n0 : Nat) (Z0 : n0 ≤ h0.size) (en : (p1 &&& (3 : Int32)) + (1 : Int32) = (2 : Int32)) :
    MetFree l x (head1 (Jvm.Cond.code x code maxLocals ret :: ws) room_1) (fun a U => a = #[(.int p1), (.int p2), (.int p3), (.int p4), (.int p5)] ∧ Z.Warmed39 U.vm ∧ U.heap = h0) (fun _ _ _ _ _ => True) (fun _ U o U' => ∃ v L, o = .returned v ∧ Q0 Z p1 p2 p3 p4 p5 h0 n0 v U'.heap L ∧ FrameEnd U o U' L room_1.cells room_1.slots) := by
  refine MetFree.of_bodySF (plainFor_of_name pn_0) hisR ?_
  intro p e s m args below meth c s₁ Bd hml0 hP hK
  obtain ⟨rfl, hZ, hh⟩ := hP
  have hx := Bd.exec
  have hby := Bd.bytes
  have hml : c.maxLocals = 8 := hml0
  have hown : s.vm.findClass "com/example/keyspace/keyspace/storage/KeyCodecRangeDeletionsPrefixPinLaw" = some m.cls := findClass_of_methodNamed Bd.named
  have hnm := (name_of_methodNamed Bd.named Bd.method).1
  have X0 : Stand p l e room_1 s m #[(.int p1), (.int p2), (.int p3), (.int p4), (.int p5)] below meth c s₁ [] 0 0 := Stand.of_body Bd
  have e0 : s₁.heap = h0 := by rw [← hh, Bd.state]; rfl
  have N0 := Fr.nil n0
  have pre0 : ∀ t, Steps p.tables e below (s₁.setTop (mkF m 0 #[.val (.int p1), .val (.int p2), .val (.int p3), .val (.int p4), .val (.int p5), .unset, .unset, .unset] [])) t → Steps p.tables e below (s₁.setTop (entryFrame m #[(.int p1), (.int p2), (.int p3), (.int p4), (.int p5)] maxLocals)) t := fun t k => castTop (ef_0 m p1 p2 p3 p4 p5) k
  have hc22 : (1 : Int32) < (2 : Int32) := by first | rfl | decide
  have hc34 : ¬ ((2 : Int32) < (2 : Int32)) := by first | rfl | decide
  have hc46 : ¬ ((3 : Int32) < (2 : Int32)) := by first | rfl | decide
  have hc80 : (2 : Int32) = (2 : Int32) := by first | rfl | decide
  have hc90 : (1 : Int32) = (1 : Int32) := by first | rfl | decide
  have hc101 : (p2.toInt8.toInt32) = (p2.toInt8.toInt32) := by first | rfl | decide
  have hc109 : (1 : Int32) < (2 : Int32) := by first | rfl | decide
  have hc118 : (p3.toInt8.toInt32) = (p3.toInt8.toInt32) := by first | rfl | decide
  have hc127 : (p3.toInt8.toInt32) = (p3.toInt8.toInt32) := by first | rfl | decide
  have hc135 : ¬ ((2 : Int32) < (2 : Int32)) := by first | rfl | decide
  have hc161 : ¬ ((3 : Int32) < (2 : Int32)) := by first | rfl | decide
  obtain ⟨T6, h6, k6, X6, e6, E6, A6, EB6, st6⟩ := newPE X0 hx hZ (hw _ (List.mem_of_getElem? (i := 0) rfl)) e0 (g := (mkF m 9 #[.val (.int p1), .val (.int p2), .val (.int p3), .val (.int p4), .val (.int p5), .val (.int (2 : Int32)), .unset, .unset] [(.int (2 : Int32))])) rfl (hb hby at_9) rfl (by decide) (cap := 2) (by decide) (by decide) (by decide) (by decide) (ad := "[B") (by decide)
  obtain ⟨b6, g6⟩ : ∃ z, z = h0.size := ⟨_, rfl⟩      -- the fresh array's address
  rw [← g6] at A6 EB6 st6
  have V_b6 : Arv Z h6 b6 k6 .byte (2 : Int32) [(.int (0 : Int32)), (.int (0 : Int32))] (.int (0 : Int32)) := (Arv.new A6 (by decide)).pad (pad_rep [] (.int (0 : Int32)) 2)
  have g_b6 : n0 ≤ b6 := Nat.le_trans Z0 (Nat.le_of_eq g6.symm)
  have sz_b6 : h0.size ≤ b6 := (Nat.le_trans (Keep.refl h0 []).1 (Nat.le_of_eq g6.symm))
  have K6 : Keep h0 h6 [] := (Keep.refl h0 []).ext E6
  obtain ⟨cl_b6_18, Ar_b6, q_b6, S_b6, N_b6, H_b6, G_b6⟩ := V_b6      -- open the array's fact as it stands now (its cell, kind, length, elements)
  have hin18 : ¬ ((0 : Int32) < 0 ∨ cl_b6_18.slots.size ≤ ((0 : Int32)).toNatClampNeg) := inb_of S_b6 ⟨by decide, by decide⟩
  obtain ⟨T7, h7, X7, e7, W7, st7⟩ := stB X6 hx hZ e6 Ar_b6 (j := (0 : Int32)) hin18 (g := (mkF m 18 #[.val (.int p1), .val (.int p2), .val (.int p3), .val (.int p4), .val (.int p5), .val (.int (2 : Int32)), .val (.ref b6), .unset] [(.int (p2.toInt8.toInt32)), (.int (0 : Int32)), (.ref b6)])) rfl rfl (hb hby at_18)
  have V_b6_7 := Arv.set Ar_b6 q_b6 S_b6 N_b6 H_b6 G_b6 (fits_nar_byte _) W7 0 rfl (Nat.le_of_ble_eq_true rfl)      -- the array as it stands now (the place must lie among its first values: Arv.pad with pad_rep lengthens them)
  have K7 : Keep h0 h7 [] := K6.wr W7 (Or.inr sz_b6)
  have N7 := Fr.snoc X7 N0 g_b6
  -- (bastore into a boolean[]: stZ in stB's place)
  obtain ⟨cl_b6_30, Ar_b6, q_b6, S_b6, N_b6, H_b6, G_b6⟩ := V_b6_7      -- open the array's fact as it stands now (its cell, kind, length, elements)
  have hin30 : ¬ ((1 : Int32) < 0 ∨ cl_b6_30.slots.size ≤ ((1 : Int32)).toNatClampNeg) := inb_of S_b6 ⟨by decide, by decide⟩
  obtain ⟨T8, h8, X8, e8, W8, st8⟩ := stB X7 hx hZ e7 Ar_b6 (j := (1 : Int32)) hin30 (g := (mkF m 30 #[.val (.int p1), .val (.int p2), .val (.int p3), .val (.int p4), .val (.int p5), .val (.int (2 : Int32)), .val (.ref b6), .unset] [(.int (p3.toInt8.toInt32)), (.int (1 : Int32)), (.ref b6)])) rfl rfl (hb hby at_30)
  have V_b6_8 := Arv.set Ar_b6 q_b6 S_b6 N_b6 H_b6 G_b6 (fits_nar_byte _) W8 1 rfl (Nat.le_of_ble_eq_true rfl)      -- the array as it stands now (the place must lie among its first values: Arv.pad with pad_rep lengthens them)
  have K8 : Keep h0 h8 [] := K7.wr W8 (Or.inr sz_b6)
  have N8 := Fr.snoc X8 N7 g_b6
  -- (bastore into a boolean[]: stZ in stB's place)
  obtain ⟨cI, ArI, qI, SI, NI, HI, GI⟩ := V_b6_8
  have FC : FitC Z cI := fitC_of ArI fun i hi v hv => by rw [HI i hi] at hv; cases hv; exact GI i hi
  obtain ⟨bO, gO⟩ : ∃ z, z = h8.size := ⟨_, rfl⟩
  have Zs : n0 ≤ h8.size := Nat.le_trans Z0 K8.1
  have ha72 : ¬ (bO = b6) := by rw [gO]; exact (Nat.ne_of_lt ArI.lt).symm
  -- pc 58: com/example/keyspace/keyspace/storage/KeyCodec.rangeDeletionsPrefix by its contract rm1
  obtain ⟨_, _, ⟨T9, L9, k9, n9⟩, -, X9, ⟨Lc9, hQ9, l9, y9, z9⟩, st9⟩ := Jvm.LawKit.callS X8 hx (y := (⟨"com/example/keyspace/keyspace/storage/KeyCodec", "rangeDeletionsPrefix", "([B)[B"⟩ : MethodName)) hown (mvT hZ (hw _ (List.mem_of_getElem? (i := 1) rfl))) (mvT hZ (hw _ (List.mem_of_getElem? (i := 2) rfl))) (mvT hZ (hw _ (List.mem_of_getElem? (i := 3) rfl))) (mvT hZ (hw _ (List.mem_of_getElem? (i := 4) rfl))) (by decide) (backOf (W := 0) (rm1 l Z a0 hw [] b6 cI bO h8 n0 Zs ArI ((EB6.wr W7).wr W8) FC (by rw [SI]; decide) (inb_of SI ⟨by decide, by decide⟩) gO) hZ (hw _ (List.mem_of_getElem? (i := 4) rfl)) (hw _ (List.mem_of_getElem? (i := 3) rfl)) (by decide) (by decide)) (g := (mkF m 58 #[.val (.int p1), .val (.int p2), .val (.int p3), .val (.int p4), .val (.int p5), .val (.int (2 : Int32)), .val (.ref b6), .unset] [(.ref b6)])) rfl (by rw [hml]; rfl) (argsL := [(.ref b6)]) (rest := []) (lenOf pd_0_0 rfl) rfl (by show 2 * 0 + _ ≤ _; exact Nat.le_of_eq rfl) (hb hby at_58) (fun _ _ => ⟨rfl, e8, (by decide : 1 + 1 ≤ _), (by decide : 2 + 4 ≤ _)⟩)
  dsimp only [Pt.U, Pt.locs, Pt.cells, Pt.slots] at X9 l9 y9 z9 st9 hQ9
  subst l9 y9 z9
  obtain ⟨rfl, N9q, K9, Ar_bO⟩ := hQ9      -- what it returned, that it wrote nothing old, and the rest of your Q1
  have N9 := Fr.app N8 N9q
  have S_bO : ((cloneOf cI).setSlot ((0 : Int32)).toNatClampNeg (.int (nar .byte (1 : Int32)))).slots.size = (2 : Int32).toNatClampNeg := by rw [sz_set]; exact SI
  have N_bO : ¬ (2 : Int32) < 0 := by decide
  have Ar_b6 : Arr Z T9.heap b6 cI .byte := ⟨K9.2.1 b6 cI ArI.1 (by simp), ArI.2⟩
  have hin88 := inb_of S_bO (j := (0 : Int32)) ⟨by decide, by decide⟩
  have hat88 : ((cloneOf cI).setSlot ((0 : Int32)).toNatClampNeg (.int (nar .byte (1 : Int32)))).slots[((0 : Int32)).toNatClampNeg]? = some (.int (1 : Int32)) := get_hit (c := cloneOf cI) (j := (0 : Int32)) (inb_of (c := cloneOf cI) SI ⟨by decide, by decide⟩) rfl
  have hv0 : cI.slots[((0 : Int32)).toNatClampNeg]? = some (.int (p2.toInt8.toInt32)) := (HI 0 (by rw [SI]; decide)).trans (congrArg (fun z => some (Value.int z)) (own_b8 p2))
  have hin98 := inb_of SI (j := (0 : Int32)) ⟨by decide, by decide⟩
  have hat98 := hv0
  have hv1 : cI.slots[((1 : Int32)).toNatClampNeg]? = some (.int (p3.toInt8.toInt32)) := (HI 1 (by rw [SI]; decide)).trans (congrArg (fun z => some (Value.int z)) (own_b8 p3))
  have hin124 := inb_of SI (j := (1 : Int32)) ⟨by decide, by decide⟩
  have hat124 := hv1
  have hin115 := inb_of S_bO (j := (1 : Int32)) ⟨by decide, by decide⟩
  have hat115 : ((cloneOf cI).setSlot ((0 : Int32)).toNatClampNeg (.int (nar .byte (1 : Int32)))).slots[((1 : Int32)).toNatClampNeg]? = some (.int (p3.toInt8.toInt32)) := (get_miss (c := cloneOf cI) (j := (0 : Int32)) (k := (1 : Int32)) (by decide) (by decide) (by decide)).trans hv1
  -- pc 98: the array at b6: open its fact V_b6 (as at a store): Ar : Arr Z T9.heap b6 cl <kind>; hin98 : the place is inside; hat98 : cl.slots[place]? = some (.int (p2.toInt8.toInt32))
  -- pc 124: the array at b6: open its fact V_b6 (as at a store): Ar : Arr Z T9.heap b6 cl <kind>; hin124 : the place is inside; hat124 : cl.slots[place]? = some (.int (p3.toInt8.toInt32))
  obtain ⟨fs, hr, hrun, hended, hW, hsame⟩ := X9.leave (v := some (.int (1 : Int32))) (fun h => by rw [Bd.returns] at h; cases h)
  refine ⟨_, _, pre0 _ ?_, hrun, hended, _, _, rfl, ?_, ⟨_, rfl⟩, hW, hsame.mono (by decide) (by decide)⟩
  · show Steps p.tables e below (s₁.setTop (mkF m 0 #[.val (.int p1), .val (.int p2), .val (.int p3), .val (.int p4), .val (.int p5), .unset, .unset, .unset] [])) _
    refine XS.iloadN X0.here hx rfl (hb hby at_0) rfl ?_
    show Steps p.tables e below (s₁.setTop (mkF m 1 #[.val (.int p1), .val (.int p2), .val (.int p3), .val (.int p4), .val (.int p5), .unset, .unset, .unset] [(.int p1)])) _
    refine XS.iconst X0.here hx rfl (hb hby at_1) ?_
    show Steps p.tables e below (s₁.setTop (mkF m 2 #[.val (.int p1), .val (.int p2), .val (.int p3), .val (.int p4), .val (.int p5), .unset, .unset, .unset] [(.int (3 : Int32)), (.int p1)])) _
    refine XS.iand X0.here hx rfl (hb hby at_2) rfl ?_
    show Steps p.tables e below (s₁.setTop (mkF m 3 #[.val (.int p1), .val (.int p2), .val (.int p3), .val (.int p4), .val (.int p5), .unset, .unset, .unset] [(.int (p1 &&& (3 : Int32)))])) _
    refine XS.iconst X0.here hx rfl (hb hby at_3) ?_
    show Steps p.tables e below (s₁.setTop (mkF m 4 #[.val (.int p1), .val (.int p2), .val (.int p3), .val (.int p4), .val (.int p5), .unset, .unset, .unset] [(.int (1 : Int32)), (.int (p1 &&& (3 : Int32)))])) _
    refine XS.iadd X0.here hx rfl (hb hby at_4) rfl ?_
    show Steps p.tables e below (s₁.setTop (mkF m 5 #[.val (.int p1), .val (.int p2), .val (.int p3), .val (.int p4), .val (.int p5), .unset, .unset, .unset] [(.int ((p1 &&& (3 : Int32)) + (1 : Int32)))])) _
    refine XS.istore X0.here hx rfl (hb hby at_5) rfl (l' := #[.val (.int p1), .val (.int p2), .val (.int p3), .val (.int p4), .val (.int p5), .val (.int ((p1 &&& (3 : Int32)) + (1 : Int32))), .unset, .unset]) rfl ?_
    show Steps p.tables e below (s₁.setTop (mkF m 7 #[.val (.int p1), .val (.int p2), .val (.int p3), .val (.int p4), .val (.int p5), .val (.int ((p1 &&& (3 : Int32)) + (1 : Int32))), .unset, .unset] [])) _
    rw [en]
    show Steps p.tables e below (s₁.setTop (mkF m 7 #[.val (.int p1), .val (.int p2), .val (.int p3), .val (.int p4), .val (.int p5), .val (.int (2 : Int32)), .unset, .unset] [])) _
    refine XS.iload X0.here hx rfl (hb hby at_7) rfl ?_
    show Steps p.tables e below (s₁.setTop (mkF m 9 #[.val (.int p1), .val (.int p2), .val (.int p3), .val (.int p4), .val (.int p5), .val (.int (2 : Int32)), .unset, .unset] [(.int (2 : Int32))])) _
    refine st6 _ ?_
    show Steps p.tables e below (T6.setTop (mkF m 11 #[.val (.int p1), .val (.int p2), .val (.int p3), .val (.int p4), .val (.int p5), .val (.int (2 : Int32)), .unset, .unset] [(.ref b6)])) _
    refine XS.astore X6.here hx rfl (hb hby at_11) rfl rfl (l' := #[.val (.int p1), .val (.int p2), .val (.int p3), .val (.int p4), .val (.int p5), .val (.int (2 : Int32)), .val (.ref b6), .unset]) rfl ?_
    show Steps p.tables e below (T6.setTop (mkF m 13 #[.val (.int p1), .val (.int p2), .val (.int p3), .val (.int p4), .val (.int p5), .val (.int (2 : Int32)), .val (.ref b6), .unset] [])) _
    refine XS.aload X6.here hx rfl (hb hby at_13) rfl rfl ?_
    show Steps p.tables e below (T6.setTop (mkF m 15 #[.val (.int p1), .val (.int p2), .val (.int p3), .val (.int p4), .val (.int p5), .val (.int (2 : Int32)), .val (.ref b6), .unset] [(.ref b6)])) _
    refine XS.iconst X6.here hx rfl (hb hby at_15) ?_
    show Steps p.tables e below (T6.setTop (mkF m 16 #[.val (.int p1), .val (.int p2), .val (.int p3), .val (.int p4), .val (.int p5), .val (.int (2 : Int32)), .val (.ref b6), .unset] [(.int (0 : Int32)), (.ref b6)])) _
    refine XS.iloadN X6.here hx rfl (hb hby at_16) rfl ?_
    show Steps p.tables e below (T6.setTop (mkF m 17 #[.val (.int p1), .val (.int p2), .val (.int p3), .val (.int p4), .val (.int p5), .val (.int (2 : Int32)), .val (.ref b6), .unset] [(.int p2), (.int (0 : Int32)), (.ref b6)])) _
    refine XS.i2b X6.here hx rfl (hb hby at_17) rfl ?_
    show Steps p.tables e below (T6.setTop (mkF m 18 #[.val (.int p1), .val (.int p2), .val (.int p3), .val (.int p4), .val (.int p5), .val (.int (2 : Int32)), .val (.ref b6), .unset] [(.int (p2.toInt8.toInt32)), (.int (0 : Int32)), (.ref b6)])) _
    refine st7 _ ?_
    show Steps p.tables e below (T7.setTop (mkF m 19 #[.val (.int p1), .val (.int p2), .val (.int p3), .val (.int p4), .val (.int p5), .val (.int (2 : Int32)), .val (.ref b6), .unset] [])) _
    refine XS.iload X7.here hx rfl (hb hby at_19) rfl ?_
    show Steps p.tables e below (T7.setTop (mkF m 21 #[.val (.int p1), .val (.int p2), .val (.int p3), .val (.int p4), .val (.int p5), .val (.int (2 : Int32)), .val (.ref b6), .unset] [(.int (2 : Int32))])) _
    refine XS.iconst X7.here hx rfl (hb hby at_21) ?_
    show Steps p.tables e below (T7.setTop (mkF m 22 #[.val (.int p1), .val (.int p2), .val (.int p3), .val (.int p4), .val (.int p5), .val (.int (2 : Int32)), .val (.ref b6), .unset] [(.int (1 : Int32)), (.int (2 : Int32))])) _
    refine XS.icmpNo X7.here hx rfl (hb hby at_22) rfl (tlt hc22).2.2.2 ?_
    show Steps p.tables e below (T7.setTop (mkF m 25 #[.val (.int p1), .val (.int p2), .val (.int p3), .val (.int p4), .val (.int p5), .val (.int (2 : Int32)), .val (.ref b6), .unset] [])) _
    refine XS.aload X7.here hx rfl (hb hby at_25) rfl rfl ?_
    show Steps p.tables e below (T7.setTop (mkF m 27 #[.val (.int p1), .val (.int p2), .val (.int p3), .val (.int p4), .val (.int p5), .val (.int (2 : Int32)), .val (.ref b6), .unset] [(.ref b6)])) _
    refine XS.iconst X7.here hx rfl (hb hby at_27) ?_
    show Steps p.tables e below (T7.setTop (mkF m 28 #[.val (.int p1), .val (.int p2), .val (.int p3), .val (.int p4), .val (.int p5), .val (.int (2 : Int32)), .val (.ref b6), .unset] [(.int (1 : Int32)), (.ref b6)])) _
    refine XS.iloadN X7.here hx rfl (hb hby at_28) rfl ?_
    show Steps p.tables e below (T7.setTop (mkF m 29 #[.val (.int p1), .val (.int p2), .val (.int p3), .val (.int p4), .val (.int p5), .val (.int (2 : Int32)), .val (.ref b6), .unset] [(.int p3), (.int (1 : Int32)), (.ref b6)])) _
    refine XS.i2b X7.here hx rfl (hb hby at_29) rfl ?_
    show Steps p.tables e below (T7.setTop (mkF m 30 #[.val (.int p1), .val (.int p2), .val (.int p3), .val (.int p4), .val (.int p5), .val (.int (2 : Int32)), .val (.ref b6), .unset] [(.int (p3.toInt8.toInt32)), (.int (1 : Int32)), (.ref b6)])) _
    refine st8 _ ?_
    show Steps p.tables e below (T8.setTop (mkF m 31 #[.val (.int p1), .val (.int p2), .val (.int p3), .val (.int p4), .val (.int p5), .val (.int (2 : Int32)), .val (.ref b6), .unset] [])) _
    refine XS.iload X8.here hx rfl (hb hby at_31) rfl ?_
    show Steps p.tables e below (T8.setTop (mkF m 33 #[.val (.int p1), .val (.int p2), .val (.int p3), .val (.int p4), .val (.int p5), .val (.int (2 : Int32)), .val (.ref b6), .unset] [(.int (2 : Int32))])) _
    refine XS.iconst X8.here hx rfl (hb hby at_33) ?_
    show Steps p.tables e below (T8.setTop (mkF m 34 #[.val (.int p1), .val (.int p2), .val (.int p3), .val (.int p4), .val (.int p5), .val (.int (2 : Int32)), .val (.ref b6), .unset] [(.int (2 : Int32)), (.int (2 : Int32))])) _
    refine XS.icmpYes X8.here hx rfl (pc0 := 34) (pc' := 43) rfl (hb hby at_34) rfl (flt hc34).2.2.2 (by decide) (by decide) ?_
    show Steps p.tables e below (T8.setTop (mkF m 43 #[.val (.int p1), .val (.int p2), .val (.int p3), .val (.int p4), .val (.int p5), .val (.int (2 : Int32)), .val (.ref b6), .unset] [])) _
    refine XS.iload X8.here hx rfl (hb hby at_43) rfl ?_
    show Steps p.tables e below (T8.setTop (mkF m 45 #[.val (.int p1), .val (.int p2), .val (.int p3), .val (.int p4), .val (.int p5), .val (.int (2 : Int32)), .val (.ref b6), .unset] [(.int (2 : Int32))])) _
    refine XS.iconst X8.here hx rfl (hb hby at_45) ?_
    show Steps p.tables e below (T8.setTop (mkF m 46 #[.val (.int p1), .val (.int p2), .val (.int p3), .val (.int p4), .val (.int p5), .val (.int (2 : Int32)), .val (.ref b6), .unset] [(.int (3 : Int32)), (.int (2 : Int32))])) _
    refine XS.icmpYes X8.here hx rfl (pc0 := 46) (pc' := 56) rfl (hb hby at_46) rfl (flt hc46).2.2.2 (by decide) (by decide) ?_
    show Steps p.tables e below (T8.setTop (mkF m 56 #[.val (.int p1), .val (.int p2), .val (.int p3), .val (.int p4), .val (.int p5), .val (.int (2 : Int32)), .val (.ref b6), .unset] [])) _
    refine XS.aload X8.here hx rfl (hb hby at_56) rfl rfl ?_
    show Steps p.tables e below (T8.setTop (mkF m 58 #[.val (.int p1), .val (.int p2), .val (.int p3), .val (.int p4), .val (.int p5), .val (.int (2 : Int32)), .val (.ref b6), .unset] [(.ref b6)])) _
    refine st9 _ ?_
    show Steps p.tables e below (T9.setTop (mkF m 61 #[.val (.int p1), .val (.int p2), .val (.int p3), .val (.int p4), .val (.int p5), .val (.int (2 : Int32)), .val (.ref b6), .unset] [(.ref bO)])) _
    refine XS.astore X9.here hx rfl (hb hby at_61) rfl rfl (l' := #[.val (.int p1), .val (.int p2), .val (.int p3), .val (.int p4), .val (.int p5), .val (.int (2 : Int32)), .val (.ref b6), .val (.ref bO)]) rfl ?_
    show Steps p.tables e below (T9.setTop (mkF m 63 #[.val (.int p1), .val (.int p2), .val (.int p3), .val (.int p4), .val (.int p5), .val (.int (2 : Int32)), .val (.ref b6), .val (.ref bO)] [])) _
    refine XS.aload X9.here hx rfl (hb hby at_63) rfl rfl ?_
    show Steps p.tables e below (T9.setTop (mkF m 65 #[.val (.int p1), .val (.int p2), .val (.int p3), .val (.int p4), .val (.int p5), .val (.int (2 : Int32)), .val (.ref b6), .val (.ref bO)] [(.ref bO)])) _
    refine XS.ifnullNo X9.here hx rfl (hb hby at_65) rfl ?_
    show Steps p.tables e below (T9.setTop (mkF m 68 #[.val (.int p1), .val (.int p2), .val (.int p3), .val (.int p4), .val (.int p5), .val (.int (2 : Int32)), .val (.ref b6), .val (.ref bO)] [])) _
    refine XS.aload X9.here hx rfl (hb hby at_68) rfl rfl ?_
    show Steps p.tables e below (T9.setTop (mkF m 70 #[.val (.int p1), .val (.int p2), .val (.int p3), .val (.int p4), .val (.int p5), .val (.int (2 : Int32)), .val (.ref b6), .val (.ref bO)] [(.ref bO)])) _
    refine XS.aload X9.here hx rfl (hb hby at_70) rfl rfl ?_
    show Steps p.tables e below (T9.setTop (mkF m 72 #[.val (.int p1), .val (.int p2), .val (.int p3), .val (.int p4), .val (.int p5), .val (.int (2 : Int32)), .val (.ref b6), .val (.ref bO)] [(.ref b6), (.ref bO)])) _
    refine Jvm.RoadKit.acmp (g := (mkF m 72 #[.val (.int p1), .val (.int p2), .val (.int p3), .val (.int p4), .val (.int p5), .val (.int (2 : Int32)), .val (.ref b6), .val (.ref bO)] [(.ref b6), (.ref bO)])) X9 hx rfl rfl rfl (pc0 := 72) (pc' := 75) (same := false) rfl (hb hby at_72) rfl (decide_eq_false fun q => ha72 (Value.ref.inj q)) (by decide) (by decide) ?_
    show Steps p.tables e below (T9.setTop (mkF m 75 #[.val (.int p1), .val (.int p2), .val (.int p3), .val (.int p4), .val (.int p5), .val (.int (2 : Int32)), .val (.ref b6), .val (.ref bO)] [])) _
    refine XS.aload X9.here hx rfl (hb hby at_75) rfl rfl ?_
    show Steps p.tables e below (T9.setTop (mkF m 77 #[.val (.int p1), .val (.int p2), .val (.int p3), .val (.int p4), .val (.int p5), .val (.int (2 : Int32)), .val (.ref b6), .val (.ref bO)] [(.ref bO)])) _
    refine X9.arraylength hx Ar_bO.1 (State.isArrayOf_alike hZ.alike Ar_bO.2.1) (g := (mkF m 77 #[.val (.int p1), .val (.int p2), .val (.int p3), .val (.int p4), .val (.int p5), .val (.int (2 : Int32)), .val (.ref b6), .val (.ref bO)] [(.ref bO)])) rfl rfl (hb hby at_77) _ ?_
    rw [len_of S_bO N_bO]
    show Steps p.tables e below (T9.setTop (mkF m 78 #[.val (.int p1), .val (.int p2), .val (.int p3), .val (.int p4), .val (.int p5), .val (.int (2 : Int32)), .val (.ref b6), .val (.ref bO)] [(.int (2 : Int32))])) _
    refine XS.iload X9.here hx rfl (hb hby at_78) rfl ?_
    show Steps p.tables e below (T9.setTop (mkF m 80 #[.val (.int p1), .val (.int p2), .val (.int p3), .val (.int p4), .val (.int p5), .val (.int (2 : Int32)), .val (.ref b6), .val (.ref bO)] [(.int (2 : Int32)), (.int (2 : Int32))])) _
    refine XS.icmpYes X9.here hx rfl (pc0 := 80) (pc' := 85) rfl (hb hby at_80) rfl (teq hc80).1 (by decide) (by decide) ?_
    show Steps p.tables e below (T9.setTop (mkF m 85 #[.val (.int p1), .val (.int p2), .val (.int p3), .val (.int p4), .val (.int p5), .val (.int (2 : Int32)), .val (.ref b6), .val (.ref bO)] [])) _
    refine XS.aload X9.here hx rfl (hb hby at_85) rfl rfl ?_
    show Steps p.tables e below (T9.setTop (mkF m 87 #[.val (.int p1), .val (.int p2), .val (.int p3), .val (.int p4), .val (.int p5), .val (.int (2 : Int32)), .val (.ref b6), .val (.ref bO)] [(.ref bO)])) _
    refine XS.iconst X9.here hx rfl (hb hby at_87) ?_
    show Steps p.tables e below (T9.setTop (mkF m 88 #[.val (.int p1), .val (.int p2), .val (.int p3), .val (.int p4), .val (.int p5), .val (.int (2 : Int32)), .val (.ref b6), .val (.ref bO)] [(.int (0 : Int32)), (.ref bO)])) _
    refine X9.baloadBytes hx (j := (0 : Int32)) (v := (.int (1 : Int32))) Ar_bO.1 (State.isArrayOf_alike hZ.alike Ar_bO.2.1) Ar_bO.2.2 hin88 hat88 (g := (mkF m 88 #[.val (.int p1), .val (.int p2), .val (.int p3), .val (.int p4), .val (.int p5), .val (.int (2 : Int32)), .val (.ref b6), .val (.ref bO)] [(.int (0 : Int32)), (.ref bO)])) rfl rfl (hb hby at_88) _ ?_
    show Steps p.tables e below (T9.setTop (mkF m 89 #[.val (.int p1), .val (.int p2), .val (.int p3), .val (.int p4), .val (.int p5), .val (.int (2 : Int32)), .val (.ref b6), .val (.ref bO)] [(.int (1 : Int32))])) _
    refine XS.iconst X9.here hx rfl (hb hby at_89) ?_
    show Steps p.tables e below (T9.setTop (mkF m 90 #[.val (.int p1), .val (.int p2), .val (.int p3), .val (.int p4), .val (.int p5), .val (.int (2 : Int32)), .val (.ref b6), .val (.ref bO)] [(.int (1 : Int32)), (.int (1 : Int32))])) _
    refine XS.icmpYes X9.here hx rfl (pc0 := 90) (pc' := 95) rfl (hb hby at_90) rfl (teq hc90).1 (by decide) (by decide) ?_
    show Steps p.tables e below (T9.setTop (mkF m 95 #[.val (.int p1), .val (.int p2), .val (.int p3), .val (.int p4), .val (.int p5), .val (.int (2 : Int32)), .val (.ref b6), .val (.ref bO)] [])) _
    refine XS.aload X9.here hx rfl (hb hby at_95) rfl rfl ?_
    show Steps p.tables e below (T9.setTop (mkF m 97 #[.val (.int p1), .val (.int p2), .val (.int p3), .val (.int p4), .val (.int p5), .val (.int (2 : Int32)), .val (.ref b6), .val (.ref bO)] [(.ref b6)])) _
    refine XS.iconst X9.here hx rfl (hb hby at_97) ?_
    show Steps p.tables e below (T9.setTop (mkF m 98 #[.val (.int p1), .val (.int p2), .val (.int p3), .val (.int p4), .val (.int p5), .val (.int (2 : Int32)), .val (.ref b6), .val (.ref bO)] [(.int (0 : Int32)), (.ref b6)])) _
    refine X9.baloadBytes hx (j := (0 : Int32)) (v := (.int (p2.toInt8.toInt32))) Ar_b6.1 (State.isArrayOf_alike hZ.alike Ar_b6.2.1) Ar_b6.2.2 hin98 hat98 (g := (mkF m 98 #[.val (.int p1), .val (.int p2), .val (.int p3), .val (.int p4), .val (.int p5), .val (.int (2 : Int32)), .val (.ref b6), .val (.ref bO)] [(.int (0 : Int32)), (.ref b6)])) rfl rfl (hb hby at_98) _ ?_
    show Steps p.tables e below (T9.setTop (mkF m 99 #[.val (.int p1), .val (.int p2), .val (.int p3), .val (.int p4), .val (.int p5), .val (.int (2 : Int32)), .val (.ref b6), .val (.ref bO)] [(.int (p2.toInt8.toInt32))])) _
    refine XS.iloadN X9.here hx rfl (hb hby at_99) rfl ?_
    show Steps p.tables e below (T9.setTop (mkF m 100 #[.val (.int p1), .val (.int p2), .val (.int p3), .val (.int p4), .val (.int p5), .val (.int (2 : Int32)), .val (.ref b6), .val (.ref bO)] [(.int p2), (.int (p2.toInt8.toInt32))])) _
    refine XS.i2b X9.here hx rfl (hb hby at_100) rfl ?_
    show Steps p.tables e below (T9.setTop (mkF m 101 #[.val (.int p1), .val (.int p2), .val (.int p3), .val (.int p4), .val (.int p5), .val (.int (2 : Int32)), .val (.ref b6), .val (.ref bO)] [(.int (p2.toInt8.toInt32)), (.int (p2.toInt8.toInt32))])) _
    refine XS.icmpYes X9.here hx rfl (pc0 := 101) (pc' := 106) rfl (hb hby at_101) rfl (teq hc101).1 (by decide) (by decide) ?_
    show Steps p.tables e below (T9.setTop (mkF m 106 #[.val (.int p1), .val (.int p2), .val (.int p3), .val (.int p4), .val (.int p5), .val (.int (2 : Int32)), .val (.ref b6), .val (.ref bO)] [])) _
    refine XS.iload X9.here hx rfl (hb hby at_106) rfl ?_
    show Steps p.tables e below (T9.setTop (mkF m 108 #[.val (.int p1), .val (.int p2), .val (.int p3), .val (.int p4), .val (.int p5), .val (.int (2 : Int32)), .val (.ref b6), .val (.ref bO)] [(.int (2 : Int32))])) _
    refine XS.iconst X9.here hx rfl (hb hby at_108) ?_
    show Steps p.tables e below (T9.setTop (mkF m 109 #[.val (.int p1), .val (.int p2), .val (.int p3), .val (.int p4), .val (.int p5), .val (.int (2 : Int32)), .val (.ref b6), .val (.ref bO)] [(.int (1 : Int32)), (.int (2 : Int32))])) _
    refine XS.icmpNo X9.here hx rfl (hb hby at_109) rfl (tlt hc109).2.2.2 ?_
    show Steps p.tables e below (T9.setTop (mkF m 112 #[.val (.int p1), .val (.int p2), .val (.int p3), .val (.int p4), .val (.int p5), .val (.int (2 : Int32)), .val (.ref b6), .val (.ref bO)] [])) _
    refine XS.aload X9.here hx rfl (hb hby at_112) rfl rfl ?_
    show Steps p.tables e below (T9.setTop (mkF m 114 #[.val (.int p1), .val (.int p2), .val (.int p3), .val (.int p4), .val (.int p5), .val (.int (2 : Int32)), .val (.ref b6), .val (.ref bO)] [(.ref bO)])) _
    refine XS.iconst X9.here hx rfl (hb hby at_114) ?_
    show Steps p.tables e below (T9.setTop (mkF m 115 #[.val (.int p1), .val (.int p2), .val (.int p3), .val (.int p4), .val (.int p5), .val (.int (2 : Int32)), .val (.ref b6), .val (.ref bO)] [(.int (1 : Int32)), (.ref bO)])) _
    refine X9.baloadBytes hx (j := (1 : Int32)) (v := (.int (p3.toInt8.toInt32))) Ar_bO.1 (State.isArrayOf_alike hZ.alike Ar_bO.2.1) Ar_bO.2.2 hin115 hat115 (g := (mkF m 115 #[.val (.int p1), .val (.int p2), .val (.int p3), .val (.int p4), .val (.int p5), .val (.int (2 : Int32)), .val (.ref b6), .val (.ref bO)] [(.int (1 : Int32)), (.ref bO)])) rfl rfl (hb hby at_115) _ ?_
    show Steps p.tables e below (T9.setTop (mkF m 116 #[.val (.int p1), .val (.int p2), .val (.int p3), .val (.int p4), .val (.int p5), .val (.int (2 : Int32)), .val (.ref b6), .val (.ref bO)] [(.int (p3.toInt8.toInt32))])) _
    refine XS.iloadN X9.here hx rfl (hb hby at_116) rfl ?_
    show Steps p.tables e below (T9.setTop (mkF m 117 #[.val (.int p1), .val (.int p2), .val (.int p3), .val (.int p4), .val (.int p5), .val (.int (2 : Int32)), .val (.ref b6), .val (.ref bO)] [(.int p3), (.int (p3.toInt8.toInt32))])) _
    refine XS.i2b X9.here hx rfl (hb hby at_117) rfl ?_
    show Steps p.tables e below (T9.setTop (mkF m 118 #[.val (.int p1), .val (.int p2), .val (.int p3), .val (.int p4), .val (.int p5), .val (.int (2 : Int32)), .val (.ref b6), .val (.ref bO)] [(.int (p3.toInt8.toInt32)), (.int (p3.toInt8.toInt32))])) _
    refine XS.icmpNo X9.here hx rfl (hb hby at_118) rfl (teq hc118).2 ?_
    show Steps p.tables e below (T9.setTop (mkF m 121 #[.val (.int p1), .val (.int p2), .val (.int p3), .val (.int p4), .val (.int p5), .val (.int (2 : Int32)), .val (.ref b6), .val (.ref bO)] [])) _
    refine XS.aload X9.here hx rfl (hb hby at_121) rfl rfl ?_
    show Steps p.tables e below (T9.setTop (mkF m 123 #[.val (.int p1), .val (.int p2), .val (.int p3), .val (.int p4), .val (.int p5), .val (.int (2 : Int32)), .val (.ref b6), .val (.ref bO)] [(.ref b6)])) _
    refine XS.iconst X9.here hx rfl (hb hby at_123) ?_
    show Steps p.tables e below (T9.setTop (mkF m 124 #[.val (.int p1), .val (.int p2), .val (.int p3), .val (.int p4), .val (.int p5), .val (.int (2 : Int32)), .val (.ref b6), .val (.ref bO)] [(.int (1 : Int32)), (.ref b6)])) _
    refine X9.baloadBytes hx (j := (1 : Int32)) (v := (.int (p3.toInt8.toInt32))) Ar_b6.1 (State.isArrayOf_alike hZ.alike Ar_b6.2.1) Ar_b6.2.2 hin124 hat124 (g := (mkF m 124 #[.val (.int p1), .val (.int p2), .val (.int p3), .val (.int p4), .val (.int p5), .val (.int (2 : Int32)), .val (.ref b6), .val (.ref bO)] [(.int (1 : Int32)), (.ref b6)])) rfl rfl (hb hby at_124) _ ?_
    show Steps p.tables e below (T9.setTop (mkF m 125 #[.val (.int p1), .val (.int p2), .val (.int p3), .val (.int p4), .val (.int p5), .val (.int (2 : Int32)), .val (.ref b6), .val (.ref bO)] [(.int (p3.toInt8.toInt32))])) _
    refine XS.iloadN X9.here hx rfl (hb hby at_125) rfl ?_
    show Steps p.tables e below (T9.setTop (mkF m 126 #[.val (.int p1), .val (.int p2), .val (.int p3), .val (.int p4), .val (.int p5), .val (.int (2 : Int32)), .val (.ref b6), .val (.ref bO)] [(.int p3), (.int (p3.toInt8.toInt32))])) _
    refine XS.i2b X9.here hx rfl (hb hby at_126) rfl ?_
    show Steps p.tables e below (T9.setTop (mkF m 127 #[.val (.int p1), .val (.int p2), .val (.int p3), .val (.int p4), .val (.int p5), .val (.int (2 : Int32)), .val (.ref b6), .val (.ref bO)] [(.int (p3.toInt8.toInt32)), (.int (p3.toInt8.toInt32))])) _
    refine XS.icmpYes X9.here hx rfl (pc0 := 127) (pc' := 132) rfl (hb hby at_127) rfl (teq hc127).1 (by decide) (by decide) ?_
    show Steps p.tables e below (T9.setTop (mkF m 132 #[.val (.int p1), .val (.int p2), .val (.int p3), .val (.int p4), .val (.int p5), .val (.int (2 : Int32)), .val (.ref b6), .val (.ref bO)] [])) _
    refine XS.iload X9.here hx rfl (hb hby at_132) rfl ?_
    show Steps p.tables e below (T9.setTop (mkF m 134 #[.val (.int p1), .val (.int p2), .val (.int p3), .val (.int p4), .val (.int p5), .val (.int (2 : Int32)), .val (.ref b6), .val (.ref bO)] [(.int (2 : Int32))])) _
    refine XS.iconst X9.here hx rfl (hb hby at_134) ?_
    show Steps p.tables e below (T9.setTop (mkF m 135 #[.val (.int p1), .val (.int p2), .val (.int p3), .val (.int p4), .val (.int p5), .val (.int (2 : Int32)), .val (.ref b6), .val (.ref bO)] [(.int (2 : Int32)), (.int (2 : Int32))])) _
    refine XS.icmpYes X9.here hx rfl (pc0 := 135) (pc' := 158) rfl (hb hby at_135) rfl (flt hc135).2.2.2 (by decide) (by decide) ?_
    show Steps p.tables e below (T9.setTop (mkF m 158 #[.val (.int p1), .val (.int p2), .val (.int p3), .val (.int p4), .val (.int p5), .val (.int (2 : Int32)), .val (.ref b6), .val (.ref bO)] [])) _
    refine XS.iload X9.here hx rfl (hb hby at_158) rfl ?_
    show Steps p.tables e below (T9.setTop (mkF m 160 #[.val (.int p1), .val (.int p2), .val (.int p3), .val (.int p4), .val (.int p5), .val (.int (2 : Int32)), .val (.ref b6), .val (.ref bO)] [(.int (2 : Int32))])) _
    refine XS.iconst X9.here hx rfl (hb hby at_160) ?_
    show Steps p.tables e below (T9.setTop (mkF m 161 #[.val (.int p1), .val (.int p2), .val (.int p3), .val (.int p4), .val (.int p5), .val (.int (2 : Int32)), .val (.ref b6), .val (.ref bO)] [(.int (3 : Int32)), (.int (2 : Int32))])) _
    refine XS.icmpYes X9.here hx rfl (pc0 := 161) (pc' := 186) rfl (hb hby at_161) rfl (flt hc161).2.2.2 (by decide) (by decide) ?_
    show Steps p.tables e below (T9.setTop (mkF m 186 #[.val (.int p1), .val (.int p2), .val (.int p3), .val (.int p4), .val (.int p5), .val (.int (2 : Int32)), .val (.ref b6), .val (.ref bO)] [])) _
    refine XS.iconst X9.here hx rfl (hb hby at_186) ?_
    show Steps p.tables e below (T9.setTop (mkF m 187 #[.val (.int p1), .val (.int p2), .val (.int p3), .val (.int p4), .val (.int p5), .val (.int (2 : Int32)), .val (.ref b6), .val (.ref bO)] [(.int (1 : Int32))])) _
    exact retN X9 hx (t := .boolean) Bd.returns (by simp) (hb hby at_187) hr
  · show Q0 Z p1 p2 p3 p4 p5 h0 n0 _ T9.heap _
    exact ⟨rfl, N9⟩
set_option maxRecDepth 65536 in
set_option maxHeartbeats 40000000 in
theorem rm0_3 (l : Launch) (Z : State) (a0 : Array Value) (hw : ∀ d ∈ tables_1, d.before a0 Z = true) (ws : List Jvm.Cond) (p1 : Int32) (p2 : Int32) (p3 : Int32) (p4 : Int32) (p5 : Int32) (h0 : Heap) (n0 : Nat) (Z0 : n0 ≤ h0.size) (en : (p1 &&& (3 : Int32)) + (1 : Int32) = (3 : Int32)) :
    MetFree l x (head1 (Jvm.Cond.code x code maxLocals ret :: ws) room_1) (fun a U => a = #[(.int p1), (.int p2), (.int p3), (.int p4), (.int p5)] ∧ Z.Warmed39 U.vm ∧ U.heap = h0) (fun _ _ _ _ _ => True) (fun _ U o U' => ∃ v L, o = .returned v ∧ Q0 Z p1 p2 p3 p4 p5 h0 n0 v U'.heap L ∧ FrameEnd U o U' L room_1.cells room_1.slots) := by
  refine MetFree.of_bodySF (plainFor_of_name pn_0) hisR ?_
  intro p e s m args below meth c s₁ Bd hml0 hP hK
  obtain ⟨rfl, hZ, hh⟩ := hP
  have hx := Bd.exec
  have hby := Bd.bytes
  have hml : c.maxLocals = 8 := hml0
  have hown : s.vm.findClass "com/example/keyspace/keyspace/storage/KeyCodecRangeDeletionsPrefixPinLaw" = some m.cls := findClass_of_methodNamed Bd.named
  have hnm := (name_of_methodNamed Bd.named Bd.method).1
  have X0 : Stand p l e room_1 s m #[(.int p1), (.int p2), (.int p3), (.int p4), (.int p5)] below meth c s₁ [] 0 0 := Stand.of_body Bd
  have e0 : s₁.heap = h0 := by rw [← hh, Bd.state]; rfl
  have N0 := Fr.nil n0
  have pre0 : ∀ t, Steps p.tables e below (s₁.setTop (mkF m 0 #[.val (.int p1), .val (.int p2), .val (.int p3), .val (.int p4), .val (.int p5), .unset, .unset, .unset] [])) t → Steps p.tables e below (s₁.setTop (entryFrame m #[(.int p1), (.int p2), (.int p3), (.int p4), (.int p5)] maxLocals)) t := fun t k => castTop (ef_0 m p1 p2 p3 p4 p5) k
  have hc22 : (1 : Int32) < (3 : Int32) := by first | rfl | decide
  have hc34 : (2 : Int32) < (3 : Int32) := by first | rfl | decide
  have hc46 : ¬ ((3 : Int32) < (3 : Int32)) := by first | rfl | decide
  have hc80 : (3 : Int32) = (3 : Int32) := by first | rfl | decide
  have hc90 : (1 : Int32) = (1 : Int32) := by first | rfl | decide
  have hc101 : (p2.toInt8.toInt32) = (p2.toInt8.toInt32) := by first | rfl | decide
  have hc109 : (1 : Int32) < (3 : Int32) := by first | rfl | decide
  have hc118 : (p3.toInt8.toInt32) = (p3.toInt8.toInt32) := by first | rfl | decide
  have hc127 : (p3.toInt8.toInt32) = (p3.toInt8.toInt32) := by first | rfl | decide
  have hc135 : (2 : Int32) < (3 : Int32) := by first | rfl | decide
  have hc144 : (p4.toInt8.toInt32) = (p4.toInt8.toInt32) := by first | rfl | decide
  have hc153 : (p4.toInt8.toInt32) = (p4.toInt8.toInt32) := by first | rfl | decide
  have hc161 : ¬ ((3 : Int32) < (3 : Int32)) := by first | rfl | decide
  obtain ⟨T6, h6, k6, X6, e6, E6, A6, EB6, st6⟩ := newPE X0 hx hZ (hw _ (List.mem_of_getElem? (i := 0) rfl)) e0 (g := (mkF m 9 #[.val (.int p1), .val (.int p2), .val (.int p3), .val (.int p4), .val (.int p5), .val (.int (3 : Int32)), .unset, .unset] [(.int (3 : Int32))])) rfl (hb hby at_9) rfl (by decide) (cap := 3) (by decide) (by decide) (by decide) (by decide) (ad := "[B") (by decide)
  obtain ⟨b6, g6⟩ : ∃ z, z = h0.size := ⟨_, rfl⟩      -- the fresh array's address
  rw [← g6] at A6 EB6 st6
  have V_b6 : Arv Z h6 b6 k6 .byte (3 : Int32) [(.int (0 : Int32)), (.int (0 : Int32)), (.int (0 : Int32))] (.int (0 : Int32)) := (Arv.new A6 (by decide)).pad (pad_rep [] (.int (0 : Int32)) 3)
  have g_b6 : n0 ≤ b6 := Nat.le_trans Z0 (Nat.le_of_eq g6.symm)
  have sz_b6 : h0.size ≤ b6 := (Nat.le_trans (Keep.refl h0 []).1 (Nat.le_of_eq g6.symm))
  have K6 : Keep h0 h6 [] := (Keep.refl h0 []).ext E6
  obtain ⟨cl_b6_18, Ar_b6, q_b6, S_b6, N_b6, H_b6, G_b6⟩ := V_b6      -- open the array's fact as it stands now (its cell, kind, length, elements)
  have hin18 : ¬ ((0 : Int32) < 0 ∨ cl_b6_18.slots.size ≤ ((0 : Int32)).toNatClampNeg) := inb_of S_b6 ⟨by decide, by decide⟩
  obtain ⟨T7, h7, X7, e7, W7, st7⟩ := stB X6 hx hZ e6 Ar_b6 (j := (0 : Int32)) hin18 (g := (mkF m 18 #[.val (.int p1), .val (.int p2), .val (.int p3), .val (.int p4), .val (.int p5), .val (.int (3 : Int32)), .val (.ref b6), .unset] [(.int (p2.toInt8.toInt32)), (.int (0 : Int32)), (.ref b6)])) rfl rfl (hb hby at_18)
  have V_b6_7 := Arv.set Ar_b6 q_b6 S_b6 N_b6 H_b6 G_b6 (fits_nar_byte _) W7 0 rfl (Nat.le_of_ble_eq_true rfl)      -- the array as it stands now (the place must lie among its first values: Arv.pad with pad_rep lengthens them)
  have K7 : Keep h0 h7 [] := K6.wr W7 (Or.inr sz_b6)
  have N7 := Fr.snoc X7 N0 g_b6
  -- (bastore into a boolean[]: stZ in stB's place)
  obtain ⟨cl_b6_30, Ar_b6, q_b6, S_b6, N_b6, H_b6, G_b6⟩ := V_b6_7      -- open the array's fact as it stands now (its cell, kind, length, elements)
  have hin30 : ¬ ((1 : Int32) < 0 ∨ cl_b6_30.slots.size ≤ ((1 : Int32)).toNatClampNeg) := inb_of S_b6 ⟨by decide, by decide⟩
  obtain ⟨T8, h8, X8, e8, W8, st8⟩ := stB X7 hx hZ e7 Ar_b6 (j := (1 : Int32)) hin30 (g := (mkF m 30 #[.val (.int p1), .val (.int p2), .val (.int p3), .val (.int p4), .val (.int p5), .val (.int (3 : Int32)), .val (.ref b6), .unset] [(.int (p3.toInt8.toInt32)), (.int (1 : Int32)), (.ref b6)])) rfl rfl (hb hby at_30)
  have V_b6_8 := Arv.set Ar_b6 q_b6 S_b6 N_b6 H_b6 G_b6 (fits_nar_byte _) W8 1 rfl (Nat.le_of_ble_eq_true rfl)      -- the array as it stands now (the place must lie among its first values: Arv.pad with pad_rep lengthens them)
  have K8 : Keep h0 h8 [] := K7.wr W8 (Or.inr sz_b6)
  have N8 := Fr.snoc X8 N7 g_b6
  -- (bastore into a boolean[]: stZ in stB's place)
  obtain ⟨cl_b6_42, Ar_b6, q_b6, S_b6, N_b6, H_b6, G_b6⟩ := V_b6_8      -- open the array's fact as it stands now (its cell, kind, length, elements)
  have hin42 : ¬ ((2 : Int32) < 0 ∨ cl_b6_42.slots.size ≤ ((2 : Int32)).toNatClampNeg) := inb_of S_b6 ⟨by decide, by decide⟩
  obtain ⟨T9, h9, X9, e9, W9, st9⟩ := stB X8 hx hZ e8 Ar_b6 (j := (2 : Int32)) hin42 (g := (mkF m 42 #[.val (.int p1), .val (.int p2), .val (.int p3), .val (.int p4), .val (.int p5), .val (.int (3 : Int32)), .val (.ref b6), .unset] [(.int (p4.toInt8.toInt32)), (.int (2 : Int32)), (.ref b6)])) rfl rfl (hb hby at_42)
  have V_b6_9 := Arv.set Ar_b6 q_b6 S_b6 N_b6 H_b6 G_b6 (fits_nar_byte _) W9 2 rfl (Nat.le_of_ble_eq_true rfl)      -- the array as it stands now (the place must lie among its first values: Arv.pad with pad_rep lengthens them)
  have K9 : Keep h0 h9 [] := K8.wr W9 (Or.inr sz_b6)
  have N9 := Fr.snoc X9 N8 g_b6
  -- (bastore into a boolean[]: stZ in stB's place)
  obtain ⟨cI, ArI, qI, SI, NI, HI, GI⟩ := V_b6_9
  have FC : FitC Z cI := fitC_of ArI fun i hi v hv => by rw [HI i hi] at hv; cases hv; exact GI i hi
  obtain ⟨bO, gO⟩ : ∃ z, z = h9.size := ⟨_, rfl⟩
  have Zs : n0 ≤ h9.size := Nat.le_trans Z0 K9.1
  have ha72 : ¬ (bO = b6) := by rw [gO]; exact (Nat.ne_of_lt ArI.lt).symm
  -- pc 58: com/example/keyspace/keyspace/storage/KeyCodec.rangeDeletionsPrefix by its contract rm1
  obtain ⟨_, _, ⟨T10, L10, k10, n10⟩, -, X10, ⟨Lc10, hQ10, l10, y10, z10⟩, st10⟩ := Jvm.LawKit.callS X9 hx (y := (⟨"com/example/keyspace/keyspace/storage/KeyCodec", "rangeDeletionsPrefix", "([B)[B"⟩ : MethodName)) hown (mvT hZ (hw _ (List.mem_of_getElem? (i := 1) rfl))) (mvT hZ (hw _ (List.mem_of_getElem? (i := 2) rfl))) (mvT hZ (hw _ (List.mem_of_getElem? (i := 3) rfl))) (mvT hZ (hw _ (List.mem_of_getElem? (i := 4) rfl))) (by decide) (backOf (W := 0) (rm1 l Z a0 hw [] b6 cI bO h9 n0 Zs ArI (((EB6.wr W7).wr W8).wr W9) FC (by rw [SI]; decide) (inb_of SI ⟨by decide, by decide⟩) gO) hZ (hw _ (List.mem_of_getElem? (i := 4) rfl)) (hw _ (List.mem_of_getElem? (i := 3) rfl)) (by decide) (by decide)) (g := (mkF m 58 #[.val (.int p1), .val (.int p2), .val (.int p3), .val (.int p4), .val (.int p5), .val (.int (3 : Int32)), .val (.ref b6), .unset] [(.ref b6)])) rfl (by rw [hml]; rfl) (argsL := [(.ref b6)]) (rest := []) (lenOf pd_0_0 rfl) rfl (by show 2 * 0 + _ ≤ _; exact Nat.le_of_eq rfl) (hb hby at_58) (fun _ _ => ⟨rfl, e9, (by decide : 1 + 1 ≤ _), (by decide : 3 + 4 ≤ _)⟩)
  dsimp only [Pt.U, Pt.locs, Pt.cells, Pt.slots] at X10 l10 y10 z10 st10 hQ10
  subst l10 y10 z10
  obtain ⟨rfl, N10q, K10, Ar_bO⟩ := hQ10      -- what it returned, that it wrote nothing old, and the rest of your Q1
  have N10 := Fr.app N9 N10q
  have S_bO : ((cloneOf cI).setSlot ((0 : Int32)).toNatClampNeg (.int (nar .byte (1 : Int32)))).slots.size = (3 : Int32).toNatClampNeg := by rw [sz_set]; exact SI
  have N_bO : ¬ (3 : Int32) < 0 := by decide
  have Ar_b6 : Arr Z T10.heap b6 cI .byte := ⟨K10.2.1 b6 cI ArI.1 (by simp), ArI.2⟩
  have hin88 := inb_of S_bO (j := (0 : Int32)) ⟨by decide, by decide⟩
  have hat88 : ((cloneOf cI).setSlot ((0 : Int32)).toNatClampNeg (.int (nar .byte (1 : Int32)))).slots[((0 : Int32)).toNatClampNeg]? = some (.int (1 : Int32)) := get_hit (c := cloneOf cI) (j := (0 : Int32)) (inb_of (c := cloneOf cI) SI ⟨by decide, by decide⟩) rfl
  have hv0 : cI.slots[((0 : Int32)).toNatClampNeg]? = some (.int (p2.toInt8.toInt32)) := (HI 0 (by rw [SI]; decide)).trans (congrArg (fun z => some (Value.int z)) (own_b8 p2))
  have hin98 := inb_of SI (j := (0 : Int32)) ⟨by decide, by decide⟩
  have hat98 := hv0
  have hv1 : cI.slots[((1 : Int32)).toNatClampNeg]? = some (.int (p3.toInt8.toInt32)) := (HI 1 (by rw [SI]; decide)).trans (congrArg (fun z => some (Value.int z)) (own_b8 p3))
  have hin124 := inb_of SI (j := (1 : Int32)) ⟨by decide, by decide⟩
  have hat124 := hv1
  have hin115 := inb_of S_bO (j := (1 : Int32)) ⟨by decide, by decide⟩
  have hat115 : ((cloneOf cI).setSlot ((0 : Int32)).toNatClampNeg (.int (nar .byte (1 : Int32)))).slots[((1 : Int32)).toNatClampNeg]? = some (.int (p3.toInt8.toInt32)) := (get_miss (c := cloneOf cI) (j := (0 : Int32)) (k := (1 : Int32)) (by decide) (by decide) (by decide)).trans hv1
  have hv2 : cI.slots[((2 : Int32)).toNatClampNeg]? = some (.int (p4.toInt8.toInt32)) := (HI 2 (by rw [SI]; decide)).trans (congrArg (fun z => some (Value.int z)) (own_b8 p4))
  have hin150 := inb_of SI (j := (2 : Int32)) ⟨by decide, by decide⟩
  have hat150 := hv2
  have hin141 := inb_of S_bO (j := (2 : Int32)) ⟨by decide, by decide⟩
  have hat141 : ((cloneOf cI).setSlot ((0 : Int32)).toNatClampNeg (.int (nar .byte (1 : Int32)))).slots[((2 : Int32)).toNatClampNeg]? = some (.int (p4.toInt8.toInt32)) := (get_miss (c := cloneOf cI) (j := (0 : Int32)) (k := (2 : Int32)) (by decide) (by decide) (by decide)).trans hv2
  -- pc 98: the array at b6: open its fact V_b6 (as at a store): Ar : Arr Z T10.heap b6 cl <kind>; hin98 : the place is inside; hat98 : cl.slots[place]? = some (.int (p2.toInt8.toInt32))
  -- pc 124: the array at b6: open its fact V_b6 (as at a store): Ar : Arr Z T10.heap b6 cl <kind>; hin124 : the place is inside; hat124 : cl.slots[place]? = some (.int (p3.toInt8.toInt32))
  -- pc 150: the array at b6: open its fact V_b6 (as at a store): Ar : Arr Z T10.heap b6 cl <kind>; hin150 : the place is inside; hat150 : cl.slots[place]? = some (.int (p4.toInt8.toInt32))
  obtain ⟨fs, hr, hrun, hended, hW, hsame⟩ := X10.leave (v := some (.int (1 : Int32))) (fun h => by rw [Bd.returns] at h; cases h)
  refine ⟨_, _, pre0 _ ?_, hrun, hended, _, _, rfl, ?_, ⟨_, rfl⟩, hW, hsame.mono (by decide) (by decide)⟩
  · show Steps p.tables e below (s₁.setTop (mkF m 0 #[.val (.int p1), .val (.int p2), .val (.int p3), .val (.int p4), .val (.int p5), .unset, .unset, .unset] [])) _
    refine XS.iloadN X0.here hx rfl (hb hby at_0) rfl ?_
    show Steps p.tables e below (s₁.setTop (mkF m 1 #[.val (.int p1), .val (.int p2), .val (.int p3), .val (.int p4), .val (.int p5), .unset, .unset, .unset] [(.int p1)])) _
    refine XS.iconst X0.here hx rfl (hb hby at_1) ?_
    show Steps p.tables e below (s₁.setTop (mkF m 2 #[.val (.int p1), .val (.int p2), .val (.int p3), .val (.int p4), .val (.int p5), .unset, .unset, .unset] [(.int (3 : Int32)), (.int p1)])) _
    refine XS.iand X0.here hx rfl (hb hby at_2) rfl ?_
    show Steps p.tables e below (s₁.setTop (mkF m 3 #[.val (.int p1), .val (.int p2), .val (.int p3), .val (.int p4), .val (.int p5), .unset, .unset, .unset] [(.int (p1 &&& (3 : Int32)))])) _
    refine XS.iconst X0.here hx rfl (hb hby at_3) ?_
    show Steps p.tables e below (s₁.setTop (mkF m 4 #[.val (.int p1), .val (.int p2), .val (.int p3), .val (.int p4), .val (.int p5), .unset, .unset, .unset] [(.int (1 : Int32)), (.int (p1 &&& (3 : Int32)))])) _
    refine XS.iadd X0.here hx rfl (hb hby at_4) rfl ?_
    show Steps p.tables e below (s₁.setTop (mkF m 5 #[.val (.int p1), .val (.int p2), .val (.int p3), .val (.int p4), .val (.int p5), .unset, .unset, .unset] [(.int ((p1 &&& (3 : Int32)) + (1 : Int32)))])) _
    refine XS.istore X0.here hx rfl (hb hby at_5) rfl (l' := #[.val (.int p1), .val (.int p2), .val (.int p3), .val (.int p4), .val (.int p5), .val (.int ((p1 &&& (3 : Int32)) + (1 : Int32))), .unset, .unset]) rfl ?_
    show Steps p.tables e below (s₁.setTop (mkF m 7 #[.val (.int p1), .val (.int p2), .val (.int p3), .val (.int p4), .val (.int p5), .val (.int ((p1 &&& (3 : Int32)) + (1 : Int32))), .unset, .unset] [])) _
    rw [en]
    show Steps p.tables e below (s₁.setTop (mkF m 7 #[.val (.int p1), .val (.int p2), .val (.int p3), .val (.int p4), .val (.int p5), .val (.int (3 : Int32)), .unset, .unset] [])) _
    refine XS.iload X0.here hx rfl (hb hby at_7) rfl ?_
    show Steps p.tables e below (s₁.setTop (mkF m 9 #[.val (.int p1), .val (.int p2), .val (.int p3), .val (.int p4), .val (.int p5), .val (.int (3 : Int32)), .unset, .unset] [(.int (3 : Int32))])) _
    refine st6 _ ?_
    show Steps p.tables e below (T6.setTop (mkF m 11 #[.val (.int p1), .val (.int p2), .val (.int p3), .val (.int p4), .val (.int p5), .val (.int (3 : Int32)), .unset, .unset] [(.ref b6)])) _
    refine XS.astore X6.here hx rfl (hb hby at_11) rfl rfl (l' := #[.val (.int p1), .val (.int p2), .val (.int p3), .val (.int p4), .val (.int p5), .val (.int (3 : Int32)), .val (.ref b6), .unset]) rfl ?_
    show Steps p.tables e below (T6.setTop (mkF m 13 #[.val (.int p1), .val (.int p2), .val (.int p3), .val (.int p4), .val (.int p5), .val (.int (3 : Int32)), .val (.ref b6), .unset] [])) _
    refine XS.aload X6.here hx rfl (hb hby at_13) rfl rfl ?_
    show Steps p.tables e below (T6.setTop (mkF m 15 #[.val (.int p1), .val (.int p2), .val (.int p3), .val (.int p4), .val (.int p5), .val (.int (3 : Int32)), .val (.ref b6), .unset] [(.ref b6)])) _
    refine XS.iconst X6.here hx rfl (hb hby at_15) ?_
    show Steps p.tables e below (T6.setTop (mkF m 16 #[.val (.int p1), .val (.int p2), .val (.int p3), .val (.int p4), .val (.int p5), .val (.int (3 : Int32)), .val (.ref b6), .unset] [(.int (0 : Int32)), (.ref b6)])) _
    refine XS.iloadN X6.here hx rfl (hb hby at_16) rfl ?_
    show Steps p.tables e below (T6.setTop (mkF m 17 #[.val (.int p1), .val (.int p2), .val (.int p3), .val (.int p4), .val (.int p5), .val (.int (3 : Int32)), .val (.ref b6), .unset] [(.int p2), (.int (0 : Int32)), (.ref b6)])) _
    refine XS.i2b X6.here hx rfl (hb hby at_17) rfl ?_
    show Steps p.tables e below (T6.setTop (mkF m 18 #[.val (.int p1), .val (.int p2), .val (.int p3), .val (.int p4), .val (.int p5), .val (.int (3 : Int32)), .val (.ref b6), .unset] [(.int (p2.toInt8.toInt32)), (.int (0 : Int32)), (.ref b6)])) _
    refine st7 _ ?_
    show Steps p.tables e below (T7.setTop (mkF m 19 #[.val (.int p1), .val (.int p2), .val (.int p3), .val (.int p4), .val (.int p5), .val (.int (3 : Int32)), .val (.ref b6), .unset] [])) _
    refine XS.iload X7.here hx rfl (hb hby at_19) rfl ?_
    show Steps p.tables e below (T7.setTop (mkF m 21 #[.val (.int p1), .val (.int p2), .val (.int p3), .val (.int p4), .val (.int p5), .val (.int (3 : Int32)), .val (.ref b6), .unset] [(.int (3 : Int32))])) _
    refine XS.iconst X7.here hx rfl (hb hby at_21) ?_
    show Steps p.tables e below (T7.setTop (mkF m 22 #[.val (.int p1), .val (.int p2), .val (.int p3), .val (.int p4), .val (.int p5), .val (.int (3 : Int32)), .val (.ref b6), .unset] [(.int (1 : Int32)), (.int (3 : Int32))])) _
    refine XS.icmpNo X7.here hx rfl (hb hby at_22) rfl (tlt hc22).2.2.2 ?_
    show Steps p.tables e below (T7.setTop (mkF m 25 #[.val (.int p1), .val (.int p2), .val (.int p3), .val (.int p4), .val (.int p5), .val (.int (3 : Int32)), .val (.ref b6), .unset] [])) _
    refine XS.aload X7.here hx rfl (hb hby at_25) rfl rfl ?_
    show Steps p.tables e below (T7.setTop (mkF m 27 #[.val (.int p1), .val (.int p2), .val (.int p3), .val (.int p4), .val (.int p5), .val (.int (3 : Int32)), .val (.ref b6), .unset] [(.ref b6)])) _
    refine XS.iconst X7.here hx rfl (hb hby at_27) ?_
    show Steps p.tables e below (T7.setTop (mkF m 28 #[.val (.int p1), .val (.int p2), .val (.int p3), .val (.int p4), .val (.int p5), .val (.int (3 : Int32)), .val (.ref b6), .unset] [(.int (1 : Int32)), (.ref b6)])) _
    refine XS.iloadN X7.here hx rfl (hb hby at_28) rfl ?_
    show Steps p.tables e below (T7.setTop (mkF m 29 #[.val (.int p1), .val (.int p2), .val (.int p3), .val (.int p4), .val (.int p5), .val (.int (3 : Int32)), .val (.ref b6), .unset] [(.int p3), (.int (1 : Int32)), (.ref b6)])) _
    refine XS.i2b X7.here hx rfl (hb hby at_29) rfl ?_
    show Steps p.tables e below (T7.setTop (mkF m 30 #[.val (.int p1), .val (.int p2), .val (.int p3), .val (.int p4), .val (.int p5), .val (.int (3 : Int32)), .val (.ref b6), .unset] [(.int (p3.toInt8.toInt32)), (.int (1 : Int32)), (.ref b6)])) _
    refine st8 _ ?_
    show Steps p.tables e below (T8.setTop (mkF m 31 #[.val (.int p1), .val (.int p2), .val (.int p3), .val (.int p4), .val (.int p5), .val (.int (3 : Int32)), .val (.ref b6), .unset] [])) _
    refine XS.iload X8.here hx rfl (hb hby at_31) rfl ?_
    show Steps p.tables e below (T8.setTop (mkF m 33 #[.val (.int p1), .val (.int p2), .val (.int p3), .val (.int p4), .val (.int p5), .val (.int (3 : Int32)), .val (.ref b6), .unset] [(.int (3 : Int32))])) _
    refine XS.iconst X8.here hx rfl (hb hby at_33) ?_
    show Steps p.tables e below (T8.setTop (mkF m 34 #[.val (.int p1), .val (.int p2), .val (.int p3), .val (.int p4), .val (.int p5), .val (.int (3 : Int32)), .val (.ref b6), .unset] [(.int (2 : Int32)), (.int (3 : Int32))])) _
    refine XS.icmpNo X8.here hx rfl (hb hby at_34) rfl (tlt hc34).2.2.2 ?_
    show Steps p.tables e below (T8.setTop (mkF m 37 #[.val (.int p1), .val (.int p2), .val (.int p3), .val (.int p4), .val (.int p5), .val (.int (3 : Int32)), .val (.ref b6), .unset] [])) _
    refine XS.aload X8.here hx rfl (hb hby at_37) rfl rfl ?_
    show Steps p.tables e below (T8.setTop (mkF m 39 #[.val (.int p1), .val (.int p2), .val (.int p3), .val (.int p4), .val (.int p5), .val (.int (3 : Int32)), .val (.ref b6), .unset] [(.ref b6)])) _
    refine XS.iconst X8.here hx rfl (hb hby at_39) ?_
    show Steps p.tables e below (T8.setTop (mkF m 40 #[.val (.int p1), .val (.int p2), .val (.int p3), .val (.int p4), .val (.int p5), .val (.int (3 : Int32)), .val (.ref b6), .unset] [(.int (2 : Int32)), (.ref b6)])) _
    refine XS.iloadN X8.here hx rfl (hb hby at_40) rfl ?_
    show Steps p.tables e below (T8.setTop (mkF m 41 #[.val (.int p1), .val (.int p2), .val (.int p3), .val (.int p4), .val (.int p5), .val (.int (3 : Int32)), .val (.ref b6), .unset] [(.int p4), (.int (2 : Int32)), (.ref b6)])) _
    refine XS.i2b X8.here hx rfl (hb hby at_41) rfl ?_
    show Steps p.tables e below (T8.setTop (mkF m 42 #[.val (.int p1), .val (.int p2), .val (.int p3), .val (.int p4), .val (.int p5), .val (.int (3 : Int32)), .val (.ref b6), .unset] [(.int (p4.toInt8.toInt32)), (.int (2 : Int32)), (.ref b6)])) _
    refine st9 _ ?_
    show Steps p.tables e below (T9.setTop (mkF m 43 #[.val (.int p1), .val (.int p2), .val (.int p3), .val (.int p4), .val (.int p5), .val (.int (3 : Int32)), .val (.ref b6), .unset] [])) _
    refine XS.iload X9.here hx rfl (hb hby at_43) rfl ?_
    show Steps p.tables e below (T9.setTop (mkF m 45 #[.val (.int p1), .val (.int p2), .val (.int p3), .val (.int p4), .val (.int p5), .val (.int (3 : Int32)), .val (.ref b6), .unset] [(.int (3 : Int32))])) _
    refine XS.iconst X9.here hx rfl (hb hby at_45) ?_
    show Steps p.tables e below (T9.setTop (mkF m 46 #[.val (.int p1), .val (.int p2), .val (.int p3), .val (.int p4), .val (.int p5), .val (.int (3 : Int32)), .val (.ref b6), .unset] [(.int (3 : Int32)), (.int (3 : Int32))])) _
    refine XS.icmpYes X9.here hx rfl (pc0 := 46) (pc' := 56) rfl (hb hby at_46) rfl (flt hc46).2.2.2 (by decide) (by decide) ?_
    show Steps p.tables e below (T9.setTop (mkF m 56 #[.val (.int p1), .val (.int p2), .val (.int p3), .val (.int p4), .val (.int p5), .val (.int (3 : Int32)), .val (.ref b6), .unset] [])) _
    refine XS.aload X9.here hx rfl (hb hby at_56) rfl rfl ?_
    show Steps p.tables e below (T9.setTop (mkF m 58 #[.val (.int p1), .val (.int p2), .val (.int p3), .val (.int p4), .val (.int p5), .val (.int (3 : Int32)), .val (.ref b6), .unset] [(.ref b6)])) _
    refine st10 _ ?_
    show Steps p.tables e below (T10.setTop (mkF m 61 #[.val (.int p1), .val (.int p2), .val (.int p3), .val (.int p4), .val (.int p5), .val (.int (3 : Int32)), .val (.ref b6), .unset] [(.ref bO)])) _
    refine XS.astore X10.here hx rfl (hb hby at_61) rfl rfl (l' := #[.val (.int p1), .val (.int p2), .val (.int p3), .val (.int p4), .val (.int p5), .val (.int (3 : Int32)), .val (.ref b6), .val (.ref bO)]) rfl ?_
    show Steps p.tables e below (T10.setTop (mkF m 63 #[.val (.int p1), .val (.int p2), .val (.int p3), .val (.int p4), .val (.int p5), .val (.int (3 : Int32)), .val (.ref b6), .val (.ref bO)] [])) _
    refine XS.aload X10.here hx rfl (hb hby at_63) rfl rfl ?_
    show Steps p.tables e below (T10.setTop (mkF m 65 #[.val (.int p1), .val (.int p2), .val (.int p3), .val (.int p4), .val (.int p5), .val (.int (3 : Int32)), .val (.ref b6), .val (.ref bO)] [(.ref bO)])) _
    refine XS.ifnullNo X10.here hx rfl (hb hby at_65) rfl ?_
    show Steps p.tables e below (T10.setTop (mkF m 68 #[.val (.int p1), .val (.int p2), .val (.int p3), .val (.int p4), .val (.int p5), .val (.int (3 : Int32)), .val (.ref b6), .val (.ref bO)] [])) _
    refine XS.aload X10.here hx rfl (hb hby at_68) rfl rfl ?_
    show Steps p.tables e below (T10.setTop (mkF m 70 #[.val (.int p1), .val (.int p2), .val (.int p3), .val (.int p4), .val (.int p5), .val (.int (3 : Int32)), .val (.ref b6), .val (.ref bO)] [(.ref bO)])) _
    refine XS.aload X10.here hx rfl (hb hby at_70) rfl rfl ?_
    show Steps p.tables e below (T10.setTop (mkF m 72 #[.val (.int p1), .val (.int p2), .val (.int p3), .val (.int p4), .val (.int p5), .val (.int (3 : Int32)), .val (.ref b6), .val (.ref bO)] [(.ref b6), (.ref bO)])) _
    refine Jvm.RoadKit.acmp (g := (mkF m 72 #[.val (.int p1), .val (.int p2), .val (.int p3), .val (.int p4), .val (.int p5), .val (.int (3 : Int32)), .val (.ref b6), .val (.ref bO)] [(.ref b6), (.ref bO)])) X10 hx rfl rfl rfl (pc0 := 72) (pc' := 75) (same := false) rfl (hb hby at_72) rfl (decide_eq_false fun q => ha72 (Value.ref.inj q)) (by decide) (by decide) ?_
    show Steps p.tables e below (T10.setTop (mkF m 75 #[.val (.int p1), .val (.int p2), .val (.int p3), .val (.int p4), .val (.int p5), .val (.int (3 : Int32)), .val (.ref b6), .val (.ref bO)] [])) _
    refine XS.aload X10.here hx rfl (hb hby at_75) rfl rfl ?_
    show Steps p.tables e below (T10.setTop (mkF m 77 #[.val (.int p1), .val (.int p2), .val (.int p3), .val (.int p4), .val (.int p5), .val (.int (3 : Int32)), .val (.ref b6), .val (.ref bO)] [(.ref bO)])) _
    refine X10.arraylength hx Ar_bO.1 (State.isArrayOf_alike hZ.alike Ar_bO.2.1) (g := (mkF m 77 #[.val (.int p1), .val (.int p2), .val (.int p3), .val (.int p4), .val (.int p5), .val (.int (3 : Int32)), .val (.ref b6), .val (.ref bO)] [(.ref bO)])) rfl rfl (hb hby at_77) _ ?_
    rw [len_of S_bO N_bO]
    show Steps p.tables e below (T10.setTop (mkF m 78 #[.val (.int p1), .val (.int p2), .val (.int p3), .val (.int p4), .val (.int p5), .val (.int (3 : Int32)), .val (.ref b6), .val (.ref bO)] [(.int (3 : Int32))])) _
    refine XS.iload X10.here hx rfl (hb hby at_78) rfl ?_
    show Steps p.tables e below (T10.setTop (mkF m 80 #[.val (.int p1), .val (.int p2), .val (.int p3), .val (.int p4), .val (.int p5), .val (.int (3 : Int32)), .val (.ref b6), .val (.ref bO)] [(.int (3 : Int32)), (.int (3 : Int32))])) _
    refine XS.icmpYes X10.here hx rfl (pc0 := 80) (pc' := 85) rfl (hb hby at_80) rfl (teq hc80).1 (by decide) (by decide) ?_
    show Steps p.tables e below (T10.setTop (mkF m 85 #[.val (.int p1), .val (.int p2), .val (.int p3), .val (.int p4), .val (.int p5), .val (.int (3 : Int32)), .val (.ref b6), .val (.ref bO)] [])) _
    refine XS.aload X10.here hx rfl (hb hby at_85) rfl rfl ?_
    show Steps p.tables e below (T10.setTop (mkF m 87 #[.val (.int p1), .val (.int p2), .val (.int p3), .val (.int p4), .val (.int p5), .val (.int (3 : Int32)), .val (.ref b6), .val (.ref bO)] [(.ref bO)])) _
    refine XS.iconst X10.here hx rfl (hb hby at_87) ?_
    show Steps p.tables e below (T10.setTop (mkF m 88 #[.val (.int p1), .val (.int p2), .val (.int p3), .val (.int p4), .val (.int p5), .val (.int (3 : Int32)), .val (.ref b6), .val (.ref bO)] [(.int (0 : Int32)), (.ref bO)])) _
    refine X10.baloadBytes hx (j := (0 : Int32)) (v := (.int (1 : Int32))) Ar_bO.1 (State.isArrayOf_alike hZ.alike Ar_bO.2.1) Ar_bO.2.2 hin88 hat88 (g := (mkF m 88 #[.val (.int p1), .val (.int p2), .val (.int p3), .val (.int p4), .val (.int p5), .val (.int (3 : Int32)), .val (.ref b6), .val (.ref bO)] [(.int (0 : Int32)), (.ref bO)])) rfl rfl (hb hby at_88) _ ?_
    show Steps p.tables e below (T10.setTop (mkF m 89 #[.val (.int p1), .val (.int p2), .val (.int p3), .val (.int p4), .val (.int p5), .val (.int (3 : Int32)), .val (.ref b6), .val (.ref bO)] [(.int (1 : Int32))])) _
    refine XS.iconst X10.here hx rfl (hb hby at_89) ?_
    show Steps p.tables e below (T10.setTop (mkF m 90 #[.val (.int p1), .val (.int p2), .val (.int p3), .val (.int p4), .val (.int p5), .val (.int (3 : Int32)), .val (.ref b6), .val (.ref bO)] [(.int (1 : Int32)), (.int (1 : Int32))])) _
    refine XS.icmpYes X10.here hx rfl (pc0 := 90) (pc' := 95) rfl (hb hby at_90) rfl (teq hc90).1 (by decide) (by decide) ?_
    show Steps p.tables e below (T10.setTop (mkF m 95 #[.val (.int p1), .val (.int p2), .val (.int p3), .val (.int p4), .val (.int p5), .val (.int (3 : Int32)), .val (.ref b6), .val (.ref bO)] [])) _
    refine XS.aload X10.here hx rfl (hb hby at_95) rfl rfl ?_
    show Steps p.tables e below (T10.setTop (mkF m 97 #[.val (.int p1), .val (.int p2), .val (.int p3), .val (.int p4), .val (.int p5), .val (.int (3 : Int32)), .val (.ref b6), .val (.ref bO)] [(.ref b6)])) _
    refine XS.iconst X10.here hx rfl (hb hby at_97) ?_
    show Steps p.tables e below (T10.setTop (mkF m 98 #[.val (.int p1), .val (.int p2), .val (.int p3), .val (.int p4), .val (.int p5), .val (.int (3 : Int32)), .val (.ref b6), .val (.ref bO)] [(.int (0 : Int32)), (.ref b6)])) _
    refine X10.baloadBytes hx (j := (0 : Int32)) (v := (.int (p2.toInt8.toInt32))) Ar_b6.1 (State.isArrayOf_alike hZ.alike Ar_b6.2.1) Ar_b6.2.2 hin98 hat98 (g := (mkF m 98 #[.val (.int p1), .val (.int p2), .val (.int p3), .val (.int p4), .val (.int p5), .val (.int (3 : Int32)), .val (.ref b6), .val (.ref bO)] [(.int (0 : Int32)), (.ref b6)])) rfl rfl (hb hby at_98) _ ?_
    show Steps p.tables e below (T10.setTop (mkF m 99 #[.val (.int p1), .val (.int p2), .val (.int p3), .val (.int p4), .val (.int p5), .val (.int (3 : Int32)), .val (.ref b6), .val (.ref bO)] [(.int (p2.toInt8.toInt32))])) _
    refine XS.iloadN X10.here hx rfl (hb hby at_99) rfl ?_
    show Steps p.tables e below (T10.setTop (mkF m 100 #[.val (.int p1), .val (.int p2), .val (.int p3), .val (.int p4), .val (.int p5), .val (.int (3 : Int32)), .val (.ref b6), .val (.ref bO)] [(.int p2), (.int (p2.toInt8.toInt32))])) _
    refine XS.i2b X10.here hx rfl (hb hby at_100) rfl ?_
    show Steps p.tables e below (T10.setTop (mkF m 101 #[.val (.int p1), .val (.int p2), .val (.int p3), .val (.int p4), .val (.int p5), .val (.int (3 : Int32)), .val (.ref b6), .val (.ref bO)] [(.int (p2.toInt8.toInt32)), (.int (p2.toInt8.toInt32))])) _
    refine XS.icmpYes X10.here hx rfl (pc0 := 101) (pc' := 106) rfl (hb hby at_101) rfl (teq hc101).1 (by decide) (by decide) ?_
    show Steps p.tables e below (T10.setTop (mkF m 106 #[.val (.int p1), .val (.int p2), .val (.int p3), .val (.int p4), .val (.int p5), .val (.int (3 : Int32)), .val (.ref b6), .val (.ref bO)] [])) _
    refine XS.iload X10.here hx rfl (hb hby at_106) rfl ?_
    show Steps p.tables e below (T10.setTop (mkF m 108 #[.val (.int p1), .val (.int p2), .val (.int p3), .val (.int p4), .val (.int p5), .val (.int (3 : Int32)), .val (.ref b6), .val (.ref bO)] [(.int (3 : Int32))])) _
    refine XS.iconst X10.here hx rfl (hb hby at_108) ?_
    show Steps p.tables e below (T10.setTop (mkF m 109 #[.val (.int p1), .val (.int p2), .val (.int p3), .val (.int p4), .val (.int p5), .val (.int (3 : Int32)), .val (.ref b6), .val (.ref bO)] [(.int (1 : Int32)), (.int (3 : Int32))])) _
    refine XS.icmpNo X10.here hx rfl (hb hby at_109) rfl (tlt hc109).2.2.2 ?_
    show Steps p.tables e below (T10.setTop (mkF m 112 #[.val (.int p1), .val (.int p2), .val (.int p3), .val (.int p4), .val (.int p5), .val (.int (3 : Int32)), .val (.ref b6), .val (.ref bO)] [])) _
    refine XS.aload X10.here hx rfl (hb hby at_112) rfl rfl ?_
    show Steps p.tables e below (T10.setTop (mkF m 114 #[.val (.int p1), .val (.int p2), .val (.int p3), .val (.int p4), .val (.int p5), .val (.int (3 : Int32)), .val (.ref b6), .val (.ref bO)] [(.ref bO)])) _
    refine XS.iconst X10.here hx rfl (hb hby at_114) ?_
    show Steps p.tables e below (T10.setTop (mkF m 115 #[.val (.int p1), .val (.int p2), .val (.int p3), .val (.int p4), .val (.int p5), .val (.int (3 : Int32)), .val (.ref b6), .val (.ref bO)] [(.int (1 : Int32)), (.ref bO)])) _
    refine X10.baloadBytes hx (j := (1 : Int32)) (v := (.int (p3.toInt8.toInt32))) Ar_bO.1 (State.isArrayOf_alike hZ.alike Ar_bO.2.1) Ar_bO.2.2 hin115 hat115 (g := (mkF m 115 #[.val (.int p1), .val (.int p2), .val (.int p3), .val (.int p4), .val (.int p5), .val (.int (3 : Int32)), .val (.ref b6), .val (.ref bO)] [(.int (1 : Int32)), (.ref bO)])) rfl rfl (hb hby at_115) _ ?_
    show Steps p.tables e below (T10.setTop (mkF m 116 #[.val (.int p1), .val (.int p2), .val (.int p3), .val (.int p4), .val (.int p5), .val (.int (3 : Int32)), .val (.ref b6), .val (.ref bO)] [(.int (p3.toInt8.toInt32))])) _
    refine XS.iloadN X10.here hx rfl (hb hby at_116) rfl ?_
    show Steps p.tables e below (T10.setTop (mkF m 117 #[.val (.int p1), .val (.int p2), .val (.int p3), .val (.int p4), .val (.int p5), .val (.int (3 : Int32)), .val (.ref b6), .val (.ref bO)] [(.int p3), (.int (p3.toInt8.toInt32))])) _
    refine XS.i2b X10.here hx rfl (hb hby at_117) rfl ?_
    show Steps p.tables e below (T10.setTop (mkF m 118 #[.val (.int p1), .val (.int p2), .val (.int p3), .val (.int p4), .val (.int p5), .val (.int (3 : Int32)), .val (.ref b6), .val (.ref bO)] [(.int (p3.toInt8.toInt32)), (.int (p3.toInt8.toInt32))])) _
    refine XS.icmpNo X10.here hx rfl (hb hby at_118) rfl (teq hc118).2 ?_
    show Steps p.tables e below (T10.setTop (mkF m 121 #[.val (.int p1), .val (.int p2), .val (.int p3), .val (.int p4), .val (.int p5), .val (.int (3 : Int32)), .val (.ref b6), .val (.ref bO)] [])) _
    refine XS.aload X10.here hx rfl (hb hby at_121) rfl rfl ?_
    show Steps p.tables e below (T10.setTop (mkF m 123 #[.val (.int p1), .val (.int p2), .val (.int p3), .val (.int p4), .val (.int p5), .val (.int (3 : Int32)), .val (.ref b6), .val (.ref bO)] [(.ref b6)])) _
    refine XS.iconst X10.here hx rfl (hb hby at_123) ?_
    show Steps p.tables e below (T10.setTop (mkF m 124 #[.val (.int p1), .val (.int p2), .val (.int p3), .val (.int p4), .val (.int p5), .val (.int (3 : Int32)), .val (.ref b6), .val (.ref bO)] [(.int (1 : Int32)), (.ref b6)])) _
    refine X10.baloadBytes hx (j := (1 : Int32)) (v := (.int (p3.toInt8.toInt32))) Ar_b6.1 (State.isArrayOf_alike hZ.alike Ar_b6.2.1) Ar_b6.2.2 hin124 hat124 (g := (mkF m 124 #[.val (.int p1), .val (.int p2), .val (.int p3), .val (.int p4), .val (.int p5), .val (.int (3 : Int32)), .val (.ref b6), .val (.ref bO)] [(.int (1 : Int32)), (.ref b6)])) rfl rfl (hb hby at_124) _ ?_
    show Steps p.tables e below (T10.setTop (mkF m 125 #[.val (.int p1), .val (.int p2), .val (.int p3), .val (.int p4), .val (.int p5), .val (.int (3 : Int32)), .val (.ref b6), .val (.ref bO)] [(.int (p3.toInt8.toInt32))])) _
    refine XS.iloadN X10.here hx rfl (hb hby at_125) rfl ?_
    show Steps p.tables e below (T10.setTop (mkF m 126 #[.val (.int p1), .val (.int p2), .val (.int p3), .val (.int p4), .val (.int p5), .val (.int (3 : Int32)), .val (.ref b6), .val (.ref bO)] [(.int p3), (.int (p3.toInt8.toInt32))])) _
    refine XS.i2b X10.here hx rfl (hb hby at_126) rfl ?_
    show Steps p.tables e below (T10.setTop (mkF m 127 #[.val (.int p1), .val (.int p2), .val (.int p3), .val (.int p4), .val (.int p5), .val (.int (3 : Int32)), .val (.ref b6), .val (.ref bO)] [(.int (p3.toInt8.toInt32)), (.int (p3.toInt8.toInt32))])) _
    refine XS.icmpYes X10.here hx rfl (pc0 := 127) (pc' := 132) rfl (hb hby at_127) rfl (teq hc127).1 (by decide) (by decide) ?_
    show Steps p.tables e below (T10.setTop (mkF m 132 #[.val (.int p1), .val (.int p2), .val (.int p3), .val (.int p4), .val (.int p5), .val (.int (3 : Int32)), .val (.ref b6), .val (.ref bO)] [])) _
    refine XS.iload X10.here hx rfl (hb hby at_132) rfl ?_
    show Steps p.tables e below (T10.setTop (mkF m 134 #[.val (.int p1), .val (.int p2), .val (.int p3), .val (.int p4), .val (.int p5), .val (.int (3 : Int32)), .val (.ref b6), .val (.ref bO)] [(.int (3 : Int32))])) _
    refine XS.iconst X10.here hx rfl (hb hby at_134) ?_
    show Steps p.tables e below (T10.setTop (mkF m 135 #[.val (.int p1), .val (.int p2), .val (.int p3), .val (.int p4), .val (.int p5), .val (.int (3 : Int32)), .val (.ref b6), .val (.ref bO)] [(.int (2 : Int32)), (.int (3 : Int32))])) _
    refine XS.icmpNo X10.here hx rfl (hb hby at_135) rfl (tlt hc135).2.2.2 ?_
    show Steps p.tables e below (T10.setTop (mkF m 138 #[.val (.int p1), .val (.int p2), .val (.int p3), .val (.int p4), .val (.int p5), .val (.int (3 : Int32)), .val (.ref b6), .val (.ref bO)] [])) _
    refine XS.aload X10.here hx rfl (hb hby at_138) rfl rfl ?_
    show Steps p.tables e below (T10.setTop (mkF m 140 #[.val (.int p1), .val (.int p2), .val (.int p3), .val (.int p4), .val (.int p5), .val (.int (3 : Int32)), .val (.ref b6), .val (.ref bO)] [(.ref bO)])) _
    refine XS.iconst X10.here hx rfl (hb hby at_140) ?_
    show Steps p.tables e below (T10.setTop (mkF m 141 #[.val (.int p1), .val (.int p2), .val (.int p3), .val (.int p4), .val (.int p5), .val (.int (3 : Int32)), .val (.ref b6), .val (.ref bO)] [(.int (2 : Int32)), (.ref bO)])) _
    refine X10.baloadBytes hx (j := (2 : Int32)) (v := (.int (p4.toInt8.toInt32))) Ar_bO.1 (State.isArrayOf_alike hZ.alike Ar_bO.2.1) Ar_bO.2.2 hin141 hat141 (g := (mkF m 141 #[.val (.int p1), .val (.int p2), .val (.int p3), .val (.int p4), .val (.int p5), .val (.int (3 : Int32)), .val (.ref b6), .val (.ref bO)] [(.int (2 : Int32)), (.ref bO)])) rfl rfl (hb hby at_141) _ ?_
    show Steps p.tables e below (T10.setTop (mkF m 142 #[.val (.int p1), .val (.int p2), .val (.int p3), .val (.int p4), .val (.int p5), .val (.int (3 : Int32)), .val (.ref b6), .val (.ref bO)] [(.int (p4.toInt8.toInt32))])) _
    refine XS.iloadN X10.here hx rfl (hb hby at_142) rfl ?_
    show Steps p.tables e below (T10.setTop (mkF m 143 #[.val (.int p1), .val (.int p2), .val (.int p3), .val (.int p4), .val (.int p5), .val (.int (3 : Int32)), .val (.ref b6), .val (.ref bO)] [(.int p4), (.int (p4.toInt8.toInt32))])) _
    refine XS.i2b X10.here hx rfl (hb hby at_143) rfl ?_
    show Steps p.tables e below (T10.setTop (mkF m 144 #[.val (.int p1), .val (.int p2), .val (.int p3), .val (.int p4), .val (.int p5), .val (.int (3 : Int32)), .val (.ref b6), .val (.ref bO)] [(.int (p4.toInt8.toInt32)), (.int (p4.toInt8.toInt32))])) _
    refine XS.icmpNo X10.here hx rfl (hb hby at_144) rfl (teq hc144).2 ?_
    show Steps p.tables e below (T10.setTop (mkF m 147 #[.val (.int p1), .val (.int p2), .val (.int p3), .val (.int p4), .val (.int p5), .val (.int (3 : Int32)), .val (.ref b6), .val (.ref bO)] [])) _
    refine XS.aload X10.here hx rfl (hb hby at_147) rfl rfl ?_
    show Steps p.tables e below (T10.setTop (mkF m 149 #[.val (.int p1), .val (.int p2), .val (.int p3), .val (.int p4), .val (.int p5), .val (.int (3 : Int32)), .val (.ref b6), .val (.ref bO)] [(.ref b6)])) _
    refine XS.iconst X10.here hx rfl (hb hby at_149) ?_
    show Steps p.tables e below (T10.setTop (mkF m 150 #[.val (.int p1), .val (.int p2), .val (.int p3), .val (.int p4), .val (.int p5), .val (.int (3 : Int32)), .val (.ref b6), .val (.ref bO)] [(.int (2 : Int32)), (.ref b6)])) _
    refine X10.baloadBytes hx (j := (2 : Int32)) (v := (.int (p4.toInt8.toInt32))) Ar_b6.1 (State.isArrayOf_alike hZ.alike Ar_b6.2.1) Ar_b6.2.2 hin150 hat150 (g := (mkF m 150 #[.val (.int p1), .val (.int p2), .val (.int p3), .val (.int p4), .val (.int p5), .val (.int (3 : Int32)), .val (.ref b6), .val (.ref bO)] [(.int (2 : Int32)), (.ref b6)])) rfl rfl (hb hby at_150) _ ?_
    show Steps p.tables e below (T10.setTop (mkF m 151 #[.val (.int p1), .val (.int p2), .val (.int p3), .val (.int p4), .val (.int p5), .val (.int (3 : Int32)), .val (.ref b6), .val (.ref bO)] [(.int (p4.toInt8.toInt32))])) _
    refine XS.iloadN X10.here hx rfl (hb hby at_151) rfl ?_
    show Steps p.tables e below (T10.setTop (mkF m 152 #[.val (.int p1), .val (.int p2), .val (.int p3), .val (.int p4), .val (.int p5), .val (.int (3 : Int32)), .val (.ref b6), .val (.ref bO)] [(.int p4), (.int (p4.toInt8.toInt32))])) _
    refine XS.i2b X10.here hx rfl (hb hby at_152) rfl ?_
    show Steps p.tables e below (T10.setTop (mkF m 153 #[.val (.int p1), .val (.int p2), .val (.int p3), .val (.int p4), .val (.int p5), .val (.int (3 : Int32)), .val (.ref b6), .val (.ref bO)] [(.int (p4.toInt8.toInt32)), (.int (p4.toInt8.toInt32))])) _
    refine XS.icmpYes X10.here hx rfl (pc0 := 153) (pc' := 158) rfl (hb hby at_153) rfl (teq hc153).1 (by decide) (by decide) ?_
    show Steps p.tables e below (T10.setTop (mkF m 158 #[.val (.int p1), .val (.int p2), .val (.int p3), .val (.int p4), .val (.int p5), .val (.int (3 : Int32)), .val (.ref b6), .val (.ref bO)] [])) _
    refine XS.iload X10.here hx rfl (hb hby at_158) rfl ?_
    show Steps p.tables e below (T10.setTop (mkF m 160 #[.val (.int p1), .val (.int p2), .val (.int p3), .val (.int p4), .val (.int p5), .val (.int (3 : Int32)), .val (.ref b6), .val (.ref bO)] [(.int (3 : Int32))])) _
    refine XS.iconst X10.here hx rfl (hb hby at_160) ?_
    show Steps p.tables e below (T10.setTop (mkF m 161 #[.val (.int p1), .val (.int p2), .val (.int p3), .val (.int p4), .val (.int p5), .val (.int (3 : Int32)), .val (.ref b6), .val (.ref bO)] [(.int (3 : Int32)), (.int (3 : Int32))])) _
    refine XS.icmpYes X10.here hx rfl (pc0 := 161) (pc' := 186) rfl (hb hby at_161) rfl (flt hc161).2.2.2 (by decide) (by decide) ?_
    show Steps p.tables e below (T10.setTop (mkF m 186 #[.val (.int p1), .val (.int p2), .val (.int p3), .val (.int p4), .val (.int p5), .val (.int (3 : Int32)), .val (.ref b6), .val (.ref bO)] [])) _
    refine XS.iconst X10.here hx rfl (hb hby at_186) ?_
    show Steps p.tables e below (T10.setTop (mkF m 187 #[.val (.int p1), .val (.int p2), .val (.int p3), .val (.int p4), .val (.int p5), .val (.int (3 : Int32)), .val (.ref b6), .val (.ref bO)] [(.int (1 : Int32))])) _
    exact retN X10 hx (t := .boolean) Bd.returns (by simp) (hb hby at_187) hr
  · show Q0 Z p1 p2 p3 p4 p5 h0 n0 _ T10.heap _
    exact ⟨rfl, N10⟩
set_option maxRecDepth 65536 in
set_option maxHeartbeats 40000000 in
theorem rm0_4 (l : Launch) (Z : State) (a0 : Array Value) (hw : ∀ d ∈ tables_1, d.before a0 Z = true) (ws : List Jvm.Cond) (p1 : Int32) (p2 : Int32) (p3 : Int32) (p4 : Int32) (p5 : Int32) (h0 : Heap) (n0 : Nat) (Z0 : n0 ≤ h0.size) (en : (p1 &&& (3 : Int32)) + (1 : Int32) = (4 : Int32)) :
    MetFree l x (head1 (Jvm.Cond.code x code maxLocals ret :: ws) room_1) (fun a U => a = #[(.int p1), (.int p2), (.int p3), (.int p4), (.int p5)] ∧ Z.Warmed39 U.vm ∧ U.heap = h0) (fun _ _ _ _ _ => True) (fun _ U o U' => ∃ v L, o = .returned v ∧ Q0 Z p1 p2 p3 p4 p5 h0 n0 v U'.heap L ∧ FrameEnd U o U' L room_1.cells room_1.slots) := by
  refine MetFree.of_bodySF (plainFor_of_name pn_0) hisR ?_
  intro p e s m args below meth c s₁ Bd hml0 hP hK
  obtain ⟨rfl, hZ, hh⟩ := hP
  have hx := Bd.exec
  have hby := Bd.bytes
  have hml : c.maxLocals = 8 := hml0
  have hown : s.vm.findClass "com/example/keyspace/keyspace/storage/KeyCodecRangeDeletionsPrefixPinLaw" = some m.cls := findClass_of_methodNamed Bd.named
  have hnm := (name_of_methodNamed Bd.named Bd.method).1
  have X0 : Stand p l e room_1 s m #[(.int p1), (.int p2), (.int p3), (.int p4), (.int p5)] below meth c s₁ [] 0 0 := Stand.of_body Bd
  have e0 : s₁.heap = h0 := by rw [← hh, Bd.state]; rfl
  have N0 := Fr.nil n0
  have pre0 : ∀ t, Steps p.tables e below (s₁.setTop (mkF m 0 #[.val (.int p1), .val (.int p2), .val (.int p3), .val (.int p4), .val (.int p5), .unset, .unset, .unset] [])) t → Steps p.tables e below (s₁.setTop (entryFrame m #[(.int p1), (.int p2), (.int p3), (.int p4), (.int p5)] maxLocals)) t := fun t k => castTop (ef_0 m p1 p2 p3 p4 p5) k
  have hc22 : (1 : Int32) < (4 : Int32) := by first | rfl | decide
  have hc34 : (2 : Int32) < (4 : Int32) := by first | rfl | decide
  have hc46 : (3 : Int32) < (4 : Int32) := by first | rfl | decide
  have hc80 : (4 : Int32) = (4 : Int32) := by first | rfl | decide
  have hc90 : (1 : Int32) = (1 : Int32) := by first | rfl | decide
  have hc101 : (p2.toInt8.toInt32) = (p2.toInt8.toInt32) := by first | rfl | decide
  have hc109 : (1 : Int32) < (4 : Int32) := by first | rfl | decide
  have hc118 : (p3.toInt8.toInt32) = (p3.toInt8.toInt32) := by first | rfl | decide
  have hc127 : (p3.toInt8.toInt32) = (p3.toInt8.toInt32) := by first | rfl | decide
  have hc135 : (2 : Int32) < (4 : Int32) := by first | rfl | decide
  have hc144 : (p4.toInt8.toInt32) = (p4.toInt8.toInt32) := by first | rfl | decide
  have hc153 : (p4.toInt8.toInt32) = (p4.toInt8.toInt32) := by first | rfl | decide
  have hc161 : (3 : Int32) < (4 : Int32) := by first | rfl | decide
  have hc171 : (p5.toInt8.toInt32) = (p5.toInt8.toInt32) := by first | rfl | decide
  have hc181 : (p5.toInt8.toInt32) = (p5.toInt8.toInt32) := by first | rfl | decide
  obtain ⟨T6, h6, k6, X6, e6, E6, A6, EB6, st6⟩ := newPE X0 hx hZ (hw _ (List.mem_of_getElem? (i := 0) rfl)) e0 (g := (mkF m 9 #[.val (.int p1), .val (.int p2), .val (.int p3), .val (.int p4), .val (.int p5), .val (.int (4 : Int32)), .unset, .unset] [(.int (4 : Int32))])) rfl (hb hby at_9) rfl (by decide) (cap := 4) (by decide) (by decide) (by decide) (by decide) (ad := "[B") (by decide)
  obtain ⟨b6, g6⟩ : ∃ z, z = h0.size := ⟨_, rfl⟩      -- the fresh array's address
  rw [← g6] at A6 EB6 st6
  have V_b6 : Arv Z h6 b6 k6 .byte (4 : Int32) [(.int (0 : Int32)), (.int (0 : Int32)), (.int (0 : Int32)), (.int (0 : Int32))] (.int (0 : Int32)) := (Arv.new A6 (by decide)).pad (pad_rep [] (.int (0 : Int32)) 4)
  have g_b6 : n0 ≤ b6 := Nat.le_trans Z0 (Nat.le_of_eq g6.symm)
  have sz_b6 : h0.size ≤ b6 := (Nat.le_trans (Keep.refl h0 []).1 (Nat.le_of_eq g6.symm))
  have K6 : Keep h0 h6 [] := (Keep.refl h0 []).ext E6
  obtain ⟨cl_b6_18, Ar_b6, q_b6, S_b6, N_b6, H_b6, G_b6⟩ := V_b6      -- open the array's fact as it stands now (its cell, kind, length, elements)
  have hin18 : ¬ ((0 : Int32) < 0 ∨ cl_b6_18.slots.size ≤ ((0 : Int32)).toNatClampNeg) := inb_of S_b6 ⟨by decide, by decide⟩
  obtain ⟨T7, h7, X7, e7, W7, st7⟩ := stB X6 hx hZ e6 Ar_b6 (j := (0 : Int32)) hin18 (g := (mkF m 18 #[.val (.int p1), .val (.int p2), .val (.int p3), .val (.int p4), .val (.int p5), .val (.int (4 : Int32)), .val (.ref b6), .unset] [(.int (p2.toInt8.toInt32)), (.int (0 : Int32)), (.ref b6)])) rfl rfl (hb hby at_18)
  have V_b6_7 := Arv.set Ar_b6 q_b6 S_b6 N_b6 H_b6 G_b6 (fits_nar_byte _) W7 0 rfl (Nat.le_of_ble_eq_true rfl)      -- the array as it stands now (the place must lie among its first values: Arv.pad with pad_rep lengthens them)
  have K7 : Keep h0 h7 [] := K6.wr W7 (Or.inr sz_b6)
  have N7 := Fr.snoc X7 N0 g_b6
  -- (bastore into a boolean[]: stZ in stB's place)
  obtain ⟨cl_b6_30, Ar_b6, q_b6, S_b6, N_b6, H_b6, G_b6⟩ := V_b6_7      -- open the array's fact as it stands now (its cell, kind, length, elements)
  have hin30 : ¬ ((1 : Int32) < 0 ∨ cl_b6_30.slots.size ≤ ((1 : Int32)).toNatClampNeg) := inb_of S_b6 ⟨by decide, by decide⟩
  obtain ⟨T8, h8, X8, e8, W8, st8⟩ := stB X7 hx hZ e7 Ar_b6 (j := (1 : Int32)) hin30 (g := (mkF m 30 #[.val (.int p1), .val (.int p2), .val (.int p3), .val (.int p4), .val (.int p5), .val (.int (4 : Int32)), .val (.ref b6), .unset] [(.int (p3.toInt8.toInt32)), (.int (1 : Int32)), (.ref b6)])) rfl rfl (hb hby at_30)
  have V_b6_8 := Arv.set Ar_b6 q_b6 S_b6 N_b6 H_b6 G_b6 (fits_nar_byte _) W8 1 rfl (Nat.le_of_ble_eq_true rfl)      -- the array as it stands now (the place must lie among its first values: Arv.pad with pad_rep lengthens them)
  have K8 : Keep h0 h8 [] := K7.wr W8 (Or.inr sz_b6)
  have N8 := Fr.snoc X8 N7 g_b6
  -- (bastore into a boolean[]: stZ in stB's place)
  obtain ⟨cl_b6_42, Ar_b6, q_b6, S_b6, N_b6, H_b6, G_b6⟩ := V_b6_8      -- open the array's fact as it stands now (its cell, kind, length, elements)
  have hin42 : ¬ ((2 : Int32) < 0 ∨ cl_b6_42.slots.size ≤ ((2 : Int32)).toNatClampNeg) := inb_of S_b6 ⟨by decide, by decide⟩
  obtain ⟨T9, h9, X9, e9, W9, st9⟩ := stB X8 hx hZ e8 Ar_b6 (j := (2 : Int32)) hin42 (g := (mkF m 42 #[.val (.int p1), .val (.int p2), .val (.int p3), .val (.int p4), .val (.int p5), .val (.int (4 : Int32)), .val (.ref b6), .unset] [(.int (p4.toInt8.toInt32)), (.int (2 : Int32)), (.ref b6)])) rfl rfl (hb hby at_42)
  have V_b6_9 := Arv.set Ar_b6 q_b6 S_b6 N_b6 H_b6 G_b6 (fits_nar_byte _) W9 2 rfl (Nat.le_of_ble_eq_true rfl)      -- the array as it stands now (the place must lie among its first values: Arv.pad with pad_rep lengthens them)
  have K9 : Keep h0 h9 [] := K8.wr W9 (Or.inr sz_b6)
  have N9 := Fr.snoc X9 N8 g_b6
  -- (bastore into a boolean[]: stZ in stB's place)
  obtain ⟨cl_b6_55, Ar_b6, q_b6, S_b6, N_b6, H_b6, G_b6⟩ := V_b6_9      -- open the array's fact as it stands now (its cell, kind, length, elements)
  have hin55 : ¬ ((3 : Int32) < 0 ∨ cl_b6_55.slots.size ≤ ((3 : Int32)).toNatClampNeg) := inb_of S_b6 ⟨by decide, by decide⟩
  obtain ⟨T10, h10, X10, e10, W10, st10⟩ := stB X9 hx hZ e9 Ar_b6 (j := (3 : Int32)) hin55 (g := (mkF m 55 #[.val (.int p1), .val (.int p2), .val (.int p3), .val (.int p4), .val (.int p5), .val (.int (4 : Int32)), .val (.ref b6), .unset] [(.int (p5.toInt8.toInt32)), (.int (3 : Int32)), (.ref b6)])) rfl rfl (hb hby at_55)
  have V_b6_10 := Arv.set Ar_b6 q_b6 S_b6 N_b6 H_b6 G_b6 (fits_nar_byte _) W10 3 rfl (Nat.le_of_ble_eq_true rfl)      -- the array as it stands now (the place must lie among its first values: Arv.pad with pad_rep lengthens them)
  have K10 : Keep h0 h10 [] := K9.wr W10 (Or.inr sz_b6)
  have N10 := Fr.snoc X10 N9 g_b6
  -- (bastore into a boolean[]: stZ in stB's place)
  obtain ⟨cI, ArI, qI, SI, NI, HI, GI⟩ := V_b6_10
  have FC : FitC Z cI := fitC_of ArI fun i hi v hv => by rw [HI i hi] at hv; cases hv; exact GI i hi
  obtain ⟨bO, gO⟩ : ∃ z, z = h10.size := ⟨_, rfl⟩
  have Zs : n0 ≤ h10.size := Nat.le_trans Z0 K10.1
  have ha72 : ¬ (bO = b6) := by rw [gO]; exact (Nat.ne_of_lt ArI.lt).symm
  -- pc 58: com/example/keyspace/keyspace/storage/KeyCodec.rangeDeletionsPrefix by its contract rm1
  obtain ⟨_, _, ⟨T11, L11, k11, n11⟩, -, X11, ⟨Lc11, hQ11, l11, y11, z11⟩, st11⟩ := Jvm.LawKit.callS X10 hx (y := (⟨"com/example/keyspace/keyspace/storage/KeyCodec", "rangeDeletionsPrefix", "([B)[B"⟩ : MethodName)) hown (mvT hZ (hw _ (List.mem_of_getElem? (i := 1) rfl))) (mvT hZ (hw _ (List.mem_of_getElem? (i := 2) rfl))) (mvT hZ (hw _ (List.mem_of_getElem? (i := 3) rfl))) (mvT hZ (hw _ (List.mem_of_getElem? (i := 4) rfl))) (by decide) (backOf (W := 0) (rm1 l Z a0 hw [] b6 cI bO h10 n0 Zs ArI ((((EB6.wr W7).wr W8).wr W9).wr W10) FC (by rw [SI]; decide) (inb_of SI ⟨by decide, by decide⟩) gO) hZ (hw _ (List.mem_of_getElem? (i := 4) rfl)) (hw _ (List.mem_of_getElem? (i := 3) rfl)) (by decide) (by decide)) (g := (mkF m 58 #[.val (.int p1), .val (.int p2), .val (.int p3), .val (.int p4), .val (.int p5), .val (.int (4 : Int32)), .val (.ref b6), .unset] [(.ref b6)])) rfl (by rw [hml]; rfl) (argsL := [(.ref b6)]) (rest := []) (lenOf pd_0_0 rfl) rfl (by show 2 * 0 + _ ≤ _; exact Nat.le_of_eq rfl) (hb hby at_58) (fun _ _ => ⟨rfl, e10, (by decide : 1 + 1 ≤ _), (by decide : 4 + 4 ≤ _)⟩)
  dsimp only [Pt.U, Pt.locs, Pt.cells, Pt.slots] at X11 l11 y11 z11 st11 hQ11
  subst l11 y11 z11
  obtain ⟨rfl, N11q, K11, Ar_bO⟩ := hQ11      -- what it returned, that it wrote nothing old, and the rest of your Q1
  have N11 := Fr.app N10 N11q
  have S_bO : ((cloneOf cI).setSlot ((0 : Int32)).toNatClampNeg (.int (nar .byte (1 : Int32)))).slots.size = (4 : Int32).toNatClampNeg := by rw [sz_set]; exact SI
  have N_bO : ¬ (4 : Int32) < 0 := by decide
  have Ar_b6 : Arr Z T11.heap b6 cI .byte := ⟨K11.2.1 b6 cI ArI.1 (by simp), ArI.2⟩
  have hin88 := inb_of S_bO (j := (0 : Int32)) ⟨by decide, by decide⟩
  have hat88 : ((cloneOf cI).setSlot ((0 : Int32)).toNatClampNeg (.int (nar .byte (1 : Int32)))).slots[((0 : Int32)).toNatClampNeg]? = some (.int (1 : Int32)) := get_hit (c := cloneOf cI) (j := (0 : Int32)) (inb_of (c := cloneOf cI) SI ⟨by decide, by decide⟩) rfl
  have hv0 : cI.slots[((0 : Int32)).toNatClampNeg]? = some (.int (p2.toInt8.toInt32)) := (HI 0 (by rw [SI]; decide)).trans (congrArg (fun z => some (Value.int z)) (own_b8 p2))
  have hin98 := inb_of SI (j := (0 : Int32)) ⟨by decide, by decide⟩
  have hat98 := hv0
  have hv1 : cI.slots[((1 : Int32)).toNatClampNeg]? = some (.int (p3.toInt8.toInt32)) := (HI 1 (by rw [SI]; decide)).trans (congrArg (fun z => some (Value.int z)) (own_b8 p3))
  have hin124 := inb_of SI (j := (1 : Int32)) ⟨by decide, by decide⟩
  have hat124 := hv1
  have hin115 := inb_of S_bO (j := (1 : Int32)) ⟨by decide, by decide⟩
  have hat115 : ((cloneOf cI).setSlot ((0 : Int32)).toNatClampNeg (.int (nar .byte (1 : Int32)))).slots[((1 : Int32)).toNatClampNeg]? = some (.int (p3.toInt8.toInt32)) := (get_miss (c := cloneOf cI) (j := (0 : Int32)) (k := (1 : Int32)) (by decide) (by decide) (by decide)).trans hv1
  have hv2 : cI.slots[((2 : Int32)).toNatClampNeg]? = some (.int (p4.toInt8.toInt32)) := (HI 2 (by rw [SI]; decide)).trans (congrArg (fun z => some (Value.int z)) (own_b8 p4))
  have hin150 := inb_of SI (j := (2 : Int32)) ⟨by decide, by decide⟩
  have hat150 := hv2
  have hin141 := inb_of S_bO (j := (2 : Int32)) ⟨by decide, by decide⟩
  have hat141 : ((cloneOf cI).setSlot ((0 : Int32)).toNatClampNeg (.int (nar .byte (1 : Int32)))).slots[((2 : Int32)).toNatClampNeg]? = some (.int (p4.toInt8.toInt32)) := (get_miss (c := cloneOf cI) (j := (0 : Int32)) (k := (2 : Int32)) (by decide) (by decide) (by decide)).trans hv2
  have hv3 : cI.slots[((3 : Int32)).toNatClampNeg]? = some (.int (p5.toInt8.toInt32)) := (HI 3 (by rw [SI]; decide)).trans (congrArg (fun z => some (Value.int z)) (own_b8 p5))
  have hin177 := inb_of SI (j := (3 : Int32)) ⟨by decide, by decide⟩
  have hat177 := hv3
  have hin167 := inb_of S_bO (j := (3 : Int32)) ⟨by decide, by decide⟩
  have hat167 : ((cloneOf cI).setSlot ((0 : Int32)).toNatClampNeg (.int (nar .byte (1 : Int32)))).slots[((3 : Int32)).toNatClampNeg]? = some (.int (p5.toInt8.toInt32)) := (get_miss (c := cloneOf cI) (j := (0 : Int32)) (k := (3 : Int32)) (by decide) (by decide) (by decide)).trans hv3
  -- pc 98: the array at b6: open its fact V_b6 (as at a store): Ar : Arr Z T11.heap b6 cl <kind>; hin98 : the place is inside; hat98 : cl.slots[place]? = some (.int (p2.toInt8.toInt32))
  -- pc 124: the array at b6: open its fact V_b6 (as at a store): Ar : Arr Z T11.heap b6 cl <kind>; hin124 : the place is inside; hat124 : cl.slots[place]? = some (.int (p3.toInt8.toInt32))
  -- pc 150: the array at b6: open its fact V_b6 (as at a store): Ar : Arr Z T11.heap b6 cl <kind>; hin150 : the place is inside; hat150 : cl.slots[place]? = some (.int (p4.toInt8.toInt32))
  -- pc 177: the array at b6: open its fact V_b6 (as at a store): Ar : Arr Z T11.heap b6 cl <kind>; hin177 : the place is inside; hat177 : cl.slots[place]? = some (.int (p5.toInt8.toInt32))
  obtain ⟨fs, hr, hrun, hended, hW, hsame⟩ := X11.leave (v := some (.int (1 : Int32))) (fun h => by rw [Bd.returns] at h; cases h)
  refine ⟨_, _, pre0 _ ?_, hrun, hended, _, _, rfl, ?_, ⟨_, rfl⟩, hW, hsame.mono (by decide) (by decide)⟩
  · show Steps p.tables e below (s₁.setTop (mkF m 0 #[.val (.int p1), .val (.int p2), .val (.int p3), .val (.int p4), .val (.int p5), .unset, .unset, .unset] [])) _
    refine XS.iloadN X0.here hx rfl (hb hby at_0) rfl ?_
    show Steps p.tables e below (s₁.setTop (mkF m 1 #[.val (.int p1), .val (.int p2), .val (.int p3), .val (.int p4), .val (.int p5), .unset, .unset, .unset] [(.int p1)])) _
    refine XS.iconst X0.here hx rfl (hb hby at_1) ?_
    show Steps p.tables e below (s₁.setTop (mkF m 2 #[.val (.int p1), .val (.int p2), .val (.int p3), .val (.int p4), .val (.int p5), .unset, .unset, .unset] [(.int (3 : Int32)), (.int p1)])) _
    refine XS.iand X0.here hx rfl (hb hby at_2) rfl ?_
    show Steps p.tables e below (s₁.setTop (mkF m 3 #[.val (.int p1), .val (.int p2), .val (.int p3), .val (.int p4), .val (.int p5), .unset, .unset, .unset] [(.int (p1 &&& (3 : Int32)))])) _
    refine XS.iconst X0.here hx rfl (hb hby at_3) ?_
    show Steps p.tables e below (s₁.setTop (mkF m 4 #[.val (.int p1), .val (.int p2), .val (.int p3), .val (.int p4), .val (.int p5), .unset, .unset, .unset] [(.int (1 : Int32)), (.int (p1 &&& (3 : Int32)))])) _
    refine XS.iadd X0.here hx rfl (hb hby at_4) rfl ?_
    show Steps p.tables e below (s₁.setTop (mkF m 5 #[.val (.int p1), .val (.int p2), .val (.int p3), .val (.int p4), .val (.int p5), .unset, .unset, .unset] [(.int ((p1 &&& (3 : Int32)) + (1 : Int32)))])) _
    refine XS.istore X0.here hx rfl (hb hby at_5) rfl (l' := #[.val (.int p1), .val (.int p2), .val (.int p3), .val (.int p4), .val (.int p5), .val (.int ((p1 &&& (3 : Int32)) + (1 : Int32))), .unset, .unset]) rfl ?_
    show Steps p.tables e below (s₁.setTop (mkF m 7 #[.val (.int p1), .val (.int p2), .val (.int p3), .val (.int p4), .val (.int p5), .val (.int ((p1 &&& (3 : Int32)) + (1 : Int32))), .unset, .unset] [])) _
    rw [en]
    show Steps p.tables e below (s₁.setTop (mkF m 7 #[.val (.int p1), .val (.int p2), .val (.int p3), .val (.int p4), .val (.int p5), .val (.int (4 : Int32)), .unset, .unset] [])) _
    refine XS.iload X0.here hx rfl (hb hby at_7) rfl ?_
    show Steps p.tables e below (s₁.setTop (mkF m 9 #[.val (.int p1), .val (.int p2), .val (.int p3), .val (.int p4), .val (.int p5), .val (.int (4 : Int32)), .unset, .unset] [(.int (4 : Int32))])) _
    refine st6 _ ?_
    show Steps p.tables e below (T6.setTop (mkF m 11 #[.val (.int p1), .val (.int p2), .val (.int p3), .val (.int p4), .val (.int p5), .val (.int (4 : Int32)), .unset, .unset] [(.ref b6)])) _
    refine XS.astore X6.here hx rfl (hb hby at_11) rfl rfl (l' := #[.val (.int p1), .val (.int p2), .val (.int p3), .val (.int p4), .val (.int p5), .val (.int (4 : Int32)), .val (.ref b6), .unset]) rfl ?_
    show Steps p.tables e below (T6.setTop (mkF m 13 #[.val (.int p1), .val (.int p2), .val (.int p3), .val (.int p4), .val (.int p5), .val (.int (4 : Int32)), .val (.ref b6), .unset] [])) _
    refine XS.aload X6.here hx rfl (hb hby at_13) rfl rfl ?_
    show Steps p.tables e below (T6.setTop (mkF m 15 #[.val (.int p1), .val (.int p2), .val (.int p3), .val (.int p4), .val (.int p5), .val (.int (4 : Int32)), .val (.ref b6), .unset] [(.ref b6)])) _
    refine XS.iconst X6.here hx rfl (hb hby at_15) ?_
    show Steps p.tables e below (T6.setTop (mkF m 16 #[.val (.int p1), .val (.int p2), .val (.int p3), .val (.int p4), .val (.int p5), .val (.int (4 : Int32)), .val (.ref b6), .unset] [(.int (0 : Int32)), (.ref b6)])) _
    refine XS.iloadN X6.here hx rfl (hb hby at_16) rfl ?_
    show Steps p.tables e below (T6.setTop (mkF m 17 #[.val (.int p1), .val (.int p2), .val (.int p3), .val (.int p4), .val (.int p5), .val (.int (4 : Int32)), .val (.ref b6), .unset] [(.int p2), (.int (0 : Int32)), (.ref b6)])) _
    refine XS.i2b X6.here hx rfl (hb hby at_17) rfl ?_
    show Steps p.tables e below (T6.setTop (mkF m 18 #[.val (.int p1), .val (.int p2), .val (.int p3), .val (.int p4), .val (.int p5), .val (.int (4 : Int32)), .val (.ref b6), .unset] [(.int (p2.toInt8.toInt32)), (.int (0 : Int32)), (.ref b6)])) _
    refine st7 _ ?_
    show Steps p.tables e below (T7.setTop (mkF m 19 #[.val (.int p1), .val (.int p2), .val (.int p3), .val (.int p4), .val (.int p5), .val (.int (4 : Int32)), .val (.ref b6), .unset] [])) _
    refine XS.iload X7.here hx rfl (hb hby at_19) rfl ?_
    show Steps p.tables e below (T7.setTop (mkF m 21 #[.val (.int p1), .val (.int p2), .val (.int p3), .val (.int p4), .val (.int p5), .val (.int (4 : Int32)), .val (.ref b6), .unset] [(.int (4 : Int32))])) _
    refine XS.iconst X7.here hx rfl (hb hby at_21) ?_
    show Steps p.tables e below (T7.setTop (mkF m 22 #[.val (.int p1), .val (.int p2), .val (.int p3), .val (.int p4), .val (.int p5), .val (.int (4 : Int32)), .val (.ref b6), .unset] [(.int (1 : Int32)), (.int (4 : Int32))])) _
    refine XS.icmpNo X7.here hx rfl (hb hby at_22) rfl (tlt hc22).2.2.2 ?_
    show Steps p.tables e below (T7.setTop (mkF m 25 #[.val (.int p1), .val (.int p2), .val (.int p3), .val (.int p4), .val (.int p5), .val (.int (4 : Int32)), .val (.ref b6), .unset] [])) _
    refine XS.aload X7.here hx rfl (hb hby at_25) rfl rfl ?_
    show Steps p.tables e below (T7.setTop (mkF m 27 #[.val (.int p1), .val (.int p2), .val (.int p3), .val (.int p4), .val (.int p5), .val (.int (4 : Int32)), .val (.ref b6), .unset] [(.ref b6)])) _
    refine XS.iconst X7.here hx rfl (hb hby at_27) ?_
    show Steps p.tables e below (T7.setTop (mkF m 28 #[.val (.int p1), .val (.int p2), .val (.int p3), .val (.int p4), .val (.int p5), .val (.int (4 : Int32)), .val (.ref b6), .unset] [(.int (1 : Int32)), (.ref b6)])) _
    refine XS.iloadN X7.here hx rfl (hb hby at_28) rfl ?_
    show Steps p.tables e below (T7.setTop (mkF m 29 #[.val (.int p1), .val (.int p2), .val (.int p3), .val (.int p4), .val (.int p5), .val (.int (4 : Int32)), .val (.ref b6), .unset] [(.int p3), (.int (1 : Int32)), (.ref b6)])) _
    refine XS.i2b X7.here hx rfl (hb hby at_29) rfl ?_
    show Steps p.tables e below (T7.setTop (mkF m 30 #[.val (.int p1), .val (.int p2), .val (.int p3), .val (.int p4), .val (.int p5), .val (.int (4 : Int32)), .val (.ref b6), .unset] [(.int (p3.toInt8.toInt32)), (.int (1 : Int32)), (.ref b6)])) _
    refine st8 _ ?_
    show Steps p.tables e below (T8.setTop (mkF m 31 #[.val (.int p1), .val (.int p2), .val (.int p3), .val (.int p4), .val (.int p5), .val (.int (4 : Int32)), .val (.ref b6), .unset] [])) _
    refine XS.iload X8.here hx rfl (hb hby at_31) rfl ?_
    show Steps p.tables e below (T8.setTop (mkF m 33 #[.val (.int p1), .val (.int p2), .val (.int p3), .val (.int p4), .val (.int p5), .val (.int (4 : Int32)), .val (.ref b6), .unset] [(.int (4 : Int32))])) _
    refine XS.iconst X8.here hx rfl (hb hby at_33) ?_
    show Steps p.tables e below (T8.setTop (mkF m 34 #[.val (.int p1), .val (.int p2), .val (.int p3), .val (.int p4), .val (.int p5), .val (.int (4 : Int32)), .val (.ref b6), .unset] [(.int (2 : Int32)), (.int (4 : Int32))])) _
    refine XS.icmpNo X8.here hx rfl (hb hby at_34) rfl (tlt hc34).2.2.2 ?_
    show Steps p.tables e below (T8.setTop (mkF m 37 #[.val (.int p1), .val (.int p2), .val (.int p3), .val (.int p4), .val (.int p5), .val (.int (4 : Int32)), .val (.ref b6), .unset] [])) _
    refine XS.aload X8.here hx rfl (hb hby at_37) rfl rfl ?_
    show Steps p.tables e below (T8.setTop (mkF m 39 #[.val (.int p1), .val (.int p2), .val (.int p3), .val (.int p4), .val (.int p5), .val (.int (4 : Int32)), .val (.ref b6), .unset] [(.ref b6)])) _
    refine XS.iconst X8.here hx rfl (hb hby at_39) ?_
    show Steps p.tables e below (T8.setTop (mkF m 40 #[.val (.int p1), .val (.int p2), .val (.int p3), .val (.int p4), .val (.int p5), .val (.int (4 : Int32)), .val (.ref b6), .unset] [(.int (2 : Int32)), (.ref b6)])) _
    refine XS.iloadN X8.here hx rfl (hb hby at_40) rfl ?_
    show Steps p.tables e below (T8.setTop (mkF m 41 #[.val (.int p1), .val (.int p2), .val (.int p3), .val (.int p4), .val (.int p5), .val (.int (4 : Int32)), .val (.ref b6), .unset] [(.int p4), (.int (2 : Int32)), (.ref b6)])) _
    refine XS.i2b X8.here hx rfl (hb hby at_41) rfl ?_
    show Steps p.tables e below (T8.setTop (mkF m 42 #[.val (.int p1), .val (.int p2), .val (.int p3), .val (.int p4), .val (.int p5), .val (.int (4 : Int32)), .val (.ref b6), .unset] [(.int (p4.toInt8.toInt32)), (.int (2 : Int32)), (.ref b6)])) _
    refine st9 _ ?_
    show Steps p.tables e below (T9.setTop (mkF m 43 #[.val (.int p1), .val (.int p2), .val (.int p3), .val (.int p4), .val (.int p5), .val (.int (4 : Int32)), .val (.ref b6), .unset] [])) _
    refine XS.iload X9.here hx rfl (hb hby at_43) rfl ?_
    show Steps p.tables e below (T9.setTop (mkF m 45 #[.val (.int p1), .val (.int p2), .val (.int p3), .val (.int p4), .val (.int p5), .val (.int (4 : Int32)), .val (.ref b6), .unset] [(.int (4 : Int32))])) _
    refine XS.iconst X9.here hx rfl (hb hby at_45) ?_
    show Steps p.tables e below (T9.setTop (mkF m 46 #[.val (.int p1), .val (.int p2), .val (.int p3), .val (.int p4), .val (.int p5), .val (.int (4 : Int32)), .val (.ref b6), .unset] [(.int (3 : Int32)), (.int (4 : Int32))])) _
    refine XS.icmpNo X9.here hx rfl (hb hby at_46) rfl (tlt hc46).2.2.2 ?_
    show Steps p.tables e below (T9.setTop (mkF m 49 #[.val (.int p1), .val (.int p2), .val (.int p3), .val (.int p4), .val (.int p5), .val (.int (4 : Int32)), .val (.ref b6), .unset] [])) _
    refine XS.aload X9.here hx rfl (hb hby at_49) rfl rfl ?_
    show Steps p.tables e below (T9.setTop (mkF m 51 #[.val (.int p1), .val (.int p2), .val (.int p3), .val (.int p4), .val (.int p5), .val (.int (4 : Int32)), .val (.ref b6), .unset] [(.ref b6)])) _
    refine XS.iconst X9.here hx rfl (hb hby at_51) ?_
    show Steps p.tables e below (T9.setTop (mkF m 52 #[.val (.int p1), .val (.int p2), .val (.int p3), .val (.int p4), .val (.int p5), .val (.int (4 : Int32)), .val (.ref b6), .unset] [(.int (3 : Int32)), (.ref b6)])) _
    refine XS.iload X9.here hx rfl (hb hby at_52) rfl ?_
    show Steps p.tables e below (T9.setTop (mkF m 54 #[.val (.int p1), .val (.int p2), .val (.int p3), .val (.int p4), .val (.int p5), .val (.int (4 : Int32)), .val (.ref b6), .unset] [(.int p5), (.int (3 : Int32)), (.ref b6)])) _
    refine XS.i2b X9.here hx rfl (hb hby at_54) rfl ?_
    show Steps p.tables e below (T9.setTop (mkF m 55 #[.val (.int p1), .val (.int p2), .val (.int p3), .val (.int p4), .val (.int p5), .val (.int (4 : Int32)), .val (.ref b6), .unset] [(.int (p5.toInt8.toInt32)), (.int (3 : Int32)), (.ref b6)])) _
    refine st10 _ ?_
    show Steps p.tables e below (T10.setTop (mkF m 56 #[.val (.int p1), .val (.int p2), .val (.int p3), .val (.int p4), .val (.int p5), .val (.int (4 : Int32)), .val (.ref b6), .unset] [])) _
    refine XS.aload X10.here hx rfl (hb hby at_56) rfl rfl ?_
    show Steps p.tables e below (T10.setTop (mkF m 58 #[.val (.int p1), .val (.int p2), .val (.int p3), .val (.int p4), .val (.int p5), .val (.int (4 : Int32)), .val (.ref b6), .unset] [(.ref b6)])) _
    refine st11 _ ?_
    show Steps p.tables e below (T11.setTop (mkF m 61 #[.val (.int p1), .val (.int p2), .val (.int p3), .val (.int p4), .val (.int p5), .val (.int (4 : Int32)), .val (.ref b6), .unset] [(.ref bO)])) _
    refine XS.astore X11.here hx rfl (hb hby at_61) rfl rfl (l' := #[.val (.int p1), .val (.int p2), .val (.int p3), .val (.int p4), .val (.int p5), .val (.int (4 : Int32)), .val (.ref b6), .val (.ref bO)]) rfl ?_
    show Steps p.tables e below (T11.setTop (mkF m 63 #[.val (.int p1), .val (.int p2), .val (.int p3), .val (.int p4), .val (.int p5), .val (.int (4 : Int32)), .val (.ref b6), .val (.ref bO)] [])) _
    refine XS.aload X11.here hx rfl (hb hby at_63) rfl rfl ?_
    show Steps p.tables e below (T11.setTop (mkF m 65 #[.val (.int p1), .val (.int p2), .val (.int p3), .val (.int p4), .val (.int p5), .val (.int (4 : Int32)), .val (.ref b6), .val (.ref bO)] [(.ref bO)])) _
    refine XS.ifnullNo X11.here hx rfl (hb hby at_65) rfl ?_
    show Steps p.tables e below (T11.setTop (mkF m 68 #[.val (.int p1), .val (.int p2), .val (.int p3), .val (.int p4), .val (.int p5), .val (.int (4 : Int32)), .val (.ref b6), .val (.ref bO)] [])) _
    refine XS.aload X11.here hx rfl (hb hby at_68) rfl rfl ?_
    show Steps p.tables e below (T11.setTop (mkF m 70 #[.val (.int p1), .val (.int p2), .val (.int p3), .val (.int p4), .val (.int p5), .val (.int (4 : Int32)), .val (.ref b6), .val (.ref bO)] [(.ref bO)])) _
    refine XS.aload X11.here hx rfl (hb hby at_70) rfl rfl ?_
    show Steps p.tables e below (T11.setTop (mkF m 72 #[.val (.int p1), .val (.int p2), .val (.int p3), .val (.int p4), .val (.int p5), .val (.int (4 : Int32)), .val (.ref b6), .val (.ref bO)] [(.ref b6), (.ref bO)])) _
    refine Jvm.RoadKit.acmp (g := (mkF m 72 #[.val (.int p1), .val (.int p2), .val (.int p3), .val (.int p4), .val (.int p5), .val (.int (4 : Int32)), .val (.ref b6), .val (.ref bO)] [(.ref b6), (.ref bO)])) X11 hx rfl rfl rfl (pc0 := 72) (pc' := 75) (same := false) rfl (hb hby at_72) rfl (decide_eq_false fun q => ha72 (Value.ref.inj q)) (by decide) (by decide) ?_
    show Steps p.tables e below (T11.setTop (mkF m 75 #[.val (.int p1), .val (.int p2), .val (.int p3), .val (.int p4), .val (.int p5), .val (.int (4 : Int32)), .val (.ref b6), .val (.ref bO)] [])) _
    refine XS.aload X11.here hx rfl (hb hby at_75) rfl rfl ?_
    show Steps p.tables e below (T11.setTop (mkF m 77 #[.val (.int p1), .val (.int p2), .val (.int p3), .val (.int p4), .val (.int p5), .val (.int (4 : Int32)), .val (.ref b6), .val (.ref bO)] [(.ref bO)])) _
    refine X11.arraylength hx Ar_bO.1 (State.isArrayOf_alike hZ.alike Ar_bO.2.1) (g := (mkF m 77 #[.val (.int p1), .val (.int p2), .val (.int p3), .val (.int p4), .val (.int p5), .val (.int (4 : Int32)), .val (.ref b6), .val (.ref bO)] [(.ref bO)])) rfl rfl (hb hby at_77) _ ?_
    rw [len_of S_bO N_bO]
    show Steps p.tables e below (T11.setTop (mkF m 78 #[.val (.int p1), .val (.int p2), .val (.int p3), .val (.int p4), .val (.int p5), .val (.int (4 : Int32)), .val (.ref b6), .val (.ref bO)] [(.int (4 : Int32))])) _
    refine XS.iload X11.here hx rfl (hb hby at_78) rfl ?_
    show Steps p.tables e below (T11.setTop (mkF m 80 #[.val (.int p1), .val (.int p2), .val (.int p3), .val (.int p4), .val (.int p5), .val (.int (4 : Int32)), .val (.ref b6), .val (.ref bO)] [(.int (4 : Int32)), (.int (4 : Int32))])) _
    refine XS.icmpYes X11.here hx rfl (pc0 := 80) (pc' := 85) rfl (hb hby at_80) rfl (teq hc80).1 (by decide) (by decide) ?_
    show Steps p.tables e below (T11.setTop (mkF m 85 #[.val (.int p1), .val (.int p2), .val (.int p3), .val (.int p4), .val (.int p5), .val (.int (4 : Int32)), .val (.ref b6), .val (.ref bO)] [])) _
    refine XS.aload X11.here hx rfl (hb hby at_85) rfl rfl ?_
    show Steps p.tables e below (T11.setTop (mkF m 87 #[.val (.int p1), .val (.int p2), .val (.int p3), .val (.int p4), .val (.int p5), .val (.int (4 : Int32)), .val (.ref b6), .val (.ref bO)] [(.ref bO)])) _
    refine XS.iconst X11.here hx rfl (hb hby at_87) ?_
    show Steps p.tables e below (T11.setTop (mkF m 88 #[.val (.int p1), .val (.int p2), .val (.int p3), .val (.int p4), .val (.int p5), .val (.int (4 : Int32)), .val (.ref b6), .val (.ref bO)] [(.int (0 : Int32)), (.ref bO)])) _
    refine X11.baloadBytes hx (j := (0 : Int32)) (v := (.int (1 : Int32))) Ar_bO.1 (State.isArrayOf_alike hZ.alike Ar_bO.2.1) Ar_bO.2.2 hin88 hat88 (g := (mkF m 88 #[.val (.int p1), .val (.int p2), .val (.int p3), .val (.int p4), .val (.int p5), .val (.int (4 : Int32)), .val (.ref b6), .val (.ref bO)] [(.int (0 : Int32)), (.ref bO)])) rfl rfl (hb hby at_88) _ ?_
    show Steps p.tables e below (T11.setTop (mkF m 89 #[.val (.int p1), .val (.int p2), .val (.int p3), .val (.int p4), .val (.int p5), .val (.int (4 : Int32)), .val (.ref b6), .val (.ref bO)] [(.int (1 : Int32))])) _
    refine XS.iconst X11.here hx rfl (hb hby at_89) ?_
    show Steps p.tables e below (T11.setTop (mkF m 90 #[.val (.int p1), .val (.int p2), .val (.int p3), .val (.int p4), .val (.int p5), .val (.int (4 : Int32)), .val (.ref b6), .val (.ref bO)] [(.int (1 : Int32)), (.int (1 : Int32))])) _
    refine XS.icmpYes X11.here hx rfl (pc0 := 90) (pc' := 95) rfl (hb hby at_90) rfl (teq hc90).1 (by decide) (by decide) ?_
    show Steps p.tables e below (T11.setTop (mkF m 95 #[.val (.int p1), .val (.int p2), .val (.int p3), .val (.int p4), .val (.int p5), .val (.int (4 : Int32)), .val (.ref b6), .val (.ref bO)] [])) _
    refine XS.aload X11.here hx rfl (hb hby at_95) rfl rfl ?_
    show Steps p.tables e below (T11.setTop (mkF m 97 #[.val (.int p1), .val (.int p2), .val (.int p3), .val (.int p4), .val (.int p5), .val (.int (4 : Int32)), .val (.ref b6), .val (.ref bO)] [(.ref b6)])) _
    refine XS.iconst X11.here hx rfl (hb hby at_97) ?_
    show Steps p.tables e below (T11.setTop (mkF m 98 #[.val (.int p1), .val (.int p2), .val (.int p3), .val (.int p4), .val (.int p5), .val (.int (4 : Int32)), .val (.ref b6), .val (.ref bO)] [(.int (0 : Int32)), (.ref b6)])) _
    refine X11.baloadBytes hx (j := (0 : Int32)) (v := (.int (p2.toInt8.toInt32))) Ar_b6.1 (State.isArrayOf_alike hZ.alike Ar_b6.2.1) Ar_b6.2.2 hin98 hat98 (g := (mkF m 98 #[.val (.int p1), .val (.int p2), .val (.int p3), .val (.int p4), .val (.int p5), .val (.int (4 : Int32)), .val (.ref b6), .val (.ref bO)] [(.int (0 : Int32)), (.ref b6)])) rfl rfl (hb hby at_98) _ ?_
    show Steps p.tables e below (T11.setTop (mkF m 99 #[.val (.int p1), .val (.int p2), .val (.int p3), .val (.int p4), .val (.int p5), .val (.int (4 : Int32)), .val (.ref b6), .val (.ref bO)] [(.int (p2.toInt8.toInt32))])) _
    refine XS.iloadN X11.here hx rfl (hb hby at_99) rfl ?_
    show Steps p.tables e below (T11.setTop (mkF m 100 #[.val (.int p1), .val (.int p2), .val (.int p3), .val (.int p4), .val (.int p5), .val (.int (4 : Int32)), .val (.ref b6), .val (.ref bO)] [(.int p2), (.int (p2.toInt8.toInt32))])) _
    refine XS.i2b X11.here hx rfl (hb hby at_100) rfl ?_
    show Steps p.tables e below (T11.setTop (mkF m 101 #[.val (.int p1), .val (.int p2), .val (.int p3), .val (.int p4), .val (.int p5), .val (.int (4 : Int32)), .val (.ref b6), .val (.ref bO)] [(.int (p2.toInt8.toInt32)), (.int (p2.toInt8.toInt32))])) _
    refine XS.icmpYes X11.here hx rfl (pc0 := 101) (pc' := 106) rfl (hb hby at_101) rfl (teq hc101).1 (by decide) (by decide) ?_
    show Steps p.tables e below (T11.setTop (mkF m 106 #[.val (.int p1), .val (.int p2), .val (.int p3), .val (.int p4), .val (.int p5), .val (.int (4 : Int32)), .val (.ref b6), .val (.ref bO)] [])) _
    refine XS.iload X11.here hx rfl (hb hby at_106) rfl ?_
    show Steps p.tables e below (T11.setTop (mkF m 108 #[.val (.int p1), .val (.int p2), .val (.int p3), .val (.int p4), .val (.int p5), .val (.int (4 : Int32)), .val (.ref b6), .val (.ref bO)] [(.int (4 : Int32))])) _
    refine XS.iconst X11.here hx rfl (hb hby at_108) ?_
    show Steps p.tables e below (T11.setTop (mkF m 109 #[.val (.int p1), .val (.int p2), .val (.int p3), .val (.int p4), .val (.int p5), .val (.int (4 : Int32)), .val (.ref b6), .val (.ref bO)] [(.int (1 : Int32)), (.int (4 : Int32))])) _
    refine XS.icmpNo X11.here hx rfl (hb hby at_109) rfl (tlt hc109).2.2.2 ?_
    show Steps p.tables e below (T11.setTop (mkF m 112 #[.val (.int p1), .val (.int p2), .val (.int p3), .val (.int p4), .val (.int p5), .val (.int (4 : Int32)), .val (.ref b6), .val (.ref bO)] [])) _
    refine XS.aload X11.here hx rfl (hb hby at_112) rfl rfl ?_
    show Steps p.tables e below (T11.setTop (mkF m 114 #[.val (.int p1), .val (.int p2), .val (.int p3), .val (.int p4), .val (.int p5), .val (.int (4 : Int32)), .val (.ref b6), .val (.ref bO)] [(.ref bO)])) _
    refine XS.iconst X11.here hx rfl (hb hby at_114) ?_
    show Steps p.tables e below (T11.setTop (mkF m 115 #[.val (.int p1), .val (.int p2), .val (.int p3), .val (.int p4), .val (.int p5), .val (.int (4 : Int32)), .val (.ref b6), .val (.ref bO)] [(.int (1 : Int32)), (.ref bO)])) _
    refine X11.baloadBytes hx (j := (1 : Int32)) (v := (.int (p3.toInt8.toInt32))) Ar_bO.1 (State.isArrayOf_alike hZ.alike Ar_bO.2.1) Ar_bO.2.2 hin115 hat115 (g := (mkF m 115 #[.val (.int p1), .val (.int p2), .val (.int p3), .val (.int p4), .val (.int p5), .val (.int (4 : Int32)), .val (.ref b6), .val (.ref bO)] [(.int (1 : Int32)), (.ref bO)])) rfl rfl (hb hby at_115) _ ?_
    show Steps p.tables e below (T11.setTop (mkF m 116 #[.val (.int p1), .val (.int p2), .val (.int p3), .val (.int p4), .val (.int p5), .val (.int (4 : Int32)), .val (.ref b6), .val (.ref bO)] [(.int (p3.toInt8.toInt32))])) _
    refine XS.iloadN X11.here hx rfl (hb hby at_116) rfl ?_
    show Steps p.tables e below (T11.setTop (mkF m 117 #[.val (.int p1), .val (.int p2), .val (.int p3), .val (.int p4), .val (.int p5), .val (.int (4 : Int32)), .val (.ref b6), .val (.ref bO)] [(.int p3), (.int (p3.toInt8.toInt32))])) _
    refine XS.i2b X11.here hx rfl (hb hby at_117) rfl ?_
    show Steps p.tables e below (T11.setTop (mkF m 118 #[.val (.int p1), .val (.int p2), .val (.int p3), .val (.int p4), .val (.int p5), .val (.int (4 : Int32)), .val (.ref b6), .val (.ref bO)] [(.int (p3.toInt8.toInt32)), (.int (p3.toInt8.toInt32))])) _
    refine XS.icmpNo X11.here hx rfl (hb hby at_118) rfl (teq hc118).2 ?_
    show Steps p.tables e below (T11.setTop (mkF m 121 #[.val (.int p1), .val (.int p2), .val (.int p3), .val (.int p4), .val (.int p5), .val (.int (4 : Int32)), .val (.ref b6), .val (.ref bO)] [])) _
    refine XS.aload X11.here hx rfl (hb hby at_121) rfl rfl ?_
    show Steps p.tables e below (T11.setTop (mkF m 123 #[.val (.int p1), .val (.int p2), .val (.int p3), .val (.int p4), .val (.int p5), .val (.int (4 : Int32)), .val (.ref b6), .val (.ref bO)] [(.ref b6)])) _
    refine XS.iconst X11.here hx rfl (hb hby at_123) ?_
    show Steps p.tables e below (T11.setTop (mkF m 124 #[.val (.int p1), .val (.int p2), .val (.int p3), .val (.int p4), .val (.int p5), .val (.int (4 : Int32)), .val (.ref b6), .val (.ref bO)] [(.int (1 : Int32)), (.ref b6)])) _
    refine X11.baloadBytes hx (j := (1 : Int32)) (v := (.int (p3.toInt8.toInt32))) Ar_b6.1 (State.isArrayOf_alike hZ.alike Ar_b6.2.1) Ar_b6.2.2 hin124 hat124 (g := (mkF m 124 #[.val (.int p1), .val (.int p2), .val (.int p3), .val (.int p4), .val (.int p5), .val (.int (4 : Int32)), .val (.ref b6), .val (.ref bO)] [(.int (1 : Int32)), (.ref b6)])) rfl rfl (hb hby at_124) _ ?_
    show Steps p.tables e below (T11.setTop (mkF m 125 #[.val (.int p1), .val (.int p2), .val (.int p3), .val (.int p4), .val (.int p5), .val (.int (4 : Int32)), .val (.ref b6), .val (.ref bO)] [(.int (p3.toInt8.toInt32))])) _
    refine XS.iloadN X11.here hx rfl (hb hby at_125) rfl ?_
    show Steps p.tables e below (T11.setTop (mkF m 126 #[.val (.int p1), .val (.int p2), .val (.int p3), .val (.int p4), .val (.int p5), .val (.int (4 : Int32)), .val (.ref b6), .val (.ref bO)] [(.int p3), (.int (p3.toInt8.toInt32))])) _
    refine XS.i2b X11.here hx rfl (hb hby at_126) rfl ?_
    show Steps p.tables e below (T11.setTop (mkF m 127 #[.val (.int p1), .val (.int p2), .val (.int p3), .val (.int p4), .val (.int p5), .val (.int (4 : Int32)), .val (.ref b6), .val (.ref bO)] [(.int (p3.toInt8.toInt32)), (.int (p3.toInt8.toInt32))])) _
    refine XS.icmpYes X11.here hx rfl (pc0 := 127) (pc' := 132) rfl (hb hby at_127) rfl (teq hc127).1 (by decide) (by decide) ?_
    show Steps p.tables e below (T11.setTop (mkF m 132 #[.val (.int p1), .val (.int p2), .val (.int p3), .val (.int p4), .val (.int p5), .val (.int (4 : Int32)), .val (.ref b6), .val (.ref bO)] [])) _
    refine XS.iload X11.here hx rfl (hb hby at_132) rfl ?_
    show Steps p.tables e below (T11.setTop (mkF m 134 #[.val (.int p1), .val (.int p2), .val (.int p3), .val (.int p4), .val (.int p5), .val (.int (4 : Int32)), .val (.ref b6), .val (.ref bO)] [(.int (4 : Int32))])) _
    refine XS.iconst X11.here hx rfl (hb hby at_134) ?_
    show Steps p.tables e below (T11.setTop (mkF m 135 #[.val (.int p1), .val (.int p2), .val (.int p3), .val (.int p4), .val (.int p5), .val (.int (4 : Int32)), .val (.ref b6), .val (.ref bO)] [(.int (2 : Int32)), (.int (4 : Int32))])) _
    refine XS.icmpNo X11.here hx rfl (hb hby at_135) rfl (tlt hc135).2.2.2 ?_
    show Steps p.tables e below (T11.setTop (mkF m 138 #[.val (.int p1), .val (.int p2), .val (.int p3), .val (.int p4), .val (.int p5), .val (.int (4 : Int32)), .val (.ref b6), .val (.ref bO)] [])) _
    refine XS.aload X11.here hx rfl (hb hby at_138) rfl rfl ?_
    show Steps p.tables e below (T11.setTop (mkF m 140 #[.val (.int p1), .val (.int p2), .val (.int p3), .val (.int p4), .val (.int p5), .val (.int (4 : Int32)), .val (.ref b6), .val (.ref bO)] [(.ref bO)])) _
    refine XS.iconst X11.here hx rfl (hb hby at_140) ?_
    show Steps p.tables e below (T11.setTop (mkF m 141 #[.val (.int p1), .val (.int p2), .val (.int p3), .val (.int p4), .val (.int p5), .val (.int (4 : Int32)), .val (.ref b6), .val (.ref bO)] [(.int (2 : Int32)), (.ref bO)])) _
    refine X11.baloadBytes hx (j := (2 : Int32)) (v := (.int (p4.toInt8.toInt32))) Ar_bO.1 (State.isArrayOf_alike hZ.alike Ar_bO.2.1) Ar_bO.2.2 hin141 hat141 (g := (mkF m 141 #[.val (.int p1), .val (.int p2), .val (.int p3), .val (.int p4), .val (.int p5), .val (.int (4 : Int32)), .val (.ref b6), .val (.ref bO)] [(.int (2 : Int32)), (.ref bO)])) rfl rfl (hb hby at_141) _ ?_
    show Steps p.tables e below (T11.setTop (mkF m 142 #[.val (.int p1), .val (.int p2), .val (.int p3), .val (.int p4), .val (.int p5), .val (.int (4 : Int32)), .val (.ref b6), .val (.ref bO)] [(.int (p4.toInt8.toInt32))])) _
    refine XS.iloadN X11.here hx rfl (hb hby at_142) rfl ?_
    show Steps p.tables e below (T11.setTop (mkF m 143 #[.val (.int p1), .val (.int p2), .val (.int p3), .val (.int p4), .val (.int p5), .val (.int (4 : Int32)), .val (.ref b6), .val (.ref bO)] [(.int p4), (.int (p4.toInt8.toInt32))])) _
    refine XS.i2b X11.here hx rfl (hb hby at_143) rfl ?_
    show Steps p.tables e below (T11.setTop (mkF m 144 #[.val (.int p1), .val (.int p2), .val (.int p3), .val (.int p4), .val (.int p5), .val (.int (4 : Int32)), .val (.ref b6), .val (.ref bO)] [(.int (p4.toInt8.toInt32)), (.int (p4.toInt8.toInt32))])) _
    refine XS.icmpNo X11.here hx rfl (hb hby at_144) rfl (teq hc144).2 ?_
    show Steps p.tables e below (T11.setTop (mkF m 147 #[.val (.int p1), .val (.int p2), .val (.int p3), .val (.int p4), .val (.int p5), .val (.int (4 : Int32)), .val (.ref b6), .val (.ref bO)] [])) _
    refine XS.aload X11.here hx rfl (hb hby at_147) rfl rfl ?_
    show Steps p.tables e below (T11.setTop (mkF m 149 #[.val (.int p1), .val (.int p2), .val (.int p3), .val (.int p4), .val (.int p5), .val (.int (4 : Int32)), .val (.ref b6), .val (.ref bO)] [(.ref b6)])) _
    refine XS.iconst X11.here hx rfl (hb hby at_149) ?_
    show Steps p.tables e below (T11.setTop (mkF m 150 #[.val (.int p1), .val (.int p2), .val (.int p3), .val (.int p4), .val (.int p5), .val (.int (4 : Int32)), .val (.ref b6), .val (.ref bO)] [(.int (2 : Int32)), (.ref b6)])) _
    refine X11.baloadBytes hx (j := (2 : Int32)) (v := (.int (p4.toInt8.toInt32))) Ar_b6.1 (State.isArrayOf_alike hZ.alike Ar_b6.2.1) Ar_b6.2.2 hin150 hat150 (g := (mkF m 150 #[.val (.int p1), .val (.int p2), .val (.int p3), .val (.int p4), .val (.int p5), .val (.int (4 : Int32)), .val (.ref b6), .val (.ref bO)] [(.int (2 : Int32)), (.ref b6)])) rfl rfl (hb hby at_150) _ ?_
    show Steps p.tables e below (T11.setTop (mkF m 151 #[.val (.int p1), .val (.int p2), .val (.int p3), .val (.int p4), .val (.int p5), .val (.int (4 : Int32)), .val (.ref b6), .val (.ref bO)] [(.int (p4.toInt8.toInt32))])) _
    refine XS.iloadN X11.here hx rfl (hb hby at_151) rfl ?_
    show Steps p.tables e below (T11.setTop (mkF m 152 #[.val (.int p1), .val (.int p2), .val (.int p3), .val (.int p4), .val (.int p5), .val (.int (4 : Int32)), .val (.ref b6), .val (.ref bO)] [(.int p4), (.int (p4.toInt8.toInt32))])) _
    refine XS.i2b X11.here hx rfl (hb hby at_152) rfl ?_
    show Steps p.tables e below (T11.setTop (mkF m 153 #[.val (.int p1), .val (.int p2), .val (.int p3), .val (.int p4), .val (.int p5), .val (.int (4 : Int32)), .val (.ref b6), .val (.ref bO)] [(.int (p4.toInt8.toInt32)), (.int (p4.toInt8.toInt32))])) _
    refine XS.icmpYes X11.here hx rfl (pc0 := 153) (pc' := 158) rfl (hb hby at_153) rfl (teq hc153).1 (by decide) (by decide) ?_
    show Steps p.tables e below (T11.setTop (mkF m 158 #[.val (.int p1), .val (.int p2), .val (.int p3), .val (.int p4), .val (.int p5), .val (.int (4 : Int32)), .val (.ref b6), .val (.ref bO)] [])) _
    refine XS.iload X11.here hx rfl (hb hby at_158) rfl ?_
    show Steps p.tables e below (T11.setTop (mkF m 160 #[.val (.int p1), .val (.int p2), .val (.int p3), .val (.int p4), .val (.int p5), .val (.int (4 : Int32)), .val (.ref b6), .val (.ref bO)] [(.int (4 : Int32))])) _
    refine XS.iconst X11.here hx rfl (hb hby at_160) ?_
    show Steps p.tables e below (T11.setTop (mkF m 161 #[.val (.int p1), .val (.int p2), .val (.int p3), .val (.int p4), .val (.int p5), .val (.int (4 : Int32)), .val (.ref b6), .val (.ref bO)] [(.int (3 : Int32)), (.int (4 : Int32))])) _
    refine XS.icmpNo X11.here hx rfl (hb hby at_161) rfl (tlt hc161).2.2.2 ?_
    show Steps p.tables e below (T11.setTop (mkF m 164 #[.val (.int p1), .val (.int p2), .val (.int p3), .val (.int p4), .val (.int p5), .val (.int (4 : Int32)), .val (.ref b6), .val (.ref bO)] [])) _
    refine XS.aload X11.here hx rfl (hb hby at_164) rfl rfl ?_
    show Steps p.tables e below (T11.setTop (mkF m 166 #[.val (.int p1), .val (.int p2), .val (.int p3), .val (.int p4), .val (.int p5), .val (.int (4 : Int32)), .val (.ref b6), .val (.ref bO)] [(.ref bO)])) _
    refine XS.iconst X11.here hx rfl (hb hby at_166) ?_
    show Steps p.tables e below (T11.setTop (mkF m 167 #[.val (.int p1), .val (.int p2), .val (.int p3), .val (.int p4), .val (.int p5), .val (.int (4 : Int32)), .val (.ref b6), .val (.ref bO)] [(.int (3 : Int32)), (.ref bO)])) _
    refine X11.baloadBytes hx (j := (3 : Int32)) (v := (.int (p5.toInt8.toInt32))) Ar_bO.1 (State.isArrayOf_alike hZ.alike Ar_bO.2.1) Ar_bO.2.2 hin167 hat167 (g := (mkF m 167 #[.val (.int p1), .val (.int p2), .val (.int p3), .val (.int p4), .val (.int p5), .val (.int (4 : Int32)), .val (.ref b6), .val (.ref bO)] [(.int (3 : Int32)), (.ref bO)])) rfl rfl (hb hby at_167) _ ?_
    show Steps p.tables e below (T11.setTop (mkF m 168 #[.val (.int p1), .val (.int p2), .val (.int p3), .val (.int p4), .val (.int p5), .val (.int (4 : Int32)), .val (.ref b6), .val (.ref bO)] [(.int (p5.toInt8.toInt32))])) _
    refine XS.iload X11.here hx rfl (hb hby at_168) rfl ?_
    show Steps p.tables e below (T11.setTop (mkF m 170 #[.val (.int p1), .val (.int p2), .val (.int p3), .val (.int p4), .val (.int p5), .val (.int (4 : Int32)), .val (.ref b6), .val (.ref bO)] [(.int p5), (.int (p5.toInt8.toInt32))])) _
    refine XS.i2b X11.here hx rfl (hb hby at_170) rfl ?_
    show Steps p.tables e below (T11.setTop (mkF m 171 #[.val (.int p1), .val (.int p2), .val (.int p3), .val (.int p4), .val (.int p5), .val (.int (4 : Int32)), .val (.ref b6), .val (.ref bO)] [(.int (p5.toInt8.toInt32)), (.int (p5.toInt8.toInt32))])) _
    refine XS.icmpNo X11.here hx rfl (hb hby at_171) rfl (teq hc171).2 ?_
    show Steps p.tables e below (T11.setTop (mkF m 174 #[.val (.int p1), .val (.int p2), .val (.int p3), .val (.int p4), .val (.int p5), .val (.int (4 : Int32)), .val (.ref b6), .val (.ref bO)] [])) _
    refine XS.aload X11.here hx rfl (hb hby at_174) rfl rfl ?_
    show Steps p.tables e below (T11.setTop (mkF m 176 #[.val (.int p1), .val (.int p2), .val (.int p3), .val (.int p4), .val (.int p5), .val (.int (4 : Int32)), .val (.ref b6), .val (.ref bO)] [(.ref b6)])) _
    refine XS.iconst X11.here hx rfl (hb hby at_176) ?_
    show Steps p.tables e below (T11.setTop (mkF m 177 #[.val (.int p1), .val (.int p2), .val (.int p3), .val (.int p4), .val (.int p5), .val (.int (4 : Int32)), .val (.ref b6), .val (.ref bO)] [(.int (3 : Int32)), (.ref b6)])) _
    refine X11.baloadBytes hx (j := (3 : Int32)) (v := (.int (p5.toInt8.toInt32))) Ar_b6.1 (State.isArrayOf_alike hZ.alike Ar_b6.2.1) Ar_b6.2.2 hin177 hat177 (g := (mkF m 177 #[.val (.int p1), .val (.int p2), .val (.int p3), .val (.int p4), .val (.int p5), .val (.int (4 : Int32)), .val (.ref b6), .val (.ref bO)] [(.int (3 : Int32)), (.ref b6)])) rfl rfl (hb hby at_177) _ ?_
    show Steps p.tables e below (T11.setTop (mkF m 178 #[.val (.int p1), .val (.int p2), .val (.int p3), .val (.int p4), .val (.int p5), .val (.int (4 : Int32)), .val (.ref b6), .val (.ref bO)] [(.int (p5.toInt8.toInt32))])) _
    refine XS.iload X11.here hx rfl (hb hby at_178) rfl ?_
    show Steps p.tables e below (T11.setTop (mkF m 180 #[.val (.int p1), .val (.int p2), .val (.int p3), .val (.int p4), .val (.int p5), .val (.int (4 : Int32)), .val (.ref b6), .val (.ref bO)] [(.int p5), (.int (p5.toInt8.toInt32))])) _
    refine XS.i2b X11.here hx rfl (hb hby at_180) rfl ?_
    show Steps p.tables e below (T11.setTop (mkF m 181 #[.val (.int p1), .val (.int p2), .val (.int p3), .val (.int p4), .val (.int p5), .val (.int (4 : Int32)), .val (.ref b6), .val (.ref bO)] [(.int (p5.toInt8.toInt32)), (.int (p5.toInt8.toInt32))])) _
    refine XS.icmpYes X11.here hx rfl (pc0 := 181) (pc' := 186) rfl (hb hby at_181) rfl (teq hc181).1 (by decide) (by decide) ?_
    show Steps p.tables e below (T11.setTop (mkF m 186 #[.val (.int p1), .val (.int p2), .val (.int p3), .val (.int p4), .val (.int p5), .val (.int (4 : Int32)), .val (.ref b6), .val (.ref bO)] [])) _
    refine XS.iconst X11.here hx rfl (hb hby at_186) ?_
    show Steps p.tables e below (T11.setTop (mkF m 187 #[.val (.int p1), .val (.int p2), .val (.int p3), .val (.int p4), .val (.int p5), .val (.int (4 : Int32)), .val (.ref b6), .val (.ref bO)] [(.int (1 : Int32))])) _
    exact retN X11 hx (t := .boolean) Bd.returns (by simp) (hb hby at_187) hr
  · show Q0 Z p1 p2 p3 p4 p5 h0 n0 _ T11.heap _
    exact ⟨rfl, N11⟩
theorem rm0 (l : Launch) (Z : State) (a0 : Array Value) (hw : ∀ d ∈ tables_1, d.before a0 Z = true) (ws : List Jvm.Cond) (p1 : Int32) (p2 : Int32) (p3 : Int32) (p4 : Int32) (p5 : Int32) (h0 : Heap) (n0 : Nat) (Z0 : n0 ≤ h0.size) :
    MetFree l x (head1 (Jvm.Cond.code x code maxLocals ret :: ws) room_1) (fun a U => a = #[(.int p1), (.int p2), (.int p3), (.int p4), (.int p5)] ∧ Z.Warmed39 U.vm ∧ U.heap = h0) (fun _ _ _ _ _ => True) (fun _ U o U' => ∃ v L, o = .returned v ∧ Q0 Z p1 p2 p3 p4 p5 h0 n0 v U'.heap L ∧ FrameEnd U o U' L room_1.cells room_1.slots) := by
  rcases own_n4 p1 with en | en | en | en
  · exact rm0_1 l Z a0 hw ws p1 p2 p3 p4 p5 h0 n0 Z0 en
  · exact rm0_2 l Z a0 hw ws p1 p2 p3 p4 p5 h0 n0 Z0 en
  · exact rm0_3 l Z a0 hw ws p1 p2 p3 p4 p5 h0 n0 Z0 en
  · exact rm0_4 l Z a0 hw ws p1 p2 p3 p4 p5 h0 n0 Z0 en
set_option maxRecDepth 65536 in
set_option maxHeartbeats 40000000 in
theorem comes_1 {Post : Tables → Env → Array Value → State → Outcome → State → Prop} (hpost : ∀ tb e args s v u, (limb_1_1.after args s (.returned v) u = true ∧ limb_1_2.after args s (.returned v) u = true ∧ True) → FrameEnd s (.returned v) u (Jvm.fieldLocs frame_1_writes args s ++ Jvm.arrayLocs frame_1_arrays args s ++ Jvm.staticLocs frame_1_statics s) 16 128 → Post tb e args s (.returned v) u) :
    ArmFor flags0 classFile x code maxLocals ret World_1 tables_1 room_1 Calls_1 rest_1 Pre_1 Post := by
  intro l hfl _ _ p e ha hc hk s m args below hf hA hF happ hP
  obtain ⟨hcalls, hrest, hpre⟩ := hP
  obtain ⟨-, -, -, hnamed, -, -, -, hat⟩ := (Spec.applies_iff hf).mp happ
  obtain ⟨hg, hn⟩ := and_e (Cond.before_iff.mp (show (Jvm.Cond.and given_1 narrow_1).before args s = true from hpre))
  obtain ⟨g20, g21⟩ := and_e hg
  obtain ⟨g22, g23⟩ := and_e g21
  obtain ⟨g24, g25⟩ := and_e g23
  obtain ⟨g26, g27⟩ := and_e g25
  obtain ⟨g28, g29⟩ := and_e g27
  obtain ⟨w0, w1, w2, w3, w4, rfl⟩ : ∃ w0 w1 w2 w3 w4 : Value, args = #[w0, w1, w2, w3, w4] := by
    have hs : args.size = 5 := by simpa [Cond.value, given_1] using g20
    obtain ⟨L⟩ := args
    match L, hs with
    | [w0, w1, w2, w3, w4], _ => exact ⟨w0, w1, w2, w3, w4, rfl⟩
  have hw := fun d (hd : d ∈ tables_1) => atoms_spec (ws := Jvm.Cond.code x code maxLocals ret :: tables_1) hat d (List.mem_cons_of_mem _ hd)
  have hfit : Fit s := fun {y c} hc i hi => by
    obtain ⟨ha, rfl⟩ := Array.getElem?_eq_some_iff.mp hc
    have q := List.all_eq_true.mp ((Array.all_eq_true_iff_forall_mem.mp hF) _ (Array.getElem_mem ha)) i (List.mem_range.mpr hi)
    simpa [Array.getElem?_eq_getElem hi] using q
  obtain ⟨i0, ei0⟩ := is_v g22
  obtain rfl : w0 = (.int i0) := Option.some.inj ei0
  obtain ⟨i1, ei1⟩ := is_v g24
  obtain rfl : w1 = (.int i1) := Option.some.inj ei1
  obtain ⟨i2, ei2⟩ := is_v g26
  obtain rfl : w2 = (.int i2) := Option.some.inj ei2
  obtain ⟨i3, ei3⟩ := is_v g28
  obtain rfl : w3 = (.int i3) := Option.some.inj ei3
  obtain ⟨i4, ei4⟩ := is_v g29
  obtain rfl : w4 = (.int i4) := Option.some.inj ei4
  obtain ⟨n, o, h1, h2, h3, _, L, rfl, ⟨rfl, N⟩, hq⟩ := rm0 l s _ hw tables_1 i0 i1 i2 i3 i4 s.heap s.heap.size (Nat.le_refl _) p e ha hc hk s m _ below hf ((Spec.applies_iff_loose hf).mp happ).1 ⟨rfl, State.Warmed39.refl s, rfl⟩ trivial
  refine ⟨n, _, h1, h2, h3, hpost _ _ _ _ _ _ ⟨Cond.after_iff.mpr rfl, Cond.after_iff.mpr (eq_i res_at (Term.int_eval (1)) rfl), trivial⟩ ⟨hq.1, hq.2.1, (hq.2.2.sift fun y hy => Or.inr (N y hy)).mono (by decide) (by decide)⟩⟩
theorem main_1_1 : Claimed_1_1 := comes_1 fun _ _ _ _ _ _ h hF => ⟨h.1, hF⟩
theorem main_1_2 : Claimed_1_2 := comes_1 fun _ _ _ _ _ _ h hF => ⟨h.2.1, hF⟩

end Jvm.Pilot.@@N@@
namespace Jvm.Pilot.@@N@@
open Jvm Jvm.ClassFile Sem Op Lib Jvm.Free Jvm.Stand Jvm.Pilot.@@N@@.Jvm.D
/-! MADE BY PROGRAM (witnessworld.py) out of the Statement's table words and the real class files: 9 classes; the members and pool entries that the words name. The judged class is class 1, her method 1. -/
namespace start1
open Jvm.ClassFile
def u (s : String) : CpInfo := .utf8 (stringToUtf16 s)
/-- a pool by its gaps: so many unusable entries, then the entry; so many at the end -/
def gap : Nat → List CpInfo → List CpInfo
  | 0, r => r
  | n + 1, r => .unusable :: gap n r
def poolList (es : List (Nat × CpInfo)) (last : Nat) : List CpInfo := es.foldr (fun e r => gap e.1 (e.2 :: r)) (gap last [])
def pool (es : List (Nat × CpInfo)) (last : Nat) : Array CpInfo := ⟨poolList es last⟩
def fileOf (pool : Array CpInfo) (this : Nat) (attrs : Array Attribute := #[]) (ms : Array MethodInfo := #[]) (fl : Nat := 33) (sup : Nat := 0) (ifs : Array Nat := #[]) (fds : Array FieldInfo := #[]) : ClassFile where
  minorVersion := 0
  majorVersion := 65
  constantPool := pool
  accessFlags := fl
  thisClass := this
  superClass := sup
  interfaces := ifs
  fields := fds
  methods := ms
  attributes := attrs
def plain (name : String) (sup : Option ClassId) : Class where
  name := name
  kind := .ordinary
  loader := none
  accessFlags := 33
  super := sup
  interfaces := #[]
  cf := none
  fields := #[]
  methods := #[]
  instanceTypes := #[]
  staticTypes := #[]
  resolved := #[]
  callSites := []
  init := .initialized
  statics := none
  mirror := none

def pool0 : Array CpInfo := pool [(5, u "<init>"), (0, u "()V"), (1, .class_ 10), (1, u "java/lang/Object"), (85, u "clone"), (0, u "()Ljava/lang/Object;")] 26

def k0m0 : Method := { name := "<init>", desc := "()V", sig := { parameters := [], returnType := none }, accessFlags := 1, code := none }
def k0m1 : Method := { name := "clone", desc := "()Ljava/lang/Object;", sig := { parameters := [], returnType := some (.object "java/lang/Object") }, accessFlags := 260, code := none }
/-- java/lang/Object -/
def k0 : Class := { plain "java/lang/Object" none with
  accessFlags := 33
  interfaces := #[]
  cf := some (fileOf pool0 8 #[] #[{ accessFlags := 1, nameIndex := 5, descriptorIndex := 6, attributes := #[] }, { accessFlags := 260, nameIndex := 96, descriptorIndex := 97, attributes := #[] }] 33 0 #[] #[])
  fields := #[]
  methods := #[k0m0, k0m1]
  instanceTypes := #[]
  staticTypes := #[]
  resolved := Array.replicate 124 none
  statics := none }

def pool1 : Array CpInfo := pool [(2, .class_ 4), (1, u "java/lang/Object"), (0, u "<init>"), (0, u "()V"), (0, .methodref 8 9), (0, .class_ 10), (0, .nameAndType 11 12), (0, u "com/example/keyspace/keyspace/storage/KeyCodec"), (0, u "rangeDeletionsPrefix"), (0, u "([B)[B"), (0, .class_ 14), (0, u "com/example/keyspace/keyspace/storage/KeyCodecRangeDeletionsPrefixPinLaw"), (2, u "law"), (0, u "(IIIII)Z")] 5

def k1m0 : Method := { name := "<init>", desc := "()V", sig := { parameters := [], returnType := none }, accessFlags := 2, code := none }
def k1c1 : Code := { maxStack := 3, maxLocals := 8, code := code, exceptionTable := #[], attributes := #[] }
def k1m1 : Method := { name := "law", desc := "(IIIII)Z", sig := { parameters := [.int, .int, .int, .int, .int], returnType := some .boolean }, accessFlags := 9, code := some k1c1 }
/-- com/example/keyspace/keyspace/storage/KeyCodecRangeDeletionsPrefixPinLaw -/
def k1 : Class := { plain "com/example/keyspace/keyspace/storage/KeyCodecRangeDeletionsPrefixPinLaw" (some 0) with
  accessFlags := 49
  interfaces := #[]
  cf := some (fileOf pool1 13 #[] #[{ accessFlags := 2, nameIndex := 5, descriptorIndex := 6, attributes := #[] }, { accessFlags := 9, nameIndex := 17, descriptorIndex := 18, attributes := #[] }] 49 2 #[] #[])
  fields := #[]
  methods := #[k1m0, k1m1]
  instanceTypes := #[]
  staticTypes := #[]
  resolved := Array.replicate 24 none
  statics := none }

def pool2 : Array CpInfo := pool [(2, .class_ 4), (1, u "java/lang/Object"), (0, u "<init>"), (0, u "()V"), (0, .class_ 8), (0, u "com/example/keyspace/keyspace/storage/KeyCodec"), (61, u "STATIC_ROW"), (0, u "[B"), (28, .methodref 101 102), (0, .class_ 71), (0, .nameAndType 103 104), (0, u "clone"), (0, u "()Ljava/lang/Object;"), (2, u "rangeDeletionsPrefix"), (0, u "([B)[B"), (44, .class_ 154), (0, u "com/example/keyspace/keyspace/storage/KeyCodec$CellKey"), (23, .class_ 179), (0, u "com/example/keyspace/keyspace/storage/KeyCodec$RangeDeletion"), (6, u "CELL"), (0, u "B"), (2, u "RANGE_DELETION"), (1, u "ELEMENT"), (1, u "TABLE_ID_LENGTH"), (0, u "I"), (1, u "TOKEN_LENGTH"), (1, u "TIMESTAMP_LENGTH"), (0, u "TO_THE_END"), (0, u "BOUNDED")] 24

def k2m0 : Method := { name := "<init>", desc := "()V", sig := { parameters := [], returnType := none }, accessFlags := 2, code := none }
def k2c1 : Code := { maxStack := 3, maxLocals := 2, code := prog_35_method_8_code, exceptionTable := #[], attributes := #[] }
def k2m1 : Method := { name := "rangeDeletionsPrefix", desc := "([B)[B", sig := { parameters := [(.array .byte)], returnType := some (.array .byte) }, accessFlags := 8, code := some k2c1 }
/-- com/example/keyspace/keyspace/storage/KeyCodec -/
def k2 : Class := { plain "com/example/keyspace/keyspace/storage/KeyCodec" (some 0) with
  accessFlags := 48
  interfaces := #[]
  cf := some (fileOf pool2 7 #[.nestMembers #[178, 153]] #[{ accessFlags := 2, nameIndex := 5, descriptorIndex := 6, attributes := #[] }, { accessFlags := 8, nameIndex := 107, descriptorIndex := 108, attributes := #[] }] 48 2 #[] #[{ accessFlags := 26, nameIndex := 186, descriptorIndex := 187, attributes := #[] }, { accessFlags := 26, nameIndex := 190, descriptorIndex := 187, attributes := #[] }, { accessFlags := 26, nameIndex := 192, descriptorIndex := 187, attributes := #[] }, { accessFlags := 26, nameIndex := 70, descriptorIndex := 71, attributes := #[] }, { accessFlags := 26, nameIndex := 194, descriptorIndex := 195, attributes := #[] }, { accessFlags := 26, nameIndex := 197, descriptorIndex := 195, attributes := #[] }, { accessFlags := 26, nameIndex := 199, descriptorIndex := 195, attributes := #[] }, { accessFlags := 26, nameIndex := 200, descriptorIndex := 187, attributes := #[] }, { accessFlags := 26, nameIndex := 201, descriptorIndex := 187, attributes := #[] }])
  fields := #[{ name := "CELL", type := .byte, accessFlags := 26, slot := 0, constantValue := 0 }, { name := "RANGE_DELETION", type := .byte, accessFlags := 26, slot := 1, constantValue := 0 }, { name := "ELEMENT", type := .byte, accessFlags := 26, slot := 2, constantValue := 0 }, { name := "STATIC_ROW", type := (.array .byte), accessFlags := 26, slot := 3, constantValue := 0 }, { name := "TABLE_ID_LENGTH", type := .int, accessFlags := 26, slot := 4, constantValue := 0 }, { name := "TOKEN_LENGTH", type := .int, accessFlags := 26, slot := 5, constantValue := 0 }, { name := "TIMESTAMP_LENGTH", type := .int, accessFlags := 26, slot := 6, constantValue := 0 }, { name := "TO_THE_END", type := .byte, accessFlags := 26, slot := 7, constantValue := 0 }, { name := "BOUNDED", type := .byte, accessFlags := 26, slot := 8, constantValue := 0 }]
  methods := #[k2m0, k2m1]
  instanceTypes := #[]
  staticTypes := #[.byte, .byte, .byte, (.array .byte), .int, .int, .int, .byte, .byte]
  resolved := Array.replicate 226 none
  statics := none }

def pool3 : Array CpInfo := pool [(1, .class_ 2), (0, u "java/lang/Cloneable"), (0, .class_ 4), (0, u "java/lang/Object")] 2

/-- java/lang/Cloneable -/
def k3 : Class := { plain "java/lang/Cloneable" (some 0) with
  accessFlags := 1537
  interfaces := #[]
  cf := some (fileOf pool3 1 #[] #[] 1537 3 #[] #[])
  fields := #[]
  methods := #[]
  instanceTypes := #[]
  staticTypes := #[]
  resolved := Array.replicate 7 none
  statics := none }

def pool4 : Array CpInfo := pool [(1, u "java/io/Serializable"), (0, .class_ 1), (0, u "java/lang/Object"), (0, .class_ 3)] 3

/-- java/io/Serializable -/
def k4 : Class := { plain "java/io/Serializable" (some 0) with
  accessFlags := 1537
  interfaces := #[]
  cf := some (fileOf pool4 2 #[] #[] 1537 4 #[] #[])
  fields := #[]
  methods := #[]
  instanceTypes := #[]
  staticTypes := #[]
  resolved := Array.replicate 8 none
  statics := none }

/-- the primitive byte -/
def k5 : Class := { plain "byte" none with kind := .primitive 'B', accessFlags := 0x411 }
/-- [B -/
def k6 : Class := { plain "[B" (some 0) with kind := .array 5 .byte, interfaces := #[3, 4], accessFlags := 1041 }

/-- the primitive int -/
def k7 : Class := { plain "int" none with kind := .primitive 'I', accessFlags := 0x411 }
/-- [I -/
def k8 : Class := { plain "[I" (some 0) with kind := .array 7 .int, interfaces := #[3, 4], accessFlags := 1041 }

def heap : Heap := #[]
def classes : Array Class := #[k0, k1, k2, k3, k4, k5, k6, k7, k8]
def interned : List (Array UInt16 × Addr) := []
def slotsUsed : Nat := 0
def theMethod : MethodId := ⟨1, 1⟩
def args0 : Array Value := #[.int 1, .int 2, .int 3, .int 4, .int 5]
def aboutOver (below : List Frame) : State where
  vm := { classes := classes, interned := interned.toArray }
  heap := heap
  slotsUsed := slotsUsed
  threads := #[{ frames := .invoking theMethod args0 :: below }]
def below0 : List Frame := [.native { method := ⟨0, 0⟩, args := #[] }]
def about1 : State := aboutOver below0
def p0 : Program := .bare "" "" ""
def e0 : Env := launch0.env 0 0 0
theorem w_frames : about1.frames = Frame.invoking theMethod args0 :: below0 := rfl
set_option maxRecDepth 65536 in
theorem w_args : argsFit about1.vm theMethod args0 = true := by decide +kernel
set_option maxRecDepth 65536 in
theorem w_heap : heapFits about1 = true := by decide +kernel
set_option maxRecDepth 65536 in
theorem w_runnable : about1.curStatus? = some .runnable := by decide +kernel
set_option maxRecDepth 65536 in
theorem w_alone : about1.alone = true := by decide +kernel
set_option maxRecDepth 65536 in
theorem w_named : about1.methodNamed? x = some theMethod := by decide +kernel
set_option maxRecDepth 65536 in
theorem w_hears : about1.hears theMethod below0 = true := by decide +kernel
set_option maxRecDepth 65536 in
theorem w_ripe : about1.ripe theMethod args0 below0 = true := by decide +kernel
theorem w_running : about1.status = .running := rfl
set_option maxRecDepth 65536 in
theorem w_room : about1.hasRoom e0.platform room_1 = true :=
  launch0.hasRoom_least _ room_1 (by decide +kernel) (by decide +kernel) (by decide +kernel) (by decide +kernel) (by decide +kernel) (by decide +kernel)
theorem allAtoms_all (ts : List Jvm.Cond) (a : Array Jvm.Value) (st : Jvm.State) : (allAtoms ts).before a st = ts.all (fun c => c.before a st) := by
  induction ts with
  | nil => rfl
  | cons c t ih =>
    show (Jvm.Cond.and c (allAtoms t)).before a st = _
    rw [Jvm.Cond.before_and, ih, List.all_cons]
def words1 : List Jvm.Cond := Jvm.Cond.code x code maxLocals ret :: tables_1
/-- a 'code' word, met by the world's own term for the bytes: nothing is compared byte by byte -/
theorem code_word {y : MethodName} {bytes : ByteArray} {mx : Nat} {rt : Option FieldType} {a : Array Value} {s : State} {m : MethodId} {meth : Method} {c : Code} (h1 : s.methodNamed? y = some m) (h2 : s.vm.method? m = some meth) (h3 : meth.code = some c) (h4 : c.code = bytes)
    (h5 : (c.maxLocals == mx && c.exceptionTable.isEmpty && decide (c.maxStack ≤ mostOperands) && decide (meth.sig.returnType = rt) && !meth.locks && decide (parseMethodDescriptor y.desc = some meth.sig)) = true) : (Jvm.Cond.code y bytes mx rt).before a s = true := by
  simp only [Bool.and_eq_true, beq_iff_eq, Bool.not_eq_true', decide_eq_true_eq] at h5
  obtain ⟨⟨⟨⟨⟨g1, g2⟩, g3⟩, g4⟩, g5⟩, g6⟩ := h5
  simp [Cond.before, Cond.holds, Cond.value, h1, h2, h3, h4, g1, g2, g3, g4, g5, g6]
def isCode : Jvm.Cond → Bool
  | .code _ _ _ _ => true
  | _ => false
theorem all_split {L : List Jvm.Cond} {P : Jvm.Cond → Bool} (h1 : L.all (fun c => isCode c || P c) = true) (h2 : ∀ c ∈ L.filter isCode, P c = true) : L.all P = true := by
  refine List.all_eq_true.mpr fun c hc => ?_
  have h := List.all_eq_true.mp h1 c hc
  rcases Bool.eq_false_or_eq_true (isCode c) with hi | hi
  · exact h2 c (List.mem_filter.mpr ⟨hc, hi⟩)
  · simpa [hi] using h
set_option maxRecDepth 65536 in
theorem w_c0 : (Jvm.Cond.code x code maxLocals ret).before args0 about1 = true := code_word (m := ⟨1, 1⟩) (meth := k1m1) (c := k1c1) (by decide +kernel) rfl rfl rfl (by decide +kernel)
set_option maxRecDepth 65536 in
theorem w_c1 : (Jvm.Cond.code ({ cls := "com/example/keyspace/keyspace/storage/KeyCodec", name := "rangeDeletionsPrefix", desc := "([B)[B" } : Jvm.MethodName) prog_35_method_8_code (2 : Nat) (Option.some (Jvm.ClassFile.FieldType.array Jvm.ClassFile.FieldType.byte))).before args0 about1 = true := code_word (m := ⟨2, 1⟩) (meth := k2m1) (c := k2c1) (by decide +kernel) rfl rfl rfl (by decide +kernel)
def codes1 : List Jvm.Cond := [Jvm.Cond.code x code maxLocals ret, Jvm.Cond.code ({ cls := "com/example/keyspace/keyspace/storage/KeyCodec", name := "rangeDeletionsPrefix", desc := "([B)[B" } : Jvm.MethodName) prog_35_method_8_code (2 : Nat) (Option.some (Jvm.ClassFile.FieldType.array Jvm.ClassFile.FieldType.byte))]
set_option maxRecDepth 65536 in
theorem codes_eq : words1.filter isCode = codes1 := rfl
theorem w_codes : ∀ c ∈ words1.filter isCode, c.before args0 about1 = true := by
  rw [codes_eq]
  intro c hc
  simp only [codes1, List.mem_cons, List.not_mem_nil, or_false] at hc
  rcases hc with rfl | rfl
  · exact w_c0
  · exact w_c1
set_option maxRecDepth 65536 in
theorem w_t1 : words1.all (fun c => isCode c || c.before args0 about1) = true := by decide +kernel
theorem w_tables : (allAtoms (Jvm.Cond.code x code maxLocals ret :: tables_1)).before args0 about1 = true := by
  rw [allAtoms_all]
  show words1.all (fun c => c.before args0 about1) = true
  refine all_split ?_ w_codes
  rw [w_t1]
set_option maxRecDepth 65536 in
theorem w_case : (Jvm.Cond.and given_1 narrow_1).before args0 about1 = true := by decide +kernel
theorem w_applies : (headSpec (Jvm.Cond.code x code maxLocals ret :: tables_1) room_1).applies x e0.platform about1 = true :=
  (Spec.applies_iff w_frames).mpr ⟨w_running, w_runnable, w_alone, w_named, w_hears, w_ripe, w_room, w_tables⟩
theorem atStart : AtStart classFile x code maxLocals ret World_1 tables_1 room_1 Calls_1 rest_1 Pre_1 launch0 p0 e0 about1 theMethod args0 below0 :=
  ⟨lists_1, trivial, launch0.admits_env _ _ _, launch0.least_env, fairChoices_fair.cas, fairChoices_fair.clock, w_frames, w_args, w_heap, w_applies, trivial, trivial, w_case⟩
end start1
theorem witness_1 : WitnessClaimed_1 := ⟨start1.p0, start1.e0, start1.about1, start1.theMethod, start1.args0, start1.below0, start1.atStart⟩
end Jvm.Pilot.@@N@@
