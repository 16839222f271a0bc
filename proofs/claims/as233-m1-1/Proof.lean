import JvmDerived
import JvmDerived.Pilot.@@N@@Statement
import JvmDerived.Pilot.@@N@@Code
set_option linter.unusedVariables false
set_option linter.unusedSimpArgs false
namespace Jvm.Pilot.@@N@@
open Jvm Jvm.ClassFile Sem Op Lib Jvm.Free Jvm.Stand Jvm.LawKit Jvm.RoadKit Bundle Jvm.Pilot.@@N@@.Jvm.D
/-- what isAllowedTtl returns -/
def own_ttl (t : Int64) : Int32 := if lcmpW t 100 < 0 then 0 else if 0 < lcmpW t 3600000 then 0 else 1
/-- the law's own reference -/
def own_ref (t : Int64) : Int32 := if 0 < lcmpW 100 t then 0 else if 0 < lcmpW t 3600000 then 0 else 1
theorem own_same (t : Int64) : own_ttl t = own_ref t := by
  unfold own_ttl own_ref
  simp only [lw_lt, lw_gt]
/-- the edge that the law picks, and what it expects there -/
def own_b (k : Int32) : Int64 := if (k &&& 7) = 0 then 99 else if (k &&& 7) = 1 then 100 else if (k &&& 7) = 2 then 3600000 else if (k &&& 7) = 3 then 3600001 else if (k &&& 7) = 4 then -9223372036854775808 else if (k &&& 7) = 5 then 9223372036854775807 else if (k &&& 7) = 6 then 10000 else 60000
def own_x (k : Int32) : Int32 := if (k &&& 7) = 0 then 0 else if (k &&& 7) = 1 then 1 else if (k &&& 7) = 2 then 1 else if (k &&& 7) = 3 then 0 else if (k &&& 7) = 4 then 0 else if (k &&& 7) = 5 then 0 else if (k &&& 7) = 6 then 1 else 1
theorem own_edges (k : Int32) : own_ttl (own_b k) = own_x k := by
  unfold own_b own_x
  repeat' split
  all_goals decide
theorem d1_0 : decode prog_19_method_3_code 0 = .ok (.lload_n 0, 1) := by decide +kernel
theorem d1_1 : decode prog_19_method_3_code 1 = .ok (.ldc2_w 9, 3) := by decide +kernel
theorem d1_4 : decode prog_19_method_3_code 4 = .ok (.lcmp, 1) := by decide +kernel
theorem d1_5 : decode prog_19_method_3_code 5 = .ok (.ifCond .lt 15, 3) := by decide +kernel
theorem d1_20 : decode prog_19_method_3_code 20 = .ok (.iconst 0, 1) := by decide +kernel
theorem d1_21 : decode prog_19_method_3_code 21 = .ok (.ireturn, 1) := by decide +kernel
theorem pn_1 : plainName "com/example/quorumd/quorumd/engine/LockRule" = true := by first | (simp [plainName, overriddenIn]; done) | decide +kernel
theorem ef_1 (m : MethodId) (x0 : Int64) : entryFrame m #[(.long x0)] 2 = mkF m 0 #[.val (.long x0), .second] [] := by first | (simp [entryFrame, mkF, argsToLocals, Value.category]; done) | rfl
theorem d1_8 : decode prog_19_method_3_code 8 = .ok (.lload_n 0, 1) := by decide +kernel
theorem d1_9 : decode prog_19_method_3_code 9 = .ok (.ldc2_w 11, 3) := by decide +kernel
theorem d1_12 : decode prog_19_method_3_code 12 = .ok (.lcmp, 1) := by decide +kernel
theorem d1_13 : decode prog_19_method_3_code 13 = .ok (.ifCond .gt 7, 3) := by decide +kernel
theorem d1_16 : decode prog_19_method_3_code 16 = .ok (.iconst 1, 1) := by decide +kernel
theorem d1_17 : decode prog_19_method_3_code 17 = .ok (.goto 4, 3) := by decide +kernel
def Q1 (Z : State) (q1 : Int64) (h0 : Heap) (n0 : Nat) (v : Option Value) (h : Heap) (L : List Loc) : Prop := v = some (.int (own_ttl q1)) ∧ Fr n0 L ∧ h = h0
set_option maxRecDepth 65536 in
set_option maxHeartbeats 40000000 in
theorem rm1 (l : Launch) (Z : State) (a0 : Array Value) (hw : ∀ d ∈ tables_1, d.before a0 Z = true) (ws : List Jvm.Cond) (q1 : Int64) (h0 : Heap) (n0 : Nat) (Z0 : n0 ≤ h0.size) :
    MetFree l (⟨"com/example/quorumd/quorumd/engine/LockRule", "isAllowedTtl", "(J)Z"⟩ : MethodName) (head1 (Jvm.Cond.code (⟨"com/example/quorumd/quorumd/engine/LockRule", "isAllowedTtl", "(J)Z"⟩ : MethodName) prog_19_method_3_code 2 (some .boolean) :: ws) ({ frames := 0, cells := 0, slots := 0, locals := 0 } : Room)) (fun a U => a = #[(.long q1)] ∧ Z.Warmed39 U.vm ∧ U.heap = h0) (fun _ _ _ _ _ => True) (fun _ U o U' => ∃ v L, o = .returned v ∧ Q1 Z q1 h0 n0 v U'.heap L ∧ FrameEnd U o U' L ({ frames := 0, cells := 0, slots := 0, locals := 0 } : Room).cells ({ frames := 0, cells := 0, slots := 0, locals := 0 } : Room).slots) := by
  refine MetFree.of_bodySF (plainFor_of_name pn_1) hisR ?_
  intro p e s m args below meth c s₁ Bd hml0 hP hK
  obtain ⟨rfl, hZ, hh⟩ := hP
  have hx := Bd.exec
  have hby := Bd.bytes
  have hml : c.maxLocals = 2 := hml0
  have hown : s.vm.findClass "com/example/quorumd/quorumd/engine/LockRule" = some m.cls := findClass_of_methodNamed Bd.named
  have hnm := (name_of_methodNamed Bd.named Bd.method).1
  have X0 : Stand p l e ({ frames := 0, cells := 0, slots := 0, locals := 0 } : Room) s m #[(.long q1)] below meth c s₁ [] 0 0 := Stand.of_body Bd
  have e0 : s₁.heap = h0 := by rw [← hh, Bd.state]; rfl
  have N0 := Fr.nil n0
  have pre0 : ∀ t, Steps p.tables e below (s₁.setTop (mkF m 0 #[.val (.long q1), .second] [])) t → Steps p.tables e below (s₁.setTop (entryFrame m #[(.long q1)] 2)) t := fun t k => castTop (ef_1 m q1) k

  obtain ⟨fs, hr, hrun, hended, hW, hsame⟩ := X0.leave (v := some (.int (own_ttl q1))) (fun h => by rw [Bd.returns] at h; cases h)
  refine ⟨_, _, pre0 _ ?_, hrun, hended, _, _, rfl, ?_, ⟨_, rfl⟩, hW, hsame.mono (by decide) (by decide)⟩
  · show Steps p.tables e below (s₁.setTop (mkF m 0 #[.val (.long q1), .second] [])) _
    refine XS.lloadN X0.here hx rfl (hb hby d1_0) rfl ?_
    show Steps p.tables e below (s₁.setTop (mkF m 1 #[.val (.long q1), .second] [(.long q1)])) _
    refine X0.ldc2Long hx hown (mvT hZ (hw _ (List.mem_of_getElem? (i := 5) rfl))) (g := (mkF m 1 #[.val (.long q1), .second] [(.long q1)])) rfl (hb hby d1_1) _ ?_
    show Steps p.tables e below (s₁.setTop (mkF m 4 #[.val (.long q1), .second] [(.long (100 : Int64)), (.long q1)])) _
    refine XS.lcmp X0.here hx rfl (hb hby d1_4) rfl ?_
    show Steps p.tables e below (s₁.setTop (mkF m 5 #[.val (.long q1), .second] [(.int (lcmpW q1 (100 : Int64)))])) _
    by_cases hc5 : (lcmpW q1 (100 : Int64)) < (0 : Int32)
    · refine XS.ifYes X0.here hx rfl (pc0 := 5) (pc' := 20) rfl (hb hby d1_5) rfl ((if0 _ _).trans (tlt hc5).1) (by decide) (by decide) ?_
      show Steps p.tables e below (s₁.setTop (mkF m 20 #[.val (.long q1), .second] [])) _
      refine XS.iconst X0.here hx rfl (hb hby d1_20) ?_
      show Steps p.tables e below (s₁.setTop (mkF m 21 #[.val (.long q1), .second] [(.int (0 : Int32))])) _
      rw [show own_ttl q1 = (0 : Int32) from by unfold own_ttl; rw [if_pos hc5]] at hr
      exact retN X0 hx (t := .boolean) Bd.returns (by simp) (hb hby d1_21) hr
    · refine XS.ifNo X0.here hx rfl (hb hby d1_5) rfl ((if0 _ _).trans (flt hc5).1) ?_
      show Steps p.tables e below (s₁.setTop (mkF m 8 #[.val (.long q1), .second] [])) _
      refine XS.lloadN X0.here hx rfl (hb hby d1_8) rfl ?_
      show Steps p.tables e below (s₁.setTop (mkF m 9 #[.val (.long q1), .second] [(.long q1)])) _
      refine X0.ldc2Long hx hown (mvT hZ (hw _ (List.mem_of_getElem? (i := 7) rfl))) (g := (mkF m 9 #[.val (.long q1), .second] [(.long q1)])) rfl (hb hby d1_9) _ ?_
      show Steps p.tables e below (s₁.setTop (mkF m 12 #[.val (.long q1), .second] [(.long (3600000 : Int64)), (.long q1)])) _
      refine XS.lcmp X0.here hx rfl (hb hby d1_12) rfl ?_
      show Steps p.tables e below (s₁.setTop (mkF m 13 #[.val (.long q1), .second] [(.int (lcmpW q1 (3600000 : Int64)))])) _
      by_cases hc13 : (0 : Int32) < (lcmpW q1 (3600000 : Int64))
      · refine XS.ifYes X0.here hx rfl (pc0 := 13) (pc' := 20) rfl (hb hby d1_13) rfl ((if0 _ _).trans (tlt hc13).2.2.1) (by decide) (by decide) ?_
        show Steps p.tables e below (s₁.setTop (mkF m 20 #[.val (.long q1), .second] [])) _
        refine XS.iconst X0.here hx rfl (hb hby d1_20) ?_
        show Steps p.tables e below (s₁.setTop (mkF m 21 #[.val (.long q1), .second] [(.int (0 : Int32))])) _
        rw [show own_ttl q1 = (0 : Int32) from by unfold own_ttl; rw [if_neg hc5, if_pos hc13]] at hr
        exact retN X0 hx (t := .boolean) Bd.returns (by simp) (hb hby d1_21) hr
      · refine XS.ifNo X0.here hx rfl (hb hby d1_13) rfl ((if0 _ _).trans (flt hc13).2.2.1) ?_
        show Steps p.tables e below (s₁.setTop (mkF m 16 #[.val (.long q1), .second] [])) _
        refine XS.iconst X0.here hx rfl (hb hby d1_16) ?_
        show Steps p.tables e below (s₁.setTop (mkF m 17 #[.val (.long q1), .second] [(.int (1 : Int32))])) _
        refine XS.goto X0.here hx rfl (pc0 := 17) (pc' := 21) rfl (hb hby d1_17) (by decide) (by decide) ?_
        show Steps p.tables e below (s₁.setTop (mkF m 21 #[.val (.long q1), .second] [(.int (1 : Int32))])) _
        rw [show own_ttl q1 = (1 : Int32) from by unfold own_ttl; rw [if_neg hc5, if_neg hc13]] at hr
        exact retN X0 hx (t := .boolean) Bd.returns (by simp) (hb hby d1_21) hr
  · show Q1 Z q1 h0 n0 _ s₁.heap _
    rw [e0]
    exact ⟨rfl, N0, rfl⟩
theorem os0_21 {z0 : Value} {s2 : Slot} {s3 : Slot} {s4 : Slot} {s5 : Slot} {s6 : Slot} {s7 : Slot} {v : Int32} (h : One s3) : storeLocals #[.val z0, .second, s2, s3, s4, s5, s6, s7] 3 (.int v) = some #[.val z0, .second, s2, .val (.int v), s4, s5, s6, s7] := by
  rcases h with rfl | ⟨w, rfl, hw⟩
  · rfl
  · cases w <;> first | rfl | (simp [Value.category] at hw)
set_option maxRecDepth 65536 in
set_option maxHeartbeats 40000000 in
theorem tn0_0_22 {p : Program} {l : Launch} {e : Env} {R : Room} {s : State} {m : MethodId} {args : Array Value} {below : List Frame} {meth : Method} {c : Code} {T0 : State} {locs : List Loc} {cells slots : Nat} {Z : State} {a0 : Array Value} {h0 : Heap} (j0 : Int64) (s2 : Slot) (s3 : Slot) (s4 : Slot) (s5 : Slot) (s6 : Slot) (s7 : Slot)
    (X0 : Stand p l e R s m args below meth c T0 locs cells slots) (hx : p.tables.exec = Jvm.exec) (hZ : Z.Warmed39 s.vm) (hw : ∀ d ∈ tables_1, d.before a0 Z = true) (hby : c.code = code) (hml : c.maxLocals = 8) (hown : s.vm.findClass "com/example/quorumd/quorumd/engine/LockRuleIsAllowedTtlPinLaw" = some m.cls) (e0 : T0.heap = h0) (hs3 : One s3) :
    ∀ target, Steps p.tables e below (T0.setTop (mkF m 22 #[.val (.long j0), .second, s2, .val (.int (own_ref j0)), s4, s5, s6, s7] [])) target → Steps p.tables e below (T0.setTop (mkF m 0 #[.val (.long j0), .second, s2, s3, s4, s5, s6, s7] [])) target := by
  intro target kt
  show Steps p.tables e below (T0.setTop (mkF m 0 #[.val (.long j0), .second, s2, s3, s4, s5, s6, s7] [])) _
  refine X0.ldc2Long hx hown (mvT hZ (hw _ (List.mem_of_getElem? (i := 0) rfl))) (g := (mkF m 0 #[.val (.long j0), .second, s2, s3, s4, s5, s6, s7] [])) rfl (hb hby at_0) _ ?_
  show Steps p.tables e below (T0.setTop (mkF m 3 #[.val (.long j0), .second, s2, s3, s4, s5, s6, s7] [(.long (100 : Int64))])) _
  refine XS.lloadN X0.here hx rfl (hb hby at_3) rfl ?_
  show Steps p.tables e below (T0.setTop (mkF m 4 #[.val (.long j0), .second, s2, s3, s4, s5, s6, s7] [(.long j0), (.long (100 : Int64))])) _
  refine XS.lcmp X0.here hx rfl (hb hby at_4) rfl ?_
  show Steps p.tables e below (T0.setTop (mkF m 5 #[.val (.long j0), .second, s2, s3, s4, s5, s6, s7] [(.int (lcmpW (100 : Int64) j0))])) _
  by_cases hc5 : (0 : Int32) < (lcmpW (100 : Int64) j0)
  · refine XS.ifYes X0.here hx rfl (pc0 := 5) (pc' := 20) rfl (hb hby at_5) rfl ((if0 _ _).trans (tlt hc5).2.2.1) (by decide) (by decide) ?_
    show Steps p.tables e below (T0.setTop (mkF m 20 #[.val (.long j0), .second, s2, s3, s4, s5, s6, s7] [])) _
    refine XS.iconst X0.here hx rfl (hb hby at_20) ?_
    show Steps p.tables e below (T0.setTop (mkF m 21 #[.val (.long j0), .second, s2, s3, s4, s5, s6, s7] [(.int (0 : Int32))])) _
    refine XS.istoreN X0.here hx rfl (hb hby at_21) rfl (l' := #[.val (.long j0), .second, s2, .val (.int (0 : Int32)), s4, s5, s6, s7]) (os0_21 hs3) ?_
    have ev : own_ref j0 = (0 : Int32) := by unfold own_ref; rw [if_pos hc5]
    rw [ev] at kt
    exact kt
  · refine XS.ifNo X0.here hx rfl (hb hby at_5) rfl ((if0 _ _).trans (flt hc5).2.2.1) ?_
    show Steps p.tables e below (T0.setTop (mkF m 8 #[.val (.long j0), .second, s2, s3, s4, s5, s6, s7] [])) _
    refine XS.lloadN X0.here hx rfl (hb hby at_8) rfl ?_
    show Steps p.tables e below (T0.setTop (mkF m 9 #[.val (.long j0), .second, s2, s3, s4, s5, s6, s7] [(.long j0)])) _
    refine X0.ldc2Long hx hown (mvT hZ (hw _ (List.mem_of_getElem? (i := 6) rfl))) (g := (mkF m 9 #[.val (.long j0), .second, s2, s3, s4, s5, s6, s7] [(.long j0)])) rfl (hb hby at_9) _ ?_
    show Steps p.tables e below (T0.setTop (mkF m 12 #[.val (.long j0), .second, s2, s3, s4, s5, s6, s7] [(.long (3600000 : Int64)), (.long j0)])) _
    refine XS.lcmp X0.here hx rfl (hb hby at_12) rfl ?_
    show Steps p.tables e below (T0.setTop (mkF m 13 #[.val (.long j0), .second, s2, s3, s4, s5, s6, s7] [(.int (lcmpW j0 (3600000 : Int64)))])) _
    by_cases hc13 : (0 : Int32) < (lcmpW j0 (3600000 : Int64))
    · refine XS.ifYes X0.here hx rfl (pc0 := 13) (pc' := 20) rfl (hb hby at_13) rfl ((if0 _ _).trans (tlt hc13).2.2.1) (by decide) (by decide) ?_
      show Steps p.tables e below (T0.setTop (mkF m 20 #[.val (.long j0), .second, s2, s3, s4, s5, s6, s7] [])) _
      refine XS.iconst X0.here hx rfl (hb hby at_20) ?_
      show Steps p.tables e below (T0.setTop (mkF m 21 #[.val (.long j0), .second, s2, s3, s4, s5, s6, s7] [(.int (0 : Int32))])) _
      refine XS.istoreN X0.here hx rfl (hb hby at_21) rfl (l' := #[.val (.long j0), .second, s2, .val (.int (0 : Int32)), s4, s5, s6, s7]) (os0_21 hs3) ?_
      have ev : own_ref j0 = (0 : Int32) := by unfold own_ref; rw [if_neg hc5, if_pos hc13]
      rw [ev] at kt
      exact kt
    · refine XS.ifNo X0.here hx rfl (hb hby at_13) rfl ((if0 _ _).trans (flt hc13).2.2.1) ?_
      show Steps p.tables e below (T0.setTop (mkF m 16 #[.val (.long j0), .second, s2, s3, s4, s5, s6, s7] [])) _
      refine XS.iconst X0.here hx rfl (hb hby at_16) ?_
      show Steps p.tables e below (T0.setTop (mkF m 17 #[.val (.long j0), .second, s2, s3, s4, s5, s6, s7] [(.int (1 : Int32))])) _
      refine XS.goto X0.here hx rfl (pc0 := 17) (pc' := 21) rfl (hb hby at_17) (by decide) (by decide) ?_
      show Steps p.tables e below (T0.setTop (mkF m 21 #[.val (.long j0), .second, s2, s3, s4, s5, s6, s7] [(.int (1 : Int32))])) _
      refine XS.istoreN X0.here hx rfl (hb hby at_21) rfl (l' := #[.val (.long j0), .second, s2, .val (.int (1 : Int32)), s4, s5, s6, s7]) (os0_21 hs3) ?_
      have ev : own_ref j0 = (1 : Int32) := by unfold own_ref; rw [if_neg hc5, if_neg hc13]
      rw [ev] at kt
      exact kt
set_option maxRecDepth 65536 in
set_option maxHeartbeats 40000000 in
theorem tn0_32_165 {p : Program} {l : Launch} {e : Env} {R : Room} {s : State} {m : MethodId} {args : Array Value} {below : List Frame} {meth : Method} {c : Code} {T0 : State} {locs : List Loc} {cells slots : Nat} {Z : State} {a0 : Array Value} {h0 : Heap} (j0 : Int64) (i2 : Int32) (i3 : Int32)
    (X0 : Stand p l e R s m args below meth c T0 locs cells slots) (hx : p.tables.exec = Jvm.exec) (hZ : Z.Warmed39 s.vm) (hw : ∀ d ∈ tables_1, d.before a0 Z = true) (hby : c.code = code) (hml : c.maxLocals = 8) (hown : s.vm.findClass "com/example/quorumd/quorumd/engine/LockRuleIsAllowedTtlPinLaw" = some m.cls) (e0 : T0.heap = h0) :
    ∀ target, Steps p.tables e below (T0.setTop (mkF m 165 #[.val (.long j0), .second, .val (.int i2), .val (.int i3), .val (.int (i2 &&& (7 : Int32))), .val (.long (own_b i2)), .second, .val (.int (own_x i2))] [])) target → Steps p.tables e below (T0.setTop (mkF m 32 #[.val (.long j0), .second, .val (.int i2), .val (.int i3), .unset, .unset, .unset, .unset] [])) target := by
  intro target kt
  show Steps p.tables e below (T0.setTop (mkF m 32 #[.val (.long j0), .second, .val (.int i2), .val (.int i3), .unset, .unset, .unset, .unset] [])) _
  refine XS.iloadN X0.here hx rfl (hb hby at_32) rfl ?_
  show Steps p.tables e below (T0.setTop (mkF m 33 #[.val (.long j0), .second, .val (.int i2), .val (.int i3), .unset, .unset, .unset, .unset] [(.int i2)])) _
  refine XS.bipush X0.here hx rfl (hb hby at_33) ?_
  show Steps p.tables e below (T0.setTop (mkF m 35 #[.val (.long j0), .second, .val (.int i2), .val (.int i3), .unset, .unset, .unset, .unset] [(.int (7 : Int32)), (.int i2)])) _
  refine XS.iand X0.here hx rfl (hb hby at_35) rfl ?_
  show Steps p.tables e below (T0.setTop (mkF m 36 #[.val (.long j0), .second, .val (.int i2), .val (.int i3), .unset, .unset, .unset, .unset] [(.int (i2 &&& (7 : Int32)))])) _
  refine XS.istore X0.here hx rfl (hb hby at_36) rfl (l' := #[.val (.long j0), .second, .val (.int i2), .val (.int i3), .val (.int (i2 &&& (7 : Int32))), .unset, .unset, .unset]) rfl ?_
  show Steps p.tables e below (T0.setTop (mkF m 38 #[.val (.long j0), .second, .val (.int i2), .val (.int i3), .val (.int (i2 &&& (7 : Int32))), .unset, .unset, .unset] [])) _
  refine XS.iload X0.here hx rfl (hb hby at_38) rfl ?_
  show Steps p.tables e below (T0.setTop (mkF m 40 #[.val (.long j0), .second, .val (.int i2), .val (.int i3), .val (.int (i2 &&& (7 : Int32))), .unset, .unset, .unset] [(.int (i2 &&& (7 : Int32)))])) _
  by_cases hc40 : (i2 &&& (7 : Int32)) = (0 : Int32)
  · refine XS.ifNo X0.here hx rfl (hb hby at_40) rfl ((if0 _ _).trans (teq hc40).2) ?_
    show Steps p.tables e below (T0.setTop (mkF m 43 #[.val (.long j0), .second, .val (.int i2), .val (.int i3), .val (.int (i2 &&& (7 : Int32))), .unset, .unset, .unset] [])) _
    refine X0.ldc2Long hx hown (mvT hZ (hw _ (List.mem_of_getElem? (i := 11) rfl))) (g := (mkF m 43 #[.val (.long j0), .second, .val (.int i2), .val (.int i3), .val (.int (i2 &&& (7 : Int32))), .unset, .unset, .unset] [])) rfl (hb hby at_43) _ ?_
    show Steps p.tables e below (T0.setTop (mkF m 46 #[.val (.long j0), .second, .val (.int i2), .val (.int i3), .val (.int (i2 &&& (7 : Int32))), .unset, .unset, .unset] [(.long (99 : Int64))])) _
    refine XS.lstore X0.here hx rfl (hb hby at_46) rfl (l' := #[.val (.long j0), .second, .val (.int i2), .val (.int i3), .val (.int (i2 &&& (7 : Int32))), .val (.long (99 : Int64)), .second, .unset]) rfl ?_
    show Steps p.tables e below (T0.setTop (mkF m 48 #[.val (.long j0), .second, .val (.int i2), .val (.int i3), .val (.int (i2 &&& (7 : Int32))), .val (.long (99 : Int64)), .second, .unset] [])) _
    refine XS.iconst X0.here hx rfl (hb hby at_48) ?_
    show Steps p.tables e below (T0.setTop (mkF m 49 #[.val (.long j0), .second, .val (.int i2), .val (.int i3), .val (.int (i2 &&& (7 : Int32))), .val (.long (99 : Int64)), .second, .unset] [(.int (0 : Int32))])) _
    refine XS.istore X0.here hx rfl (hb hby at_49) rfl (l' := #[.val (.long j0), .second, .val (.int i2), .val (.int i3), .val (.int (i2 &&& (7 : Int32))), .val (.long (99 : Int64)), .second, .val (.int (0 : Int32))]) rfl ?_
    show Steps p.tables e below (T0.setTop (mkF m 51 #[.val (.long j0), .second, .val (.int i2), .val (.int i3), .val (.int (i2 &&& (7 : Int32))), .val (.long (99 : Int64)), .second, .val (.int (0 : Int32))] [])) _
    refine XS.goto X0.here hx rfl (pc0 := 51) (pc' := 165) rfl (hb hby at_51) (by decide) (by decide) ?_
    have ev : own_b i2 = (99 : Int64) := by unfold own_b; rw [if_pos hc40]
    have ew : own_x i2 = (0 : Int32) := by unfold own_x; rw [if_pos hc40]
    rw [ev, ew] at kt
    exact kt
  · refine XS.ifYes X0.here hx rfl (pc0 := 40) (pc' := 54) rfl (hb hby at_40) rfl ((if0 _ _).trans (feq hc40).2) (by decide) (by decide) ?_
    show Steps p.tables e below (T0.setTop (mkF m 54 #[.val (.long j0), .second, .val (.int i2), .val (.int i3), .val (.int (i2 &&& (7 : Int32))), .unset, .unset, .unset] [])) _
    refine XS.iload X0.here hx rfl (hb hby at_54) rfl ?_
    show Steps p.tables e below (T0.setTop (mkF m 56 #[.val (.long j0), .second, .val (.int i2), .val (.int i3), .val (.int (i2 &&& (7 : Int32))), .unset, .unset, .unset] [(.int (i2 &&& (7 : Int32)))])) _
    refine XS.iconst X0.here hx rfl (hb hby at_56) ?_
    show Steps p.tables e below (T0.setTop (mkF m 57 #[.val (.long j0), .second, .val (.int i2), .val (.int i3), .val (.int (i2 &&& (7 : Int32))), .unset, .unset, .unset] [(.int (1 : Int32)), (.int (i2 &&& (7 : Int32)))])) _
    by_cases hc57 : (i2 &&& (7 : Int32)) = (1 : Int32)
    · refine XS.icmpNo X0.here hx rfl (hb hby at_57) rfl (teq hc57).2 ?_
      show Steps p.tables e below (T0.setTop (mkF m 60 #[.val (.long j0), .second, .val (.int i2), .val (.int i3), .val (.int (i2 &&& (7 : Int32))), .unset, .unset, .unset] [])) _
      refine X0.ldc2Long hx hown (mvT hZ (hw _ (List.mem_of_getElem? (i := 0) rfl))) (g := (mkF m 60 #[.val (.long j0), .second, .val (.int i2), .val (.int i3), .val (.int (i2 &&& (7 : Int32))), .unset, .unset, .unset] [])) rfl (hb hby at_60) _ ?_
      show Steps p.tables e below (T0.setTop (mkF m 63 #[.val (.long j0), .second, .val (.int i2), .val (.int i3), .val (.int (i2 &&& (7 : Int32))), .unset, .unset, .unset] [(.long (100 : Int64))])) _
      refine XS.lstore X0.here hx rfl (hb hby at_63) rfl (l' := #[.val (.long j0), .second, .val (.int i2), .val (.int i3), .val (.int (i2 &&& (7 : Int32))), .val (.long (100 : Int64)), .second, .unset]) rfl ?_
      show Steps p.tables e below (T0.setTop (mkF m 65 #[.val (.long j0), .second, .val (.int i2), .val (.int i3), .val (.int (i2 &&& (7 : Int32))), .val (.long (100 : Int64)), .second, .unset] [])) _
      refine XS.iconst X0.here hx rfl (hb hby at_65) ?_
      show Steps p.tables e below (T0.setTop (mkF m 66 #[.val (.long j0), .second, .val (.int i2), .val (.int i3), .val (.int (i2 &&& (7 : Int32))), .val (.long (100 : Int64)), .second, .unset] [(.int (1 : Int32))])) _
      refine XS.istore X0.here hx rfl (hb hby at_66) rfl (l' := #[.val (.long j0), .second, .val (.int i2), .val (.int i3), .val (.int (i2 &&& (7 : Int32))), .val (.long (100 : Int64)), .second, .val (.int (1 : Int32))]) rfl ?_
      show Steps p.tables e below (T0.setTop (mkF m 68 #[.val (.long j0), .second, .val (.int i2), .val (.int i3), .val (.int (i2 &&& (7 : Int32))), .val (.long (100 : Int64)), .second, .val (.int (1 : Int32))] [])) _
      refine XS.goto X0.here hx rfl (pc0 := 68) (pc' := 165) rfl (hb hby at_68) (by decide) (by decide) ?_
      have ev : own_b i2 = (100 : Int64) := by unfold own_b; rw [if_neg hc40, if_pos hc57]
      have ew : own_x i2 = (1 : Int32) := by unfold own_x; rw [if_neg hc40, if_pos hc57]
      rw [ev, ew] at kt
      exact kt
    · refine XS.icmpYes X0.here hx rfl (pc0 := 57) (pc' := 71) rfl (hb hby at_57) rfl (feq hc57).2 (by decide) (by decide) ?_
      show Steps p.tables e below (T0.setTop (mkF m 71 #[.val (.long j0), .second, .val (.int i2), .val (.int i3), .val (.int (i2 &&& (7 : Int32))), .unset, .unset, .unset] [])) _
      refine XS.iload X0.here hx rfl (hb hby at_71) rfl ?_
      show Steps p.tables e below (T0.setTop (mkF m 73 #[.val (.long j0), .second, .val (.int i2), .val (.int i3), .val (.int (i2 &&& (7 : Int32))), .unset, .unset, .unset] [(.int (i2 &&& (7 : Int32)))])) _
      refine XS.iconst X0.here hx rfl (hb hby at_73) ?_
      show Steps p.tables e below (T0.setTop (mkF m 74 #[.val (.long j0), .second, .val (.int i2), .val (.int i3), .val (.int (i2 &&& (7 : Int32))), .unset, .unset, .unset] [(.int (2 : Int32)), (.int (i2 &&& (7 : Int32)))])) _
      by_cases hc74 : (i2 &&& (7 : Int32)) = (2 : Int32)
      · refine XS.icmpNo X0.here hx rfl (hb hby at_74) rfl (teq hc74).2 ?_
        show Steps p.tables e below (T0.setTop (mkF m 77 #[.val (.long j0), .second, .val (.int i2), .val (.int i3), .val (.int (i2 &&& (7 : Int32))), .unset, .unset, .unset] [])) _
        refine X0.ldc2Long hx hown (mvT hZ (hw _ (List.mem_of_getElem? (i := 6) rfl))) (g := (mkF m 77 #[.val (.long j0), .second, .val (.int i2), .val (.int i3), .val (.int (i2 &&& (7 : Int32))), .unset, .unset, .unset] [])) rfl (hb hby at_77) _ ?_
        show Steps p.tables e below (T0.setTop (mkF m 80 #[.val (.long j0), .second, .val (.int i2), .val (.int i3), .val (.int (i2 &&& (7 : Int32))), .unset, .unset, .unset] [(.long (3600000 : Int64))])) _
        refine XS.lstore X0.here hx rfl (hb hby at_80) rfl (l' := #[.val (.long j0), .second, .val (.int i2), .val (.int i3), .val (.int (i2 &&& (7 : Int32))), .val (.long (3600000 : Int64)), .second, .unset]) rfl ?_
        show Steps p.tables e below (T0.setTop (mkF m 82 #[.val (.long j0), .second, .val (.int i2), .val (.int i3), .val (.int (i2 &&& (7 : Int32))), .val (.long (3600000 : Int64)), .second, .unset] [])) _
        refine XS.iconst X0.here hx rfl (hb hby at_82) ?_
        show Steps p.tables e below (T0.setTop (mkF m 83 #[.val (.long j0), .second, .val (.int i2), .val (.int i3), .val (.int (i2 &&& (7 : Int32))), .val (.long (3600000 : Int64)), .second, .unset] [(.int (1 : Int32))])) _
        refine XS.istore X0.here hx rfl (hb hby at_83) rfl (l' := #[.val (.long j0), .second, .val (.int i2), .val (.int i3), .val (.int (i2 &&& (7 : Int32))), .val (.long (3600000 : Int64)), .second, .val (.int (1 : Int32))]) rfl ?_
        show Steps p.tables e below (T0.setTop (mkF m 85 #[.val (.long j0), .second, .val (.int i2), .val (.int i3), .val (.int (i2 &&& (7 : Int32))), .val (.long (3600000 : Int64)), .second, .val (.int (1 : Int32))] [])) _
        refine XS.goto X0.here hx rfl (pc0 := 85) (pc' := 165) rfl (hb hby at_85) (by decide) (by decide) ?_
        have ev : own_b i2 = (3600000 : Int64) := by unfold own_b; rw [if_neg hc40, if_neg hc57, if_pos hc74]
        have ew : own_x i2 = (1 : Int32) := by unfold own_x; rw [if_neg hc40, if_neg hc57, if_pos hc74]
        rw [ev, ew] at kt
        exact kt
      · refine XS.icmpYes X0.here hx rfl (pc0 := 74) (pc' := 88) rfl (hb hby at_74) rfl (feq hc74).2 (by decide) (by decide) ?_
        show Steps p.tables e below (T0.setTop (mkF m 88 #[.val (.long j0), .second, .val (.int i2), .val (.int i3), .val (.int (i2 &&& (7 : Int32))), .unset, .unset, .unset] [])) _
        refine XS.iload X0.here hx rfl (hb hby at_88) rfl ?_
        show Steps p.tables e below (T0.setTop (mkF m 90 #[.val (.long j0), .second, .val (.int i2), .val (.int i3), .val (.int (i2 &&& (7 : Int32))), .unset, .unset, .unset] [(.int (i2 &&& (7 : Int32)))])) _
        refine XS.iconst X0.here hx rfl (hb hby at_90) ?_
        show Steps p.tables e below (T0.setTop (mkF m 91 #[.val (.long j0), .second, .val (.int i2), .val (.int i3), .val (.int (i2 &&& (7 : Int32))), .unset, .unset, .unset] [(.int (3 : Int32)), (.int (i2 &&& (7 : Int32)))])) _
        by_cases hc91 : (i2 &&& (7 : Int32)) = (3 : Int32)
        · refine XS.icmpNo X0.here hx rfl (hb hby at_91) rfl (teq hc91).2 ?_
          show Steps p.tables e below (T0.setTop (mkF m 94 #[.val (.long j0), .second, .val (.int i2), .val (.int i3), .val (.int (i2 &&& (7 : Int32))), .unset, .unset, .unset] [])) _
          refine X0.ldc2Long hx hown (mvT hZ (hw _ (List.mem_of_getElem? (i := 12) rfl))) (g := (mkF m 94 #[.val (.long j0), .second, .val (.int i2), .val (.int i3), .val (.int (i2 &&& (7 : Int32))), .unset, .unset, .unset] [])) rfl (hb hby at_94) _ ?_
          show Steps p.tables e below (T0.setTop (mkF m 97 #[.val (.long j0), .second, .val (.int i2), .val (.int i3), .val (.int (i2 &&& (7 : Int32))), .unset, .unset, .unset] [(.long (3600001 : Int64))])) _
          refine XS.lstore X0.here hx rfl (hb hby at_97) rfl (l' := #[.val (.long j0), .second, .val (.int i2), .val (.int i3), .val (.int (i2 &&& (7 : Int32))), .val (.long (3600001 : Int64)), .second, .unset]) rfl ?_
          show Steps p.tables e below (T0.setTop (mkF m 99 #[.val (.long j0), .second, .val (.int i2), .val (.int i3), .val (.int (i2 &&& (7 : Int32))), .val (.long (3600001 : Int64)), .second, .unset] [])) _
          refine XS.iconst X0.here hx rfl (hb hby at_99) ?_
          show Steps p.tables e below (T0.setTop (mkF m 100 #[.val (.long j0), .second, .val (.int i2), .val (.int i3), .val (.int (i2 &&& (7 : Int32))), .val (.long (3600001 : Int64)), .second, .unset] [(.int (0 : Int32))])) _
          refine XS.istore X0.here hx rfl (hb hby at_100) rfl (l' := #[.val (.long j0), .second, .val (.int i2), .val (.int i3), .val (.int (i2 &&& (7 : Int32))), .val (.long (3600001 : Int64)), .second, .val (.int (0 : Int32))]) rfl ?_
          show Steps p.tables e below (T0.setTop (mkF m 102 #[.val (.long j0), .second, .val (.int i2), .val (.int i3), .val (.int (i2 &&& (7 : Int32))), .val (.long (3600001 : Int64)), .second, .val (.int (0 : Int32))] [])) _
          refine XS.goto X0.here hx rfl (pc0 := 102) (pc' := 165) rfl (hb hby at_102) (by decide) (by decide) ?_
          have ev : own_b i2 = (3600001 : Int64) := by unfold own_b; rw [if_neg hc40, if_neg hc57, if_neg hc74, if_pos hc91]
          have ew : own_x i2 = (0 : Int32) := by unfold own_x; rw [if_neg hc40, if_neg hc57, if_neg hc74, if_pos hc91]
          rw [ev, ew] at kt
          exact kt
        · refine XS.icmpYes X0.here hx rfl (pc0 := 91) (pc' := 105) rfl (hb hby at_91) rfl (feq hc91).2 (by decide) (by decide) ?_
          show Steps p.tables e below (T0.setTop (mkF m 105 #[.val (.long j0), .second, .val (.int i2), .val (.int i3), .val (.int (i2 &&& (7 : Int32))), .unset, .unset, .unset] [])) _
          refine XS.iload X0.here hx rfl (hb hby at_105) rfl ?_
          show Steps p.tables e below (T0.setTop (mkF m 107 #[.val (.long j0), .second, .val (.int i2), .val (.int i3), .val (.int (i2 &&& (7 : Int32))), .unset, .unset, .unset] [(.int (i2 &&& (7 : Int32)))])) _
          refine XS.iconst X0.here hx rfl (hb hby at_107) ?_
          show Steps p.tables e below (T0.setTop (mkF m 108 #[.val (.long j0), .second, .val (.int i2), .val (.int i3), .val (.int (i2 &&& (7 : Int32))), .unset, .unset, .unset] [(.int (4 : Int32)), (.int (i2 &&& (7 : Int32)))])) _
          by_cases hc108 : (i2 &&& (7 : Int32)) = (4 : Int32)
          · refine XS.icmpNo X0.here hx rfl (hb hby at_108) rfl (teq hc108).2 ?_
            show Steps p.tables e below (T0.setTop (mkF m 111 #[.val (.long j0), .second, .val (.int i2), .val (.int i3), .val (.int (i2 &&& (7 : Int32))), .unset, .unset, .unset] [])) _
            refine X0.ldc2Long hx hown (mvT hZ (hw _ (List.mem_of_getElem? (i := 8) rfl))) (g := (mkF m 111 #[.val (.long j0), .second, .val (.int i2), .val (.int i3), .val (.int (i2 &&& (7 : Int32))), .unset, .unset, .unset] [])) rfl (hb hby at_111) _ ?_
            show Steps p.tables e below (T0.setTop (mkF m 114 #[.val (.long j0), .second, .val (.int i2), .val (.int i3), .val (.int (i2 &&& (7 : Int32))), .unset, .unset, .unset] [(.long (-9223372036854775808 : Int64))])) _
            refine XS.lstore X0.here hx rfl (hb hby at_114) rfl (l' := #[.val (.long j0), .second, .val (.int i2), .val (.int i3), .val (.int (i2 &&& (7 : Int32))), .val (.long (-9223372036854775808 : Int64)), .second, .unset]) rfl ?_
            show Steps p.tables e below (T0.setTop (mkF m 116 #[.val (.long j0), .second, .val (.int i2), .val (.int i3), .val (.int (i2 &&& (7 : Int32))), .val (.long (-9223372036854775808 : Int64)), .second, .unset] [])) _
            refine XS.iconst X0.here hx rfl (hb hby at_116) ?_
            show Steps p.tables e below (T0.setTop (mkF m 117 #[.val (.long j0), .second, .val (.int i2), .val (.int i3), .val (.int (i2 &&& (7 : Int32))), .val (.long (-9223372036854775808 : Int64)), .second, .unset] [(.int (0 : Int32))])) _
            refine XS.istore X0.here hx rfl (hb hby at_117) rfl (l' := #[.val (.long j0), .second, .val (.int i2), .val (.int i3), .val (.int (i2 &&& (7 : Int32))), .val (.long (-9223372036854775808 : Int64)), .second, .val (.int (0 : Int32))]) rfl ?_
            show Steps p.tables e below (T0.setTop (mkF m 119 #[.val (.long j0), .second, .val (.int i2), .val (.int i3), .val (.int (i2 &&& (7 : Int32))), .val (.long (-9223372036854775808 : Int64)), .second, .val (.int (0 : Int32))] [])) _
            refine XS.goto X0.here hx rfl (pc0 := 119) (pc' := 165) rfl (hb hby at_119) (by decide) (by decide) ?_
            have ev : own_b i2 = (-9223372036854775808 : Int64) := by unfold own_b; rw [if_neg hc40, if_neg hc57, if_neg hc74, if_neg hc91, if_pos hc108]
            have ew : own_x i2 = (0 : Int32) := by unfold own_x; rw [if_neg hc40, if_neg hc57, if_neg hc74, if_neg hc91, if_pos hc108]
            rw [ev, ew] at kt
            exact kt
          · refine XS.icmpYes X0.here hx rfl (pc0 := 108) (pc' := 122) rfl (hb hby at_108) rfl (feq hc108).2 (by decide) (by decide) ?_
            show Steps p.tables e below (T0.setTop (mkF m 122 #[.val (.long j0), .second, .val (.int i2), .val (.int i3), .val (.int (i2 &&& (7 : Int32))), .unset, .unset, .unset] [])) _
            refine XS.iload X0.here hx rfl (hb hby at_122) rfl ?_
            show Steps p.tables e below (T0.setTop (mkF m 124 #[.val (.long j0), .second, .val (.int i2), .val (.int i3), .val (.int (i2 &&& (7 : Int32))), .unset, .unset, .unset] [(.int (i2 &&& (7 : Int32)))])) _
            refine XS.iconst X0.here hx rfl (hb hby at_124) ?_
            show Steps p.tables e below (T0.setTop (mkF m 125 #[.val (.long j0), .second, .val (.int i2), .val (.int i3), .val (.int (i2 &&& (7 : Int32))), .unset, .unset, .unset] [(.int (5 : Int32)), (.int (i2 &&& (7 : Int32)))])) _
            by_cases hc125 : (i2 &&& (7 : Int32)) = (5 : Int32)
            · refine XS.icmpNo X0.here hx rfl (hb hby at_125) rfl (teq hc125).2 ?_
              show Steps p.tables e below (T0.setTop (mkF m 128 #[.val (.long j0), .second, .val (.int i2), .val (.int i3), .val (.int (i2 &&& (7 : Int32))), .unset, .unset, .unset] [])) _
              refine X0.ldc2Long hx hown (mvT hZ (hw _ (List.mem_of_getElem? (i := 13) rfl))) (g := (mkF m 128 #[.val (.long j0), .second, .val (.int i2), .val (.int i3), .val (.int (i2 &&& (7 : Int32))), .unset, .unset, .unset] [])) rfl (hb hby at_128) _ ?_
              show Steps p.tables e below (T0.setTop (mkF m 131 #[.val (.long j0), .second, .val (.int i2), .val (.int i3), .val (.int (i2 &&& (7 : Int32))), .unset, .unset, .unset] [(.long (9223372036854775807 : Int64))])) _
              refine XS.lstore X0.here hx rfl (hb hby at_131) rfl (l' := #[.val (.long j0), .second, .val (.int i2), .val (.int i3), .val (.int (i2 &&& (7 : Int32))), .val (.long (9223372036854775807 : Int64)), .second, .unset]) rfl ?_
              show Steps p.tables e below (T0.setTop (mkF m 133 #[.val (.long j0), .second, .val (.int i2), .val (.int i3), .val (.int (i2 &&& (7 : Int32))), .val (.long (9223372036854775807 : Int64)), .second, .unset] [])) _
              refine XS.iconst X0.here hx rfl (hb hby at_133) ?_
              show Steps p.tables e below (T0.setTop (mkF m 134 #[.val (.long j0), .second, .val (.int i2), .val (.int i3), .val (.int (i2 &&& (7 : Int32))), .val (.long (9223372036854775807 : Int64)), .second, .unset] [(.int (0 : Int32))])) _
              refine XS.istore X0.here hx rfl (hb hby at_134) rfl (l' := #[.val (.long j0), .second, .val (.int i2), .val (.int i3), .val (.int (i2 &&& (7 : Int32))), .val (.long (9223372036854775807 : Int64)), .second, .val (.int (0 : Int32))]) rfl ?_
              show Steps p.tables e below (T0.setTop (mkF m 136 #[.val (.long j0), .second, .val (.int i2), .val (.int i3), .val (.int (i2 &&& (7 : Int32))), .val (.long (9223372036854775807 : Int64)), .second, .val (.int (0 : Int32))] [])) _
              refine XS.goto X0.here hx rfl (pc0 := 136) (pc' := 165) rfl (hb hby at_136) (by decide) (by decide) ?_
              have ev : own_b i2 = (9223372036854775807 : Int64) := by unfold own_b; rw [if_neg hc40, if_neg hc57, if_neg hc74, if_neg hc91, if_neg hc108, if_pos hc125]
              have ew : own_x i2 = (0 : Int32) := by unfold own_x; rw [if_neg hc40, if_neg hc57, if_neg hc74, if_neg hc91, if_neg hc108, if_pos hc125]
              rw [ev, ew] at kt
              exact kt
            · refine XS.icmpYes X0.here hx rfl (pc0 := 125) (pc' := 139) rfl (hb hby at_125) rfl (feq hc125).2 (by decide) (by decide) ?_
              show Steps p.tables e below (T0.setTop (mkF m 139 #[.val (.long j0), .second, .val (.int i2), .val (.int i3), .val (.int (i2 &&& (7 : Int32))), .unset, .unset, .unset] [])) _
              refine XS.iload X0.here hx rfl (hb hby at_139) rfl ?_
              show Steps p.tables e below (T0.setTop (mkF m 141 #[.val (.long j0), .second, .val (.int i2), .val (.int i3), .val (.int (i2 &&& (7 : Int32))), .unset, .unset, .unset] [(.int (i2 &&& (7 : Int32)))])) _
              refine XS.bipush X0.here hx rfl (hb hby at_141) ?_
              show Steps p.tables e below (T0.setTop (mkF m 143 #[.val (.long j0), .second, .val (.int i2), .val (.int i3), .val (.int (i2 &&& (7 : Int32))), .unset, .unset, .unset] [(.int (6 : Int32)), (.int (i2 &&& (7 : Int32)))])) _
              by_cases hc143 : (i2 &&& (7 : Int32)) = (6 : Int32)
              · refine XS.icmpNo X0.here hx rfl (hb hby at_143) rfl (teq hc143).2 ?_
                show Steps p.tables e below (T0.setTop (mkF m 146 #[.val (.long j0), .second, .val (.int i2), .val (.int i3), .val (.int (i2 &&& (7 : Int32))), .unset, .unset, .unset] [])) _
                refine X0.ldc2Long hx hown (mvT hZ (hw _ (List.mem_of_getElem? (i := 10) rfl))) (g := (mkF m 146 #[.val (.long j0), .second, .val (.int i2), .val (.int i3), .val (.int (i2 &&& (7 : Int32))), .unset, .unset, .unset] [])) rfl (hb hby at_146) _ ?_
                show Steps p.tables e below (T0.setTop (mkF m 149 #[.val (.long j0), .second, .val (.int i2), .val (.int i3), .val (.int (i2 &&& (7 : Int32))), .unset, .unset, .unset] [(.long (10000 : Int64))])) _
                refine XS.lstore X0.here hx rfl (hb hby at_149) rfl (l' := #[.val (.long j0), .second, .val (.int i2), .val (.int i3), .val (.int (i2 &&& (7 : Int32))), .val (.long (10000 : Int64)), .second, .unset]) rfl ?_
                show Steps p.tables e below (T0.setTop (mkF m 151 #[.val (.long j0), .second, .val (.int i2), .val (.int i3), .val (.int (i2 &&& (7 : Int32))), .val (.long (10000 : Int64)), .second, .unset] [])) _
                refine XS.iconst X0.here hx rfl (hb hby at_151) ?_
                show Steps p.tables e below (T0.setTop (mkF m 152 #[.val (.long j0), .second, .val (.int i2), .val (.int i3), .val (.int (i2 &&& (7 : Int32))), .val (.long (10000 : Int64)), .second, .unset] [(.int (1 : Int32))])) _
                refine XS.istore X0.here hx rfl (hb hby at_152) rfl (l' := #[.val (.long j0), .second, .val (.int i2), .val (.int i3), .val (.int (i2 &&& (7 : Int32))), .val (.long (10000 : Int64)), .second, .val (.int (1 : Int32))]) rfl ?_
                show Steps p.tables e below (T0.setTop (mkF m 154 #[.val (.long j0), .second, .val (.int i2), .val (.int i3), .val (.int (i2 &&& (7 : Int32))), .val (.long (10000 : Int64)), .second, .val (.int (1 : Int32))] [])) _
                refine XS.goto X0.here hx rfl (pc0 := 154) (pc' := 165) rfl (hb hby at_154) (by decide) (by decide) ?_
                have ev : own_b i2 = (10000 : Int64) := by unfold own_b; rw [if_neg hc40, if_neg hc57, if_neg hc74, if_neg hc91, if_neg hc108, if_neg hc125, if_pos hc143]
                have ew : own_x i2 = (1 : Int32) := by unfold own_x; rw [if_neg hc40, if_neg hc57, if_neg hc74, if_neg hc91, if_neg hc108, if_neg hc125, if_pos hc143]
                rw [ev, ew] at kt
                exact kt
              · refine XS.icmpYes X0.here hx rfl (pc0 := 143) (pc' := 157) rfl (hb hby at_143) rfl (feq hc143).2 (by decide) (by decide) ?_
                show Steps p.tables e below (T0.setTop (mkF m 157 #[.val (.long j0), .second, .val (.int i2), .val (.int i3), .val (.int (i2 &&& (7 : Int32))), .unset, .unset, .unset] [])) _
                refine X0.ldc2Long hx hown (mvT hZ (hw _ (List.mem_of_getElem? (i := 9) rfl))) (g := (mkF m 157 #[.val (.long j0), .second, .val (.int i2), .val (.int i3), .val (.int (i2 &&& (7 : Int32))), .unset, .unset, .unset] [])) rfl (hb hby at_157) _ ?_
                show Steps p.tables e below (T0.setTop (mkF m 160 #[.val (.long j0), .second, .val (.int i2), .val (.int i3), .val (.int (i2 &&& (7 : Int32))), .unset, .unset, .unset] [(.long (60000 : Int64))])) _
                refine XS.lstore X0.here hx rfl (hb hby at_160) rfl (l' := #[.val (.long j0), .second, .val (.int i2), .val (.int i3), .val (.int (i2 &&& (7 : Int32))), .val (.long (60000 : Int64)), .second, .unset]) rfl ?_
                show Steps p.tables e below (T0.setTop (mkF m 162 #[.val (.long j0), .second, .val (.int i2), .val (.int i3), .val (.int (i2 &&& (7 : Int32))), .val (.long (60000 : Int64)), .second, .unset] [])) _
                refine XS.iconst X0.here hx rfl (hb hby at_162) ?_
                show Steps p.tables e below (T0.setTop (mkF m 163 #[.val (.long j0), .second, .val (.int i2), .val (.int i3), .val (.int (i2 &&& (7 : Int32))), .val (.long (60000 : Int64)), .second, .unset] [(.int (1 : Int32))])) _
                refine XS.istore X0.here hx rfl (hb hby at_163) rfl (l' := #[.val (.long j0), .second, .val (.int i2), .val (.int i3), .val (.int (i2 &&& (7 : Int32))), .val (.long (60000 : Int64)), .second, .val (.int (1 : Int32))]) rfl ?_
                have ev : own_b i2 = (60000 : Int64) := by unfold own_b; rw [if_neg hc40, if_neg hc57, if_neg hc74, if_neg hc91, if_neg hc108, if_neg hc125, if_neg hc143]
                have ew : own_x i2 = (1 : Int32) := by unfold own_x; rw [if_neg hc40, if_neg hc57, if_neg hc74, if_neg hc91, if_neg hc108, if_neg hc125, if_neg hc143]
                rw [ev, ew] at kt
                exact kt
theorem pn_0 : plainName "com/example/quorumd/quorumd/engine/LockRuleIsAllowedTtlPinLaw" = true := by first | (simp [plainName, overriddenIn]; done) | decide +kernel
theorem pd_0_0 : parseMethodDescriptor "(J)Z" = some ⟨[.long], some .boolean⟩ := by decide +kernel
theorem ef_0 (m : MethodId) (x0 : Int64) (x1 : Int32) : entryFrame m #[(.long x0), (.int x1)] maxLocals = mkF m 0 #[.val (.long x0), .second, .val (.int x1), .unset, .unset, .unset, .unset, .unset] [] := by first | (simp [entryFrame, mkF, argsToLocals, Value.category, maxLocals]; done) | rfl
def Q0 (Z : State) (q1 : Int64) (p2 : Int32) (h0 : Heap) (n0 : Nat) (v : Option Value) (h : Heap) (L : List Loc) : Prop := v = some (.int (1 : Int32)) ∧ Fr n0 L
set_option maxRecDepth 65536 in
set_option maxHeartbeats 40000000 in
theorem rm0 (l : Launch) (Z : State) (a0 : Array Value) (hw : ∀ d ∈ tables_1, d.before a0 Z = true) (ws : List Jvm.Cond) (q1 : Int64) (p2 : Int32) (h0 : Heap) (n0 : Nat) (Z0 : n0 ≤ h0.size) :
    MetFree l x (head1 (Jvm.Cond.code x code maxLocals ret :: ws) room_1) (fun a U => a = #[(.long q1), (.int p2)] ∧ Z.Warmed39 U.vm ∧ U.heap = h0) (fun _ _ _ _ _ => True) (fun _ U o U' => ∃ v L, o = .returned v ∧ Q0 Z q1 p2 h0 n0 v U'.heap L ∧ FrameEnd U o U' L room_1.cells room_1.slots) := by
  refine MetFree.of_bodySF (plainFor_of_name pn_0) hisR ?_
  intro p e s m args below meth c s₁ Bd hml0 hP hK
  obtain ⟨rfl, hZ, hh⟩ := hP
  have hx := Bd.exec
  have hby := Bd.bytes
  have hml : c.maxLocals = 8 := hml0
  have hown : s.vm.findClass "com/example/quorumd/quorumd/engine/LockRuleIsAllowedTtlPinLaw" = some m.cls := findClass_of_methodNamed Bd.named
  have hnm := (name_of_methodNamed Bd.named Bd.method).1
  have X0 : Stand p l e room_1 s m #[(.long q1), (.int p2)] below meth c s₁ [] 0 0 := Stand.of_body Bd
  have e0 : s₁.heap = h0 := by rw [← hh, Bd.state]; rfl
  have N0 := Fr.nil n0
  have pre0 : ∀ t, Steps p.tables e below (s₁.setTop (mkF m 0 #[.val (.long q1), .second, .val (.int p2), .unset, .unset, .unset, .unset, .unset] [])) t → Steps p.tables e below (s₁.setTop (entryFrame m #[(.long q1), (.int p2)] maxLocals)) t := fun t k => castTop (ef_0 m q1 p2) k
  have hc27 : (own_ttl q1) = (own_ref q1) := own_same q1
  have hc172 : (own_ttl (own_b p2)) = (own_x p2) := own_edges p2
  -- 3. LAWS
  -- pc 23: com/example/quorumd/quorumd/engine/LockRule.isAllowedTtl by its contract rm1
  obtain ⟨_, _, ⟨T3, L3, k3, n3⟩, -, X3, ⟨Lc3, hQ3, l3, y3, z3⟩, st3⟩ := Jvm.LawKit.callS X0 hx (y := (⟨"com/example/quorumd/quorumd/engine/LockRule", "isAllowedTtl", "(J)Z"⟩ : MethodName)) hown (mvT hZ (hw _ (List.mem_of_getElem? (i := 1) rfl))) (mvT hZ (hw _ (List.mem_of_getElem? (i := 2) rfl))) (mvT hZ (hw _ (List.mem_of_getElem? (i := 3) rfl))) (mvT hZ (hw _ (List.mem_of_getElem? (i := 4) rfl))) (by decide) (backOf (W := 0) (rm1 l Z a0 hw [] q1  h0 n0 Z0) hZ (hw _ (List.mem_of_getElem? (i := 4) rfl)) (hw _ (List.mem_of_getElem? (i := 3) rfl)) (by decide) (by decide)) (g := (mkF m 23 #[.val (.long q1), .second, .val (.int p2), .val (.int (own_ref q1)), .unset, .unset, .unset, .unset] [(.long q1)])) rfl (by rw [hml]; rfl) (argsL := [(.long q1)]) (rest := []) (lenOf pd_0_0 rfl) rfl (by show 2 * 0 + _ ≤ _; exact Nat.le_of_eq rfl) (hb hby at_23) (fun _ _ => ⟨rfl, e0, (by decide : 0 + 0 ≤ _), (by decide : 0 + 0 ≤ _)⟩)
  dsimp only [Pt.U, Pt.locs, Pt.cells, Pt.slots] at X3 l3 y3 z3 st3 hQ3
  subst l3 y3 z3
  obtain ⟨rfl, N3q, q3⟩ := hQ3      -- what it returned, that it wrote nothing old, and the rest of your Q1
  have N3 := Fr.app N0 N3q
  -- pc 167: com/example/quorumd/quorumd/engine/LockRule.isAllowedTtl by its contract rm1
  obtain ⟨_, _, ⟨T4, L4, k4, n4⟩, -, X4, ⟨Lc4, hQ4, l4, y4, z4⟩, st4⟩ := Jvm.LawKit.callS X3 hx (y := (⟨"com/example/quorumd/quorumd/engine/LockRule", "isAllowedTtl", "(J)Z"⟩ : MethodName)) hown (mvT hZ (hw _ (List.mem_of_getElem? (i := 1) rfl))) (mvT hZ (hw _ (List.mem_of_getElem? (i := 2) rfl))) (mvT hZ (hw _ (List.mem_of_getElem? (i := 3) rfl))) (mvT hZ (hw _ (List.mem_of_getElem? (i := 4) rfl))) (by decide) (backOf (W := 0) (rm1 l Z a0 hw [] (own_b p2)  h0 n0 Z0) hZ (hw _ (List.mem_of_getElem? (i := 4) rfl)) (hw _ (List.mem_of_getElem? (i := 3) rfl)) (by decide) (by decide)) (g := (mkF m 167 #[.val (.long q1), .second, .val (.int p2), .val (.int (own_ref q1)), .val (.int (p2 &&& (7 : Int32))), .val (.long (own_b p2)), .second, .val (.int (own_x p2))] [(.long (own_b p2))])) rfl (by rw [hml]; rfl) (argsL := [(.long (own_b p2))]) (rest := []) (lenOf pd_0_0 rfl) rfl (by show 2 * 0 + _ ≤ _; exact Nat.le_of_eq rfl) (hb hby at_167) (fun _ _ => ⟨rfl, q3, (by decide : 0 + 0 ≤ _), (by decide : 0 + 0 ≤ _)⟩)
  dsimp only [Pt.U, Pt.locs, Pt.cells, Pt.slots] at X4 l4 y4 z4 st4 hQ4
  subst l4 y4 z4
  obtain ⟨rfl, N4q, q4⟩ := hQ4      -- what it returned, that it wrote nothing old, and the rest of your Q1
  have N4 := Fr.app N3 N4q
  obtain ⟨fs, hr, hrun, hended, hW, hsame⟩ := X4.leave (v := some (.int (1 : Int32))) (fun h => by rw [Bd.returns] at h; cases h)
  refine ⟨_, _, pre0 _ ?_, hrun, hended, _, _, rfl, ?_, ⟨_, rfl⟩, hW, hsame.mono (by decide) (by decide)⟩
  -- 4. STEPS
  · show Steps p.tables e below (s₁.setTop (mkF m 0 #[.val (.long q1), .second, .val (.int p2), .unset, .unset, .unset, .unset, .unset] [])) _
    refine tn0_0_22 q1 _ _ _ _ _ _ X0 hx hZ hw hby hml hown e0 One.u _ ?_
    show Steps p.tables e below (s₁.setTop (mkF m 22 #[.val (.long q1), .second, .val (.int p2), .val (.int (own_ref q1)), .unset, .unset, .unset, .unset] [])) _
    refine XS.lloadN X0.here hx rfl (hb hby at_22) rfl ?_
    show Steps p.tables e below (s₁.setTop (mkF m 23 #[.val (.long q1), .second, .val (.int p2), .val (.int (own_ref q1)), .unset, .unset, .unset, .unset] [(.long q1)])) _
    refine st3 _ ?_
    show Steps p.tables e below (T3.setTop (mkF m 26 #[.val (.long q1), .second, .val (.int p2), .val (.int (own_ref q1)), .unset, .unset, .unset, .unset] [(.int (own_ttl q1))])) _
    refine XS.iloadN X3.here hx rfl (hb hby at_26) rfl ?_
    show Steps p.tables e below (T3.setTop (mkF m 27 #[.val (.long q1), .second, .val (.int p2), .val (.int (own_ref q1)), .unset, .unset, .unset, .unset] [(.int (own_ref q1)), (.int (own_ttl q1))])) _
    refine XS.icmpYes X3.here hx rfl (pc0 := 27) (pc' := 32) rfl (hb hby at_27) rfl (teq hc27).1 (by decide) (by decide) ?_
    show Steps p.tables e below (T3.setTop (mkF m 32 #[.val (.long q1), .second, .val (.int p2), .val (.int (own_ref q1)), .unset, .unset, .unset, .unset] [])) _
    refine tn0_32_165 q1 p2 _ X3 hx hZ hw hby hml hown q3 _ ?_
    show Steps p.tables e below (T3.setTop (mkF m 165 #[.val (.long q1), .second, .val (.int p2), .val (.int (own_ref q1)), .val (.int (p2 &&& (7 : Int32))), .val (.long (own_b p2)), .second, .val (.int (own_x p2))] [])) _
    refine XS.lload X3.here hx rfl (hb hby at_165) rfl ?_
    show Steps p.tables e below (T3.setTop (mkF m 167 #[.val (.long q1), .second, .val (.int p2), .val (.int (own_ref q1)), .val (.int (p2 &&& (7 : Int32))), .val (.long (own_b p2)), .second, .val (.int (own_x p2))] [(.long (own_b p2))])) _
    refine st4 _ ?_
    show Steps p.tables e below (T4.setTop (mkF m 170 #[.val (.long q1), .second, .val (.int p2), .val (.int (own_ref q1)), .val (.int (p2 &&& (7 : Int32))), .val (.long (own_b p2)), .second, .val (.int (own_x p2))] [(.int (own_ttl (own_b p2)))])) _
    refine XS.iload X4.here hx rfl (hb hby at_170) rfl ?_
    show Steps p.tables e below (T4.setTop (mkF m 172 #[.val (.long q1), .second, .val (.int p2), .val (.int (own_ref q1)), .val (.int (p2 &&& (7 : Int32))), .val (.long (own_b p2)), .second, .val (.int (own_x p2))] [(.int (own_x p2)), (.int (own_ttl (own_b p2)))])) _
    refine XS.icmpNo X4.here hx rfl (hb hby at_172) rfl (teq hc172).2 ?_
    show Steps p.tables e below (T4.setTop (mkF m 175 #[.val (.long q1), .second, .val (.int p2), .val (.int (own_ref q1)), .val (.int (p2 &&& (7 : Int32))), .val (.long (own_b p2)), .second, .val (.int (own_x p2))] [])) _
    refine XS.iconst X4.here hx rfl (hb hby at_175) ?_
    show Steps p.tables e below (T4.setTop (mkF m 176 #[.val (.long q1), .second, .val (.int p2), .val (.int (own_ref q1)), .val (.int (p2 &&& (7 : Int32))), .val (.long (own_b p2)), .second, .val (.int (own_x p2))] [(.int (1 : Int32))])) _
    refine XS.goto X4.here hx rfl (pc0 := 176) (pc' := 180) rfl (hb hby at_176) (by decide) (by decide) ?_
    show Steps p.tables e below (T4.setTop (mkF m 180 #[.val (.long q1), .second, .val (.int p2), .val (.int (own_ref q1)), .val (.int (p2 &&& (7 : Int32))), .val (.long (own_b p2)), .second, .val (.int (own_x p2))] [(.int (1 : Int32))])) _
    exact retN X4 hx (t := .boolean) Bd.returns (by simp) (hb hby at_180) hr
  · show Q0 Z q1 p2 h0 n0 _ T4.heap _
    rw [q4]
    exact ⟨rfl, N4⟩
set_option maxRecDepth 65536 in
set_option maxHeartbeats 40000000 in
theorem comes_1 {Post : Tables → Env → Array Value → State → Outcome → State → Prop} (hpost : ∀ tb e args s v u, (limb_1_1.after args s (.returned v) u = true ∧ limb_1_2.after args s (.returned v) u = true ∧ True) → FrameEnd s (.returned v) u (Jvm.fieldLocs frame_1_writes args s ++ Jvm.arrayLocs frame_1_arrays args s ++ Jvm.staticLocs frame_1_statics s) 0 0 → Post tb e args s (.returned v) u) :
    ArmFor flags0 classFile x code maxLocals ret World_1 tables_1 room_1 Calls_1 rest_1 Pre_1 Post := by
  intro l hfl _ _ p e ha hc hk s m args below hf hA hF happ hP
  obtain ⟨hcalls, hrest, hpre⟩ := hP
  obtain ⟨-, -, -, hnamed, -, -, -, hat⟩ := (Spec.applies_iff hf).mp happ
  obtain ⟨hg, hn⟩ := and_e (Cond.before_iff.mp (show (Jvm.Cond.and given_1 narrow_1).before args s = true from hpre))
  obtain ⟨g5, g6⟩ := and_e hg
  obtain ⟨g7, g8⟩ := and_e g6
  obtain ⟨w0, w1, rfl⟩ : ∃ w0 w1 : Value, args = #[w0, w1] := by
    have hs : args.size = 2 := by simpa [Cond.value, given_1] using g5
    obtain ⟨L⟩ := args
    match L, hs with
    | [w0, w1], _ => exact ⟨w0, w1, rfl⟩
  have hw := fun d (hd : d ∈ tables_1) => atoms_spec (ws := Jvm.Cond.code x code maxLocals ret :: tables_1) hat d (List.mem_cons_of_mem _ hd)
  have hfit : Fit s := fun {y c} hc i hi => by
    obtain ⟨ha, rfl⟩ := Array.getElem?_eq_some_iff.mp hc
    have q := List.all_eq_true.mp ((Array.all_eq_true_iff_forall_mem.mp hF) _ (Array.getElem_mem ha)) i (List.mem_range.mpr hi)
    simpa [Array.getElem?_eq_getElem hi] using q
  obtain ⟨i0, ei0⟩ := isL_v g7
  obtain rfl : w0 = (.long i0) := Option.some.inj ei0
  obtain ⟨i1, ei1⟩ := is_v g8
  obtain rfl : w1 = (.int i1) := Option.some.inj ei1
  obtain ⟨n, o, h1, h2, h3, _, L, rfl, ⟨rfl, N⟩, hq⟩ := rm0 l s _ hw tables_1 i0 i1 s.heap s.heap.size (Nat.le_refl _) p e ha hc hk s m _ below hf ((Spec.applies_iff_loose hf).mp happ).1 ⟨rfl, State.Warmed39.refl s, rfl⟩ trivial
  refine ⟨n, _, h1, h2, h3, hpost _ _ _ _ _ _ ⟨Cond.after_iff.mpr rfl, Cond.after_iff.mpr (eq_i res_at (Term.int_eval (1)) rfl), trivial⟩ ⟨hq.1, hq.2.1, (hq.2.2.sift fun y hy => Or.inr (N y hy)).mono (by decide) (by decide)⟩⟩
theorem main_1_1 : Claimed_1_1 := comes_1 fun _ _ _ _ _ _ h hF => ⟨h.1, hF⟩
theorem main_1_2 : Claimed_1_2 := comes_1 fun _ _ _ _ _ _ h hF => ⟨h.2.1, hF⟩

end Jvm.Pilot.@@N@@
namespace Jvm.Pilot.@@N@@
open Jvm Jvm.ClassFile Sem Op Lib Jvm.Free Jvm.Stand Jvm.Pilot.@@N@@.Jvm.D
/-! MADE BY PROGRAM (witnessworld.py) out of the Statement's table words and the real class files: 9 classes; the members and pool entries that the words name. The judged class is class 1, her method 1. -/
namespace start1
open Jvm.ClassFile
def u (s : String) : CpInfo := .utf8 (stringToUtf16 s)
/-- a pool by its gaps: so many unusable entries, then the entry; so many at the end -/
def gap : Nat → List CpInfo → List CpInfo
  | 0, r => r
  | n + 1, r => .unusable :: gap n r
def poolList (es : List (Nat × CpInfo)) (last : Nat) : List CpInfo := es.foldr (fun e r => gap e.1 (e.2 :: r)) (gap last [])
def pool (es : List (Nat × CpInfo)) (last : Nat) : Array CpInfo := ⟨poolList es last⟩
def fileOf (pool : Array CpInfo) (this : Nat) (attrs : Array Attribute := #[]) (ms : Array MethodInfo := #[]) (fl : Nat := 33) (sup : Nat := 0) (ifs : Array Nat := #[]) (fds : Array FieldInfo := #[]) : ClassFile where
  minorVersion := 0
  majorVersion := 65
  constantPool := pool
  accessFlags := fl
  thisClass := this
  superClass := sup
  interfaces := ifs
  fields := fds
  methods := ms
  attributes := attrs
def plain (name : String) (sup : Option ClassId) : Class where
  name := name
  kind := .ordinary
  loader := none
  accessFlags := 33
  super := sup
  interfaces := #[]
  cf := none
  fields := #[]
  methods := #[]
  instanceTypes := #[]
  staticTypes := #[]
  resolved := #[]
  callSites := []
  init := .initialized
  statics := none
  mirror := none

def pool0 : Array CpInfo := pool [(5, u "<init>"), (0, u "()V"), (1, .class_ 10), (1, u "java/lang/Object")] 113

def k0m0 : Method := { name := "<init>", desc := "()V", sig := { parameters := [], returnType := none }, accessFlags := 1, code := none }
/-- java/lang/Object -/
def k0 : Class := { plain "java/lang/Object" none with
  accessFlags := 33
  interfaces := #[]
  cf := some (fileOf pool0 8 #[] #[{ accessFlags := 1, nameIndex := 5, descriptorIndex := 6, attributes := #[] }] 33 0 #[] #[])
  fields := #[]
  methods := #[k0m0]
  instanceTypes := #[]
  staticTypes := #[]
  resolved := Array.replicate 124 none
  statics := none }

def pool1 : Array CpInfo := pool [(2, .class_ 4), (1, u "java/lang/Object"), (0, u "<init>"), (0, u "()V"), (0, .long 100), (1, .long 3600000), (1, .methodref 12 13), (0, .class_ 14), (0, .nameAndType 15 16), (0, u "com/example/quorumd/quorumd/engine/LockRule"), (0, u "isAllowedTtl"), (0, u "(J)Z"), (0, .long 99), (1, .long 3600001), (3, .long 9223372036854775808), (1, .long 9223372036854775807), (1, .long 10000), (1, .long 60000), (1, .class_ 32), (0, u "com/example/quorumd/quorumd/engine/LockRuleIsAllowedTtlPinLaw"), (2, u "law"), (0, u "(JI)Z")] 3

def k1m0 : Method := { name := "<init>", desc := "()V", sig := { parameters := [], returnType := none }, accessFlags := 2, code := none }
def k1c1 : Code := { maxStack := 4, maxLocals := 8, code := code, exceptionTable := #[], attributes := #[] }
def k1m1 : Method := { name := "law", desc := "(JI)Z", sig := { parameters := [.long, .int], returnType := some .boolean }, accessFlags := 9, code := some k1c1 }
/-- com/example/quorumd/quorumd/engine/LockRuleIsAllowedTtlPinLaw -/
def k1 : Class := { plain "com/example/quorumd/quorumd/engine/LockRuleIsAllowedTtlPinLaw" (some 0) with
  accessFlags := 49
  interfaces := #[]
  cf := some (fileOf pool1 31 #[] #[{ accessFlags := 2, nameIndex := 5, descriptorIndex := 6, attributes := #[] }, { accessFlags := 9, nameIndex := 35, descriptorIndex := 36, attributes := #[] }] 49 2 #[] #[])
  fields := #[]
  methods := #[k1m0, k1m1]
  instanceTypes := #[]
  staticTypes := #[]
  resolved := Array.replicate 40 none
  statics := none }

def pool2 : Array CpInfo := pool [(2, .class_ 4), (1, u "java/lang/Object"), (0, u "<init>"), (0, u "()V"), (0, .class_ 8), (0, u "com/example/quorumd/quorumd/engine/LockRule"), (0, .long 100), (1, .long 3600000), (33, u "MIN_TTL_MILLIS"), (0, u "J"), (1, u "MAX_TTL_MILLIS"), (0, u "DEFAULT_TTL_MILLIS"), (2, u "DEFAULT_MAX_TTL_MILLIS"), (2, u "MAX_WAIT_MILLIS"), (0, u "MAX_FENCE"), (2, u "FENCE_TTL_MILLIS"), (0, u "NANOS_PER_MILLI"), (0, u "MILLIS_PER_SECOND"), (0, u "DRIFT_BASE_MILLIS"), (6, u "isAllowedTtl"), (0, u "(J)Z")] 9

def k2m0 : Method := { name := "<init>", desc := "()V", sig := { parameters := [], returnType := none }, accessFlags := 2, code := none }
def k2c1 : Code := { maxStack := 4, maxLocals := 2, code := prog_19_method_3_code, exceptionTable := #[], attributes := #[] }
def k2m1 : Method := { name := "isAllowedTtl", desc := "(J)Z", sig := { parameters := [.long], returnType := some .boolean }, accessFlags := 9, code := some k2c1 }
/-- com/example/quorumd/quorumd/engine/LockRule -/
def k2 : Class := { plain "com/example/quorumd/quorumd/engine/LockRule" (some 0) with
  accessFlags := 49
  interfaces := #[]
  cf := some (fileOf pool2 7 #[] #[{ accessFlags := 2, nameIndex := 5, descriptorIndex := 6, attributes := #[] }, { accessFlags := 9, nameIndex := 69, descriptorIndex := 70, attributes := #[] }] 49 2 #[] #[{ accessFlags := 25, nameIndex := 45, descriptorIndex := 46, attributes := #[] }, { accessFlags := 25, nameIndex := 48, descriptorIndex := 46, attributes := #[] }, { accessFlags := 25, nameIndex := 49, descriptorIndex := 46, attributes := #[] }, { accessFlags := 25, nameIndex := 52, descriptorIndex := 46, attributes := #[] }, { accessFlags := 25, nameIndex := 55, descriptorIndex := 46, attributes := #[] }, { accessFlags := 25, nameIndex := 56, descriptorIndex := 46, attributes := #[] }, { accessFlags := 25, nameIndex := 59, descriptorIndex := 46, attributes := #[] }, { accessFlags := 26, nameIndex := 60, descriptorIndex := 46, attributes := #[] }, { accessFlags := 26, nameIndex := 61, descriptorIndex := 46, attributes := #[] }, { accessFlags := 26, nameIndex := 62, descriptorIndex := 46, attributes := #[] }])
  fields := #[{ name := "MIN_TTL_MILLIS", type := .long, accessFlags := 25, slot := 0, constantValue := 0 }, { name := "MAX_TTL_MILLIS", type := .long, accessFlags := 25, slot := 1, constantValue := 0 }, { name := "DEFAULT_TTL_MILLIS", type := .long, accessFlags := 25, slot := 2, constantValue := 0 }, { name := "DEFAULT_MAX_TTL_MILLIS", type := .long, accessFlags := 25, slot := 3, constantValue := 0 }, { name := "MAX_WAIT_MILLIS", type := .long, accessFlags := 25, slot := 4, constantValue := 0 }, { name := "MAX_FENCE", type := .long, accessFlags := 25, slot := 5, constantValue := 0 }, { name := "FENCE_TTL_MILLIS", type := .long, accessFlags := 25, slot := 6, constantValue := 0 }, { name := "NANOS_PER_MILLI", type := .long, accessFlags := 26, slot := 7, constantValue := 0 }, { name := "MILLIS_PER_SECOND", type := .long, accessFlags := 26, slot := 8, constantValue := 0 }, { name := "DRIFT_BASE_MILLIS", type := .long, accessFlags := 26, slot := 9, constantValue := 0 }]
  methods := #[k2m0, k2m1]
  instanceTypes := #[]
  staticTypes := #[.long, .long, .long, .long, .long, .long, .long, .long, .long, .long]
  resolved := Array.replicate 80 none
  statics := none }

def pool3 : Array CpInfo := pool [(1, u "java/lang/Cloneable"), (0, .class_ 1), (0, u "java/lang/Object"), (0, .class_ 3)] 3

/-- java/lang/Cloneable -/
def k3 : Class := { plain "java/lang/Cloneable" (some 0) with
  accessFlags := 1537
  interfaces := #[]
  cf := some (fileOf pool3 2 #[] #[] 1537 4 #[] #[])
  fields := #[]
  methods := #[]
  instanceTypes := #[]
  staticTypes := #[]
  resolved := Array.replicate 8 none
  statics := none }

def pool4 : Array CpInfo := pool [(1, u "java/io/Serializable"), (0, .class_ 1), (0, u "java/lang/Object"), (0, .class_ 3)] 3

/-- java/io/Serializable -/
def k4 : Class := { plain "java/io/Serializable" (some 0) with
  accessFlags := 1537
  interfaces := #[]
  cf := some (fileOf pool4 2 #[] #[] 1537 4 #[] #[])
  fields := #[]
  methods := #[]
  instanceTypes := #[]
  staticTypes := #[]
  resolved := Array.replicate 8 none
  statics := none }

/-- the primitive byte -/
def k5 : Class := { plain "byte" none with kind := .primitive 'B', accessFlags := 0x411 }
/-- [B -/
def k6 : Class := { plain "[B" (some 0) with kind := .array 5 .byte, interfaces := #[3, 4], accessFlags := 1041 }

/-- the primitive int -/
def k7 : Class := { plain "int" none with kind := .primitive 'I', accessFlags := 0x411 }
/-- [I -/
def k8 : Class := { plain "[I" (some 0) with kind := .array 7 .int, interfaces := #[3, 4], accessFlags := 1041 }

def heap : Heap := #[]
def classes : Array Class := #[k0, k1, k2, k3, k4, k5, k6, k7, k8]
def interned : List (Array UInt16 × Addr) := []
def slotsUsed : Nat := 0
def theMethod : MethodId := ⟨1, 1⟩
def args0 : Array Value := #[.long 5, .int 1]
def aboutOver (below : List Frame) : State where
  vm := { classes := classes, interned := interned.toArray }
  heap := heap
  slotsUsed := slotsUsed
  threads := #[{ frames := .invoking theMethod args0 :: below }]
def below0 : List Frame := [.native { method := ⟨0, 0⟩, args := #[] }]
def about1 : State := aboutOver below0
def p0 : Program := .bare "" "" ""
def e0 : Env := launch0.env 0 0 0
theorem w_frames : about1.frames = Frame.invoking theMethod args0 :: below0 := rfl
set_option maxRecDepth 65536 in
theorem w_args : argsFit about1.vm theMethod args0 = true := by decide +kernel
set_option maxRecDepth 65536 in
theorem w_heap : heapFits about1 = true := by decide +kernel
set_option maxRecDepth 65536 in
theorem w_runnable : about1.curStatus? = some .runnable := by decide +kernel
set_option maxRecDepth 65536 in
theorem w_alone : about1.alone = true := by decide +kernel
set_option maxRecDepth 65536 in
theorem w_named : about1.methodNamed? x = some theMethod := by decide +kernel
set_option maxRecDepth 65536 in
theorem w_hears : about1.hears theMethod below0 = true := by decide +kernel
set_option maxRecDepth 65536 in
theorem w_ripe : about1.ripe theMethod args0 below0 = true := by decide +kernel
theorem w_running : about1.status = .running := rfl
set_option maxRecDepth 65536 in
theorem w_room : about1.hasRoom e0.platform room_1 = true :=
  launch0.hasRoom_least _ room_1 (by decide +kernel) (by decide +kernel) (by decide +kernel) (by decide +kernel) (by decide +kernel) (by decide +kernel)
theorem allAtoms_all (ts : List Jvm.Cond) (a : Array Jvm.Value) (st : Jvm.State) : (allAtoms ts).before a st = ts.all (fun c => c.before a st) := by
  induction ts with
  | nil => rfl
  | cons c t ih =>
    show (Jvm.Cond.and c (allAtoms t)).before a st = _
    rw [Jvm.Cond.before_and, ih, List.all_cons]
def words1 : List Jvm.Cond := Jvm.Cond.code x code maxLocals ret :: tables_1
/-- a 'code' word, met by the world's own term for the bytes: nothing is compared byte by byte -/
theorem code_word {y : MethodName} {bytes : ByteArray} {mx : Nat} {rt : Option FieldType} {a : Array Value} {s : State} {m : MethodId} {meth : Method} {c : Code} (h1 : s.methodNamed? y = some m) (h2 : s.vm.method? m = some meth) (h3 : meth.code = some c) (h4 : c.code = bytes)
    (h5 : (c.maxLocals == mx && c.exceptionTable.isEmpty && decide (c.maxStack ≤ mostOperands) && decide (meth.sig.returnType = rt) && !meth.locks && decide (parseMethodDescriptor y.desc = some meth.sig)) = true) : (Jvm.Cond.code y bytes mx rt).before a s = true := by
  simp only [Bool.and_eq_true, beq_iff_eq, Bool.not_eq_true', decide_eq_true_eq] at h5
  obtain ⟨⟨⟨⟨⟨g1, g2⟩, g3⟩, g4⟩, g5⟩, g6⟩ := h5
  simp [Cond.before, Cond.holds, Cond.value, h1, h2, h3, h4, g1, g2, g3, g4, g5, g6]
def isCode : Jvm.Cond → Bool
  | .code _ _ _ _ => true
  | _ => false
theorem all_split {L : List Jvm.Cond} {P : Jvm.Cond → Bool} (h1 : L.all (fun c => isCode c || P c) = true) (h2 : ∀ c ∈ L.filter isCode, P c = true) : L.all P = true := by
  refine List.all_eq_true.mpr fun c hc => ?_
  have h := List.all_eq_true.mp h1 c hc
  rcases Bool.eq_false_or_eq_true (isCode c) with hi | hi
  · exact h2 c (List.mem_filter.mpr ⟨hc, hi⟩)
  · simpa [hi] using h
set_option maxRecDepth 65536 in
theorem w_c0 : (Jvm.Cond.code x code maxLocals ret).before args0 about1 = true := code_word (m := ⟨1, 1⟩) (meth := k1m1) (c := k1c1) (by decide +kernel) rfl rfl rfl (by decide +kernel)
set_option maxRecDepth 65536 in
theorem w_c1 : (Jvm.Cond.code ({ cls := "com/example/quorumd/quorumd/engine/LockRule", name := "isAllowedTtl", desc := "(J)Z" } : Jvm.MethodName) prog_19_method_3_code (2 : Nat) (Option.some Jvm.ClassFile.FieldType.boolean)).before args0 about1 = true := code_word (m := ⟨2, 1⟩) (meth := k2m1) (c := k2c1) (by decide +kernel) rfl rfl rfl (by decide +kernel)
def codes1 : List Jvm.Cond := [Jvm.Cond.code x code maxLocals ret, Jvm.Cond.code ({ cls := "com/example/quorumd/quorumd/engine/LockRule", name := "isAllowedTtl", desc := "(J)Z" } : Jvm.MethodName) prog_19_method_3_code (2 : Nat) (Option.some Jvm.ClassFile.FieldType.boolean)]
set_option maxRecDepth 65536 in
theorem codes_eq : words1.filter isCode = codes1 := rfl
theorem w_codes : ∀ c ∈ words1.filter isCode, c.before args0 about1 = true := by
  rw [codes_eq]
  intro c hc
  simp only [codes1, List.mem_cons, List.not_mem_nil, or_false] at hc
  rcases hc with rfl | rfl
  · exact w_c0
  · exact w_c1
set_option maxRecDepth 65536 in
theorem w_t1 : words1.all (fun c => isCode c || c.before args0 about1) = true := by decide +kernel
theorem w_tables : (allAtoms (Jvm.Cond.code x code maxLocals ret :: tables_1)).before args0 about1 = true := by
  rw [allAtoms_all]
  show words1.all (fun c => c.before args0 about1) = true
  refine all_split ?_ w_codes
  rw [w_t1]
set_option maxRecDepth 65536 in
theorem w_case : (Jvm.Cond.and given_1 narrow_1).before args0 about1 = true := by decide +kernel
theorem w_applies : (headSpec (Jvm.Cond.code x code maxLocals ret :: tables_1) room_1).applies x e0.platform about1 = true :=
  (Spec.applies_iff w_frames).mpr ⟨w_running, w_runnable, w_alone, w_named, w_hears, w_ripe, w_room, w_tables⟩
theorem atStart : AtStart classFile x code maxLocals ret World_1 tables_1 room_1 Calls_1 rest_1 Pre_1 launch0 p0 e0 about1 theMethod args0 below0 :=
  ⟨lists_1, trivial, launch0.admits_env _ _ _, launch0.least_env, fairChoices_fair.cas, fairChoices_fair.clock, w_frames, w_args, w_heap, w_applies, trivial, trivial, w_case⟩
end start1
theorem witness_1 : WitnessClaimed_1 := ⟨start1.p0, start1.e0, start1.about1, start1.theMethod, start1.args0, start1.below0, start1.atStart⟩
end Jvm.Pilot.@@N@@
