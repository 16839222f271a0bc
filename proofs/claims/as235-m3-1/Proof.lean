import JvmDerived
import JvmDerived.Pilot.@@N@@Statement
import JvmDerived.Pilot.@@N@@Code
set_option linter.unusedVariables false
set_option linter.unusedSimpArgs false
@@BLOCK:NumsL.lean.txt@@
namespace Jvm.RoadKit
open Sem ClassFile Op Lib Jvm.Stand Jvm.Free Jvm.LawKit
section New
variable {p : Program} {l : Launch} {e : Env} {R : Room} {s : State} {m : MethodId} {args : Array Value} {below : List Frame} {meth : Method} {c : Code} {T : State} {locs : List Loc} {cells slots : Nat}
theorem retI (X : Stand p l e R s m args below meth c T locs cells slots) (hx : p.tables.exec = Jvm.exec) {pc : Nat} {Ls : Array Slot} {z : Int32} {rest : List Value} (hret : meth.sig.returnType = some .int) (hd : decode c.code pc = .ok (.ireturn, 1)) {fs : List Frame}
    (hl : ∀ (f : JFrame) (acts : List Action), f.method = m → f.locked = none → f.entered = [] → (doReturn e (T.setTop f) acts (some (.int z))).1 = T.setFrames fs) : Steps p.tables e below (T.setTop (mkF m pc Ls (.int z :: rest))) (T.setFrames fs) := by
  have hm' : T.vm.method? m = some meth := X.method'
  have hn : narrow .int (.int z) = .int z := rfl
  show Steps p.tables e below (T.setTop { method := m, pc := pc, locals := Ls, stack := _ :: rest, locked := none }) _
  jvm_step X.here [X.here.top, hx, hd, hm', hret, hn]
  first | (intro acts; rw [hl _ acts rfl rfl rfl]) | rw [hl _ _ rfl rfl rfl]
  exact Steps.refl _
end New
end Jvm.RoadKit
namespace Jvm.Pilot.@@N@@
open Jvm Jvm.ClassFile Sem Op Lib Jvm.Free Jvm.Stand Jvm.LawKit Jvm.RoadKit Bundle Jvm.Pilot.@@N@@.Jvm.D
/-- from, to: as the law reckons them -/
def own_f (f : Int32) : Int32 := (f &&& (2147483647 : Int32)) % (9 : Int32)
def own_to (f t : Int32) : Int32 := own_f f + ((t &&& (2147483647 : Int32)) % ((9 : Int32) - own_f f))
theorem own_f_in (f : Int32) : 0 ≤ (own_f f).toInt ∧ (own_f f).toInt ≤ 8 := by
  have h1 : 0 ≤ (f &&& 2147483647).toInt := (c_and f 2147483647 (by decide)).1
  have h2 : (own_f f).toInt = (f &&& 2147483647).toInt % 9 := (c_irem (f &&& 2147483647) 9 9 rfl).1 h1
  omega
theorem own_9 (f : Int32) : ((9 : Int32) - own_f f).toInt = 9 - (own_f f).toInt := by
  have h := own_f_in f
  have := Jvm.Kit.i32_sub (p := (9 : Int32)) (q := own_f f) (by rw [show (9 : Int32).toInt = 9 from rfl]; omega) (by rw [show (9 : Int32).toInt = 9 from rfl]; omega)
  rw [show (9 : Int32).toInt = 9 from rfl] at this
  exact this
theorem own_nz (f : Int32) : ¬ (((9 : Int32) - (own_f f)) = (0 : Int32)) := by
  intro h
  have h1 := own_f_in f
  have h2 := own_9 f
  rw [h, show (0 : Int32).toInt = 0 from rfl] at h2
  omega
theorem own_to_in (f t : Int32) : (own_f f).toInt ≤ (own_to f t).toInt ∧ (own_to f t).toInt ≤ 8 := by
  have h1 := own_f_in f
  have h2 := own_9 f
  have h3 : 0 ≤ (t &&& 2147483647).toInt := (c_and t 2147483647 (by decide)).1
  have h4 := (c_iremV (t &&& 2147483647) ((9 : Int32) - own_f f)).1 h3 (by omega)
  have h5 : (own_to f t).toInt = (own_f f).toInt + ((t &&& (2147483647 : Int32)) % ((9 : Int32) - own_f f)).toInt := Jvm.Kit.i32_add (by omega) (by omega)
  omega
theorem own_nn {x : Int32} (h : 0 ≤ x.toInt) : ¬ x < 0 := by rw [Int32.lt_iff_toInt_lt]; exact Int.not_lt.mpr h
theorem own_plus (x k : Int32) (hx : 0 ≤ x.toInt ∧ x.toInt ≤ 8) (hk : 0 ≤ k.toInt ∧ k.toInt ≤ 8) : (x + k).toInt = x.toInt + k.toInt := Jvm.Kit.i32_add (by omega) (by omega)
/-- an array of eight bytes -/
def own_Byt (Z : State) (h : Heap) (a : Addr) : Prop := ∃ c : Cell, Arr Z h a c .byte ∧ c.slots.size = (8 : Int32).toNatClampNeg ∧ ∀ i : Int32, ¬ i < 0 → i < 8 → ∃ v : Int32, c.slots[i.toNatClampNeg]? = some (.int v) ∧ -128 ≤ v.toInt ∧ v.toInt < 128
theorem own_fits {v : Value} (h : fits .byte v = true) : ∃ w : Int32, v = .int w ∧ -128 ≤ w.toInt ∧ w.toInt < 128 := by
  cases v with
  | int w =>
    refine ⟨w, rfl, ?_⟩
    have h1 : (decide (-128 ≤ w) && decide (w ≤ 127)) = true := h
    simp only [Bool.and_eq_true, decide_eq_true_eq, Int32.le_iff_toInt_le] at h1
    rw [show (-128 : Int32).toInt = -128 from rfl, show (127 : Int32).toInt = 127 from rfl] at h1
    omega
  | _ => cases h
theorem own_Byt_of {Z : State} {h : Heap} {a : Addr} {k : ClassId} {vs : List Value} {d : Value} (V : Arv Z h a k .byte (8 : Int32) vs d) : own_Byt Z h a := by
  obtain ⟨c, A, -, S, -, H, G⟩ := V
  refine ⟨c, A, S, fun i h0 h1 => ?_⟩
  have hi : i.toNatClampNeg < c.slots.size := Nat.lt_of_not_le fun q => (inb_of S ⟨h0, h1⟩) (Or.inr q)
  obtain ⟨w, e, r⟩ := own_fits (G _ hi)
  exact ⟨w, by rw [H _ hi, e], r⟩
theorem own_Byt_wr {Z : State} {h h' : Heap} {a : Addr} {c : Cell} {j x : Int32} (A : Arr Z h a c .byte) (S : c.slots.size = (8 : Int32).toNatClampNeg)
    (H : ∀ i : Int32, ¬ i < 0 → i < 8 → ∃ v : Int32, c.slots[i.toNatClampNeg]? = some (.int v) ∧ -128 ≤ v.toInt ∧ v.toInt < 128) (hj : ¬ j < 0 ∧ j < 8) (W : Wr h h' a j.toNatClampNeg (.int (nar .byte x))) : own_Byt Z h' a := by
  refine ⟨_, A.same W, by rw [sz_set]; exact S, fun i h0 h1 => ?_⟩
  by_cases e : i = j
  · exact ⟨_, get_hit (inb_of S hj) e, (c_i2b x).2⟩
  · obtain ⟨v, hv, r⟩ := H i h0 h1
    exact ⟨v, by rw [get_miss hj.1 h0 e]; exact hv, r⟩
/-- what byteOrderMarkLength returns, of three bytes in the window -/
def own_bom (u v w : Int32) : Int32 := if u = -17 then (if v = -69 then (if w = -65 then 3 else 0) else 0) else 0
theorem own_u (v k : Int32) (d : Int) (hv : -128 ≤ v.toInt ∧ v.toInt < 128) (hk : k.toInt = d) (hd : 128 ≤ d ∧ d < 256) (n : Int32) (hn : n.toInt = d - 256) : (v &&& 255) = k ↔ v = n := by
  have h1 : (v &&& 255).toInt = v.toInt % 2 ^ 8 := Jvm.Kit.i32_mask v 255 (k := 8) (by decide) (by decide)
  rw [← Int32.toInt_inj, ← Int32.toInt_inj, h1, hk, hn]
  omega
theorem d1_0 : decode prog_119_method_3_code 0 = .ok (.iload_n 2, 1) := by decide +kernel
theorem d1_1 : decode prog_119_method_3_code 1 = .ok (.iload_n 1, 1) := by decide +kernel
theorem d1_2 : decode prog_119_method_3_code 2 = .ok (.isub, 1) := by decide +kernel
theorem d1_3 : decode prog_119_method_3_code 3 = .ok (.iconst 3, 1) := by decide +kernel
theorem d1_4 : decode prog_119_method_3_code 4 = .ok (.if_icmp .lt 35, 3) := by decide +kernel
theorem d1_7 : decode prog_119_method_3_code 7 = .ok (.aload_n 0, 1) := by decide +kernel
theorem d1_8 : decode prog_119_method_3_code 8 = .ok (.iload_n 1, 1) := by decide +kernel
theorem d1_9 : decode prog_119_method_3_code 9 = .ok (.baload, 1) := by decide +kernel
theorem d1_10 : decode prog_119_method_3_code 10 = .ok (.bipush (-17), 2) := by decide +kernel
theorem d1_12 : decode prog_119_method_3_code 12 = .ok (.if_icmp .ne 27, 3) := by decide +kernel
theorem d1_39 : decode prog_119_method_3_code 39 = .ok (.iconst 0, 1) := by decide +kernel
theorem d1_40 : decode prog_119_method_3_code 40 = .ok (.istore_n 3, 1) := by decide +kernel
theorem d1_41 : decode prog_119_method_3_code 41 = .ok (.iload_n 3, 1) := by decide +kernel
theorem d1_42 : decode prog_119_method_3_code 42 = .ok (.ifCond .eq 7, 3) := by decide +kernel
theorem d1_49 : decode prog_119_method_3_code 49 = .ok (.iconst 0, 1) := by decide +kernel
theorem d1_50 : decode prog_119_method_3_code 50 = .ok (.ireturn, 1) := by decide +kernel
theorem pn_1 : plainName "dev/changeline/envelope/Utf8" = true := by first | (simp [plainName, overriddenIn]; done) | decide +kernel
theorem ef_1 (m : MethodId) (x0 : Addr) (x1 : Int32) (x2 : Int32) : entryFrame m #[(.ref x0), (.int x1), (.int x2)] 4 = mkF m 0 #[.val (.ref x0), .val (.int x1), .val (.int x2), .unset] [] := by first | (simp [entryFrame, mkF, argsToLocals, Value.category]; done) | rfl
theorem d1_15 : decode prog_119_method_3_code 15 = .ok (.aload_n 0, 1) := by decide +kernel
theorem d1_16 : decode prog_119_method_3_code 16 = .ok (.iload_n 1, 1) := by decide +kernel
theorem d1_17 : decode prog_119_method_3_code 17 = .ok (.iconst 1, 1) := by decide +kernel
theorem d1_18 : decode prog_119_method_3_code 18 = .ok (.iadd, 1) := by decide +kernel
theorem d1_19 : decode prog_119_method_3_code 19 = .ok (.baload, 1) := by decide +kernel
theorem d1_20 : decode prog_119_method_3_code 20 = .ok (.bipush (-69), 2) := by decide +kernel
theorem d1_22 : decode prog_119_method_3_code 22 = .ok (.if_icmp .ne 17, 3) := by decide +kernel
theorem d1_25 : decode prog_119_method_3_code 25 = .ok (.aload_n 0, 1) := by decide +kernel
theorem d1_26 : decode prog_119_method_3_code 26 = .ok (.iload_n 1, 1) := by decide +kernel
theorem d1_27 : decode prog_119_method_3_code 27 = .ok (.iconst 2, 1) := by decide +kernel
theorem d1_28 : decode prog_119_method_3_code 28 = .ok (.iadd, 1) := by decide +kernel
theorem d1_29 : decode prog_119_method_3_code 29 = .ok (.baload, 1) := by decide +kernel
theorem d1_30 : decode prog_119_method_3_code 30 = .ok (.bipush (-65), 2) := by decide +kernel
theorem d1_32 : decode prog_119_method_3_code 32 = .ok (.if_icmp .ne 7, 3) := by decide +kernel
theorem d1_35 : decode prog_119_method_3_code 35 = .ok (.iconst 1, 1) := by decide +kernel
theorem d1_36 : decode prog_119_method_3_code 36 = .ok (.goto 4, 3) := by decide +kernel
theorem d1_45 : decode prog_119_method_3_code 45 = .ok (.iconst 3, 1) := by decide +kernel
theorem d1_46 : decode prog_119_method_3_code 46 = .ok (.goto 4, 3) := by decide +kernel
def Q1 (Z : State) (a1 : Addr) (p2 : Int32) (p3 : Int32) (w4 : Int32) (cl_a1 : Cell) (w5 : Int32) (w6 : Int32) (h0 : Heap) (n0 : Nat) (v : Option Value) (h : Heap) (L : List Loc) : Prop := v = some (.int (own_bom w4 w5 w6)) ∧ Fr n0 L ∧ h = h0
set_option maxRecDepth 65536 in
set_option maxHeartbeats 40000000 in
theorem rm1 (l : Launch) (Z : State) (a0 : Array Value) (hw : ∀ d ∈ tables_1, d.before a0 Z = true) (ws : List Jvm.Cond) (a1 : Addr) (p2 : Int32) (p3 : Int32) (w4 : Int32) (cl_a1 : Cell) (w5 : Int32) (w6 : Int32) (h0 : Heap) (n0 : Nat) (Z0 : n0 ≤ h0.size) (Ar_a1 : Arr Z h0 a1 cl_a1 .byte) (hin9 : ¬ (p2 < 0 ∨ cl_a1.slots.size ≤ (p2).toNatClampNeg)) (hat9 : cl_a1.slots[(p2).toNatClampNeg]? = some (.int w4)) (hin19 : ¬ ((p2 + (1 : Int32)) < 0 ∨ cl_a1.slots.size ≤ ((p2 + (1 : Int32))).toNatClampNeg)) (hat19 : cl_a1.slots[((p2 + (1 : Int32))).toNatClampNeg]? = some (.int w5)) (hin29 : ¬ ((p2 + (2 : Int32)) < 0 ∨ cl_a1.slots.size ≤ ((p2 + (2 : Int32))).toNatClampNeg)) (hat29 : cl_a1.slots[((p2 + (2 : Int32))).toNatClampNeg]? = some (.int w6)) (hlong : ¬ ((p3 - p2) < (3 : Int32))) :
    MetFree l (⟨"dev/changeline/envelope/Utf8", "byteOrderMarkLength", "([BII)I"⟩ : MethodName) (head1 (Jvm.Cond.code (⟨"dev/changeline/envelope/Utf8", "byteOrderMarkLength", "([BII)I"⟩ : MethodName) prog_119_method_3_code 4 (some .int) :: ws) ({ frames := 0, cells := 0, slots := 0, locals := 0 } : Room)) (fun a U => a = #[(.ref a1), (.int p2), (.int p3)] ∧ Z.Warmed39 U.vm ∧ U.heap = h0) (fun _ _ _ _ _ => True) (fun _ U o U' => ∃ v L, o = .returned v ∧ Q1 Z a1 p2 p3 w4 cl_a1 w5 w6 h0 n0 v U'.heap L ∧ FrameEnd U o U' L ({ frames := 0, cells := 0, slots := 0, locals := 0 } : Room).cells ({ frames := 0, cells := 0, slots := 0, locals := 0 } : Room).slots) := by
  refine MetFree.of_bodySF (plainFor_of_name pn_1) hisR ?_
  intro p e s m args below meth c s₁ Bd hml0 hP hK
  obtain ⟨rfl, hZ, hh⟩ := hP
  have hx := Bd.exec
  have hby := Bd.bytes
  have hml : c.maxLocals = 4 := hml0
  have hown : s.vm.findClass "dev/changeline/envelope/Utf8" = some m.cls := findClass_of_methodNamed Bd.named
  have hnm := (name_of_methodNamed Bd.named Bd.method).1
  have X0 : Stand p l e ({ frames := 0, cells := 0, slots := 0, locals := 0 } : Room) s m #[(.ref a1), (.int p2), (.int p3)] below meth c s₁ [] 0 0 := Stand.of_body Bd
  have e0 : s₁.heap = h0 := by rw [← hh, Bd.state]; rfl
  have N0 := Fr.nil n0
  have pre0 : ∀ t, Steps p.tables e below (s₁.setTop (mkF m 0 #[.val (.ref a1), .val (.int p2), .val (.int p3), .unset] [])) t → Steps p.tables e below (s₁.setTop (entryFrame m #[(.ref a1), (.int p2), (.int p3)] 4)) t := fun t k => castTop (ef_1 m a1 p2 p3) k

  obtain ⟨fs, hr, hrun, hended, hW, hsame⟩ := X0.leave (v := some (.int (own_bom w4 w5 w6))) (fun h => by rw [Bd.returns] at h; cases h)
  refine ⟨_, _, pre0 _ ?_, hrun, hended, _, _, rfl, ?_, ⟨_, rfl⟩, hW, hsame.mono (by decide) (by decide)⟩
  · show Steps p.tables e below (s₁.setTop (mkF m 0 #[.val (.ref a1), .val (.int p2), .val (.int p3), .unset] [])) _
    refine XS.iloadN X0.here hx rfl (hb hby d1_0) rfl ?_
    show Steps p.tables e below (s₁.setTop (mkF m 1 #[.val (.ref a1), .val (.int p2), .val (.int p3), .unset] [(.int p3)])) _
    refine XS.iloadN X0.here hx rfl (hb hby d1_1) rfl ?_
    show Steps p.tables e below (s₁.setTop (mkF m 2 #[.val (.ref a1), .val (.int p2), .val (.int p3), .unset] [(.int p2), (.int p3)])) _
    refine XS.isub X0.here hx rfl (hb hby d1_2) rfl ?_
    show Steps p.tables e below (s₁.setTop (mkF m 3 #[.val (.ref a1), .val (.int p2), .val (.int p3), .unset] [(.int (p3 - p2))])) _
    refine XS.iconst X0.here hx rfl (hb hby d1_3) ?_
    show Steps p.tables e below (s₁.setTop (mkF m 4 #[.val (.ref a1), .val (.int p2), .val (.int p3), .unset] [(.int (3 : Int32)), (.int (p3 - p2))])) _
    have hc4 : ¬ ((p3 - p2) < (3 : Int32)) := hlong
    refine XS.icmpNo X0.here hx rfl (hb hby d1_4) rfl (flt hc4).1 ?_
    show Steps p.tables e below (s₁.setTop (mkF m 7 #[.val (.ref a1), .val (.int p2), .val (.int p3), .unset] [])) _
    refine XS.aloadN X0.here hx rfl (hb hby d1_7) rfl rfl ?_
    show Steps p.tables e below (s₁.setTop (mkF m 8 #[.val (.ref a1), .val (.int p2), .val (.int p3), .unset] [(.ref a1)])) _
    refine XS.iloadN X0.here hx rfl (hb hby d1_8) rfl ?_
    show Steps p.tables e below (s₁.setTop (mkF m 9 #[.val (.ref a1), .val (.int p2), .val (.int p3), .unset] [(.int p2), (.ref a1)])) _
    refine X0.baloadBytes hx (j := p2) (v := (.int w4)) (by rw [e0]; exact Ar_a1.1) (State.isArrayOf_alike hZ.alike Ar_a1.2.1) Ar_a1.2.2 hin9 hat9 (g := (mkF m 9 #[.val (.ref a1), .val (.int p2), .val (.int p3), .unset] [(.int p2), (.ref a1)])) rfl rfl (hb hby d1_9) _ ?_
    show Steps p.tables e below (s₁.setTop (mkF m 10 #[.val (.ref a1), .val (.int p2), .val (.int p3), .unset] [(.int w4)])) _
    refine XS.bipush X0.here hx rfl (hb hby d1_10) ?_
    show Steps p.tables e below (s₁.setTop (mkF m 12 #[.val (.ref a1), .val (.int p2), .val (.int p3), .unset] [(.int (-17 : Int32)), (.int w4)])) _
    by_cases hc12 : w4 = (-17 : Int32)
    · refine XS.icmpNo X0.here hx rfl (hb hby d1_12) rfl (teq hc12).2 ?_
      show Steps p.tables e below (s₁.setTop (mkF m 15 #[.val (.ref a1), .val (.int p2), .val (.int p3), .unset] [])) _
      refine XS.aloadN X0.here hx rfl (hb hby d1_15) rfl rfl ?_
      show Steps p.tables e below (s₁.setTop (mkF m 16 #[.val (.ref a1), .val (.int p2), .val (.int p3), .unset] [(.ref a1)])) _
      refine XS.iloadN X0.here hx rfl (hb hby d1_16) rfl ?_
      show Steps p.tables e below (s₁.setTop (mkF m 17 #[.val (.ref a1), .val (.int p2), .val (.int p3), .unset] [(.int p2), (.ref a1)])) _
      refine XS.iconst X0.here hx rfl (hb hby d1_17) ?_
      show Steps p.tables e below (s₁.setTop (mkF m 18 #[.val (.ref a1), .val (.int p2), .val (.int p3), .unset] [(.int (1 : Int32)), (.int p2), (.ref a1)])) _
      refine XS.iadd X0.here hx rfl (hb hby d1_18) rfl ?_
      show Steps p.tables e below (s₁.setTop (mkF m 19 #[.val (.ref a1), .val (.int p2), .val (.int p3), .unset] [(.int (p2 + (1 : Int32))), (.ref a1)])) _
      refine X0.baloadBytes hx (j := (p2 + (1 : Int32))) (v := (.int w5)) (by rw [e0]; exact Ar_a1.1) (State.isArrayOf_alike hZ.alike Ar_a1.2.1) Ar_a1.2.2 hin19 hat19 (g := (mkF m 19 #[.val (.ref a1), .val (.int p2), .val (.int p3), .unset] [(.int (p2 + (1 : Int32))), (.ref a1)])) rfl rfl (hb hby d1_19) _ ?_
      show Steps p.tables e below (s₁.setTop (mkF m 20 #[.val (.ref a1), .val (.int p2), .val (.int p3), .unset] [(.int w5)])) _
      refine XS.bipush X0.here hx rfl (hb hby d1_20) ?_
      show Steps p.tables e below (s₁.setTop (mkF m 22 #[.val (.ref a1), .val (.int p2), .val (.int p3), .unset] [(.int (-69 : Int32)), (.int w5)])) _
      by_cases hc22 : w5 = (-69 : Int32)
      · refine XS.icmpNo X0.here hx rfl (hb hby d1_22) rfl (teq hc22).2 ?_
        show Steps p.tables e below (s₁.setTop (mkF m 25 #[.val (.ref a1), .val (.int p2), .val (.int p3), .unset] [])) _
        refine XS.aloadN X0.here hx rfl (hb hby d1_25) rfl rfl ?_
        show Steps p.tables e below (s₁.setTop (mkF m 26 #[.val (.ref a1), .val (.int p2), .val (.int p3), .unset] [(.ref a1)])) _
        refine XS.iloadN X0.here hx rfl (hb hby d1_26) rfl ?_
        show Steps p.tables e below (s₁.setTop (mkF m 27 #[.val (.ref a1), .val (.int p2), .val (.int p3), .unset] [(.int p2), (.ref a1)])) _
        refine XS.iconst X0.here hx rfl (hb hby d1_27) ?_
        show Steps p.tables e below (s₁.setTop (mkF m 28 #[.val (.ref a1), .val (.int p2), .val (.int p3), .unset] [(.int (2 : Int32)), (.int p2), (.ref a1)])) _
        refine XS.iadd X0.here hx rfl (hb hby d1_28) rfl ?_
        show Steps p.tables e below (s₁.setTop (mkF m 29 #[.val (.ref a1), .val (.int p2), .val (.int p3), .unset] [(.int (p2 + (2 : Int32))), (.ref a1)])) _
        refine X0.baloadBytes hx (j := (p2 + (2 : Int32))) (v := (.int w6)) (by rw [e0]; exact Ar_a1.1) (State.isArrayOf_alike hZ.alike Ar_a1.2.1) Ar_a1.2.2 hin29 hat29 (g := (mkF m 29 #[.val (.ref a1), .val (.int p2), .val (.int p3), .unset] [(.int (p2 + (2 : Int32))), (.ref a1)])) rfl rfl (hb hby d1_29) _ ?_
        show Steps p.tables e below (s₁.setTop (mkF m 30 #[.val (.ref a1), .val (.int p2), .val (.int p3), .unset] [(.int w6)])) _
        refine XS.bipush X0.here hx rfl (hb hby d1_30) ?_
        show Steps p.tables e below (s₁.setTop (mkF m 32 #[.val (.ref a1), .val (.int p2), .val (.int p3), .unset] [(.int (-65 : Int32)), (.int w6)])) _
        by_cases hc32 : w6 = (-65 : Int32)
        · refine XS.icmpNo X0.here hx rfl (hb hby d1_32) rfl (teq hc32).2 ?_
          show Steps p.tables e below (s₁.setTop (mkF m 35 #[.val (.ref a1), .val (.int p2), .val (.int p3), .unset] [])) _
          refine XS.iconst X0.here hx rfl (hb hby d1_35) ?_
          show Steps p.tables e below (s₁.setTop (mkF m 36 #[.val (.ref a1), .val (.int p2), .val (.int p3), .unset] [(.int (1 : Int32))])) _
          refine XS.goto X0.here hx rfl (pc0 := 36) (pc' := 40) rfl (hb hby d1_36) (by decide) (by decide) ?_
          show Steps p.tables e below (s₁.setTop (mkF m 40 #[.val (.ref a1), .val (.int p2), .val (.int p3), .unset] [(.int (1 : Int32))])) _
          refine XS.istoreN X0.here hx rfl (hb hby d1_40) rfl (l' := #[.val (.ref a1), .val (.int p2), .val (.int p3), .val (.int (1 : Int32))]) rfl ?_
          show Steps p.tables e below (s₁.setTop (mkF m 41 #[.val (.ref a1), .val (.int p2), .val (.int p3), .val (.int (1 : Int32))] [])) _
          refine XS.iloadN X0.here hx rfl (hb hby d1_41) rfl ?_
          show Steps p.tables e below (s₁.setTop (mkF m 42 #[.val (.ref a1), .val (.int p2), .val (.int p3), .val (.int (1 : Int32))] [(.int (1 : Int32))])) _
          have hc42 : ¬ ((1 : Int32) = (0 : Int32)) := by decide
          refine XS.ifNo X0.here hx rfl (hb hby d1_42) rfl ((if0 _ _).trans (feq hc42).1) ?_
          show Steps p.tables e below (s₁.setTop (mkF m 45 #[.val (.ref a1), .val (.int p2), .val (.int p3), .val (.int (1 : Int32))] [])) _
          refine XS.iconst X0.here hx rfl (hb hby d1_45) ?_
          show Steps p.tables e below (s₁.setTop (mkF m 46 #[.val (.ref a1), .val (.int p2), .val (.int p3), .val (.int (1 : Int32))] [(.int (3 : Int32))])) _
          refine XS.goto X0.here hx rfl (pc0 := 46) (pc' := 50) rfl (hb hby d1_46) (by decide) (by decide) ?_
          show Steps p.tables e below (s₁.setTop (mkF m 50 #[.val (.ref a1), .val (.int p2), .val (.int p3), .val (.int (1 : Int32))] [(.int (3 : Int32))])) _
          rw [show own_bom w4 w5 w6 = (3 : Int32) from by unfold own_bom; rw [if_pos hc12, if_pos hc22, if_pos hc32]] at hr
          exact retI X0 hx Bd.returns (hb hby d1_50) hr      -- retI stands in the head ('lawwalk <made dir>' prints it)
        · refine XS.icmpYes X0.here hx rfl (pc0 := 32) (pc' := 39) rfl (hb hby d1_32) rfl (feq hc32).2 (by decide) (by decide) ?_
          show Steps p.tables e below (s₁.setTop (mkF m 39 #[.val (.ref a1), .val (.int p2), .val (.int p3), .unset] [])) _
          refine XS.iconst X0.here hx rfl (hb hby d1_39) ?_
          show Steps p.tables e below (s₁.setTop (mkF m 40 #[.val (.ref a1), .val (.int p2), .val (.int p3), .unset] [(.int (0 : Int32))])) _
          refine XS.istoreN X0.here hx rfl (hb hby d1_40) rfl (l' := #[.val (.ref a1), .val (.int p2), .val (.int p3), .val (.int (0 : Int32))]) rfl ?_
          show Steps p.tables e below (s₁.setTop (mkF m 41 #[.val (.ref a1), .val (.int p2), .val (.int p3), .val (.int (0 : Int32))] [])) _
          refine XS.iloadN X0.here hx rfl (hb hby d1_41) rfl ?_
          show Steps p.tables e below (s₁.setTop (mkF m 42 #[.val (.ref a1), .val (.int p2), .val (.int p3), .val (.int (0 : Int32))] [(.int (0 : Int32))])) _
          refine XS.ifYes X0.here hx rfl (pc0 := 42) (pc' := 49) rfl (hb hby d1_42) rfl ((if0 _ _).trans (teq (rfl : (0 : Int32) = (0 : Int32))).1) (by decide) (by decide) ?_
          show Steps p.tables e below (s₁.setTop (mkF m 49 #[.val (.ref a1), .val (.int p2), .val (.int p3), .val (.int (0 : Int32))] [])) _
          refine XS.iconst X0.here hx rfl (hb hby d1_49) ?_
          show Steps p.tables e below (s₁.setTop (mkF m 50 #[.val (.ref a1), .val (.int p2), .val (.int p3), .val (.int (0 : Int32))] [(.int (0 : Int32))])) _
          rw [show own_bom w4 w5 w6 = (0 : Int32) from by unfold own_bom; rw [if_pos hc12, if_pos hc22, if_neg hc32]] at hr
          exact retI X0 hx Bd.returns (hb hby d1_50) hr      -- retI stands in the head ('lawwalk <made dir>' prints it)
      · refine XS.icmpYes X0.here hx rfl (pc0 := 22) (pc' := 39) rfl (hb hby d1_22) rfl (feq hc22).2 (by decide) (by decide) ?_
        show Steps p.tables e below (s₁.setTop (mkF m 39 #[.val (.ref a1), .val (.int p2), .val (.int p3), .unset] [])) _
        refine XS.iconst X0.here hx rfl (hb hby d1_39) ?_
        show Steps p.tables e below (s₁.setTop (mkF m 40 #[.val (.ref a1), .val (.int p2), .val (.int p3), .unset] [(.int (0 : Int32))])) _
        refine XS.istoreN X0.here hx rfl (hb hby d1_40) rfl (l' := #[.val (.ref a1), .val (.int p2), .val (.int p3), .val (.int (0 : Int32))]) rfl ?_
        show Steps p.tables e below (s₁.setTop (mkF m 41 #[.val (.ref a1), .val (.int p2), .val (.int p3), .val (.int (0 : Int32))] [])) _
        refine XS.iloadN X0.here hx rfl (hb hby d1_41) rfl ?_
        show Steps p.tables e below (s₁.setTop (mkF m 42 #[.val (.ref a1), .val (.int p2), .val (.int p3), .val (.int (0 : Int32))] [(.int (0 : Int32))])) _
        refine XS.ifYes X0.here hx rfl (pc0 := 42) (pc' := 49) rfl (hb hby d1_42) rfl ((if0 _ _).trans (teq (rfl : (0 : Int32) = (0 : Int32))).1) (by decide) (by decide) ?_
        show Steps p.tables e below (s₁.setTop (mkF m 49 #[.val (.ref a1), .val (.int p2), .val (.int p3), .val (.int (0 : Int32))] [])) _
        refine XS.iconst X0.here hx rfl (hb hby d1_49) ?_
        show Steps p.tables e below (s₁.setTop (mkF m 50 #[.val (.ref a1), .val (.int p2), .val (.int p3), .val (.int (0 : Int32))] [(.int (0 : Int32))])) _
        rw [show own_bom w4 w5 w6 = (0 : Int32) from by unfold own_bom; rw [if_pos hc12, if_neg hc22]] at hr
        exact retI X0 hx Bd.returns (hb hby d1_50) hr      -- retI stands in the head ('lawwalk <made dir>' prints it)
    · refine XS.icmpYes X0.here hx rfl (pc0 := 12) (pc' := 39) rfl (hb hby d1_12) rfl (feq hc12).2 (by decide) (by decide) ?_
      show Steps p.tables e below (s₁.setTop (mkF m 39 #[.val (.ref a1), .val (.int p2), .val (.int p3), .unset] [])) _
      refine XS.iconst X0.here hx rfl (hb hby d1_39) ?_
      show Steps p.tables e below (s₁.setTop (mkF m 40 #[.val (.ref a1), .val (.int p2), .val (.int p3), .unset] [(.int (0 : Int32))])) _
      refine XS.istoreN X0.here hx rfl (hb hby d1_40) rfl (l' := #[.val (.ref a1), .val (.int p2), .val (.int p3), .val (.int (0 : Int32))]) rfl ?_
      show Steps p.tables e below (s₁.setTop (mkF m 41 #[.val (.ref a1), .val (.int p2), .val (.int p3), .val (.int (0 : Int32))] [])) _
      refine XS.iloadN X0.here hx rfl (hb hby d1_41) rfl ?_
      show Steps p.tables e below (s₁.setTop (mkF m 42 #[.val (.ref a1), .val (.int p2), .val (.int p3), .val (.int (0 : Int32))] [(.int (0 : Int32))])) _
      refine XS.ifYes X0.here hx rfl (pc0 := 42) (pc' := 49) rfl (hb hby d1_42) rfl ((if0 _ _).trans (teq (rfl : (0 : Int32) = (0 : Int32))).1) (by decide) (by decide) ?_
      show Steps p.tables e below (s₁.setTop (mkF m 49 #[.val (.ref a1), .val (.int p2), .val (.int p3), .val (.int (0 : Int32))] [])) _
      refine XS.iconst X0.here hx rfl (hb hby d1_49) ?_
      show Steps p.tables e below (s₁.setTop (mkF m 50 #[.val (.ref a1), .val (.int p2), .val (.int p3), .val (.int (0 : Int32))] [(.int (0 : Int32))])) _
      rw [show own_bom w4 w5 w6 = (0 : Int32) from by unfold own_bom; rw [if_neg hc12]] at hr
      exact retI X0 hx Bd.returns (hb hby d1_50) hr      -- retI stands in the head ('lawwalk <made dir>' prints it)
  · show Q1 Z a1 p2 p3 w4 cl_a1 w5 w6 h0 n0 _ s₁.heap _
    rw [e0]
    exact ⟨rfl, N0, rfl⟩
def Q1s (Z : State) (a1 : Addr) (p2 : Int32) (p3 : Int32) (h0 : Heap) (n0 : Nat) (v : Option Value) (h : Heap) (L : List Loc) : Prop := v = some (.int (0 : Int32)) ∧ Fr n0 L ∧ h = h0
set_option maxRecDepth 65536 in
set_option maxHeartbeats 40000000 in
theorem rm1s (l : Launch) (Z : State) (a0 : Array Value) (hw : ∀ d ∈ tables_1, d.before a0 Z = true) (ws : List Jvm.Cond) (a1 : Addr) (p2 : Int32) (p3 : Int32) (h0 : Heap) (n0 : Nat) (Z0 : n0 ≤ h0.size) (hc4 : (p3 - p2) < (3 : Int32)) :
    MetFree l (⟨"dev/changeline/envelope/Utf8", "byteOrderMarkLength", "([BII)I"⟩ : MethodName) (head1 (Jvm.Cond.code (⟨"dev/changeline/envelope/Utf8", "byteOrderMarkLength", "([BII)I"⟩ : MethodName) prog_119_method_3_code 4 (some .int) :: ws) ({ frames := 0, cells := 0, slots := 0, locals := 0 } : Room)) (fun a U => a = #[(.ref a1), (.int p2), (.int p3)] ∧ Z.Warmed39 U.vm ∧ U.heap = h0) (fun _ _ _ _ _ => True) (fun _ U o U' => ∃ v L, o = .returned v ∧ Q1s Z a1 p2 p3 h0 n0 v U'.heap L ∧ FrameEnd U o U' L ({ frames := 0, cells := 0, slots := 0, locals := 0 } : Room).cells ({ frames := 0, cells := 0, slots := 0, locals := 0 } : Room).slots) := by
  refine MetFree.of_bodySF (plainFor_of_name pn_1) hisR ?_
  intro p e s m args below meth c s₁ Bd hml0 hP hK
  obtain ⟨rfl, hZ, hh⟩ := hP
  have hx := Bd.exec
  have hby := Bd.bytes
  have hml : c.maxLocals = 4 := hml0
  have hown : s.vm.findClass "dev/changeline/envelope/Utf8" = some m.cls := findClass_of_methodNamed Bd.named
  have hnm := (name_of_methodNamed Bd.named Bd.method).1
  have X0 : Stand p l e ({ frames := 0, cells := 0, slots := 0, locals := 0 } : Room) s m #[(.ref a1), (.int p2), (.int p3)] below meth c s₁ [] 0 0 := Stand.of_body Bd
  have e0 : s₁.heap = h0 := by rw [← hh, Bd.state]; rfl
  have N0 := Fr.nil n0
  have pre0 : ∀ t, Steps p.tables e below (s₁.setTop (mkF m 0 #[.val (.ref a1), .val (.int p2), .val (.int p3), .unset] [])) t → Steps p.tables e below (s₁.setTop (entryFrame m #[(.ref a1), (.int p2), (.int p3)] 4)) t := fun t k => castTop (ef_1 m a1 p2 p3) k
  -- 3. LAWS

  obtain ⟨fs, hr, hrun, hended, hW, hsame⟩ := X0.leave (v := some (.int (0 : Int32))) (fun h => by rw [Bd.returns] at h; cases h)
  refine ⟨_, _, pre0 _ ?_, hrun, hended, _, _, rfl, ?_, ⟨_, rfl⟩, hW, hsame.mono (by decide) (by decide)⟩
  -- 4. STEPS
  · show Steps p.tables e below (s₁.setTop (mkF m 0 #[.val (.ref a1), .val (.int p2), .val (.int p3), .unset] [])) _
    refine XS.iloadN X0.here hx rfl (hb hby d1_0) rfl ?_
    show Steps p.tables e below (s₁.setTop (mkF m 1 #[.val (.ref a1), .val (.int p2), .val (.int p3), .unset] [(.int p3)])) _
    refine XS.iloadN X0.here hx rfl (hb hby d1_1) rfl ?_
    show Steps p.tables e below (s₁.setTop (mkF m 2 #[.val (.ref a1), .val (.int p2), .val (.int p3), .unset] [(.int p2), (.int p3)])) _
    refine XS.isub X0.here hx rfl (hb hby d1_2) rfl ?_
    show Steps p.tables e below (s₁.setTop (mkF m 3 #[.val (.ref a1), .val (.int p2), .val (.int p3), .unset] [(.int (p3 - p2))])) _
    refine XS.iconst X0.here hx rfl (hb hby d1_3) ?_
    show Steps p.tables e below (s₁.setTop (mkF m 4 #[.val (.ref a1), .val (.int p2), .val (.int p3), .unset] [(.int (3 : Int32)), (.int (p3 - p2))])) _
    refine XS.icmpYes X0.here hx rfl (pc0 := 4) (pc' := 39) rfl (hb hby d1_4) rfl (tlt hc4).1 (by decide) (by decide) ?_
    show Steps p.tables e below (s₁.setTop (mkF m 39 #[.val (.ref a1), .val (.int p2), .val (.int p3), .unset] [])) _
    refine XS.iconst X0.here hx rfl (hb hby d1_39) ?_
    show Steps p.tables e below (s₁.setTop (mkF m 40 #[.val (.ref a1), .val (.int p2), .val (.int p3), .unset] [(.int (0 : Int32))])) _
    refine XS.istoreN X0.here hx rfl (hb hby d1_40) rfl (l' := #[.val (.ref a1), .val (.int p2), .val (.int p3), .val (.int (0 : Int32))]) rfl ?_
    show Steps p.tables e below (s₁.setTop (mkF m 41 #[.val (.ref a1), .val (.int p2), .val (.int p3), .val (.int (0 : Int32))] [])) _
    refine XS.iloadN X0.here hx rfl (hb hby d1_41) rfl ?_
    show Steps p.tables e below (s₁.setTop (mkF m 42 #[.val (.ref a1), .val (.int p2), .val (.int p3), .val (.int (0 : Int32))] [(.int (0 : Int32))])) _
    refine XS.ifYes X0.here hx rfl (pc0 := 42) (pc' := 49) rfl (hb hby d1_42) rfl ((if0 _ _).trans (teq (rfl : (0 : Int32) = (0 : Int32))).1) (by decide) (by decide) ?_
    show Steps p.tables e below (s₁.setTop (mkF m 49 #[.val (.ref a1), .val (.int p2), .val (.int p3), .val (.int (0 : Int32))] [])) _
    refine XS.iconst X0.here hx rfl (hb hby d1_49) ?_
    show Steps p.tables e below (s₁.setTop (mkF m 50 #[.val (.ref a1), .val (.int p2), .val (.int p3), .val (.int (0 : Int32))] [(.int (0 : Int32))])) _
    exact retI X0 hx Bd.returns (hb hby d1_50) hr      -- retI stands in the head ('lawwalk <made dir>' prints it)
  · show Q1s Z a1 p2 p3 h0 n0 _ s₁.heap _
    rw [e0]
    exact ⟨rfl, N0, rfl⟩

theorem d2_0 : decode method_2_code 0 = .ok (.iload_n 0, 1) := by decide +kernel
theorem d2_1 : decode method_2_code 1 = .ok (.sipush 255, 3) := by decide +kernel
theorem d2_4 : decode method_2_code 4 = .ok (.iand, 1) := by decide +kernel
theorem d2_5 : decode method_2_code 5 = .ok (.ireturn, 1) := by decide +kernel
theorem pn_2 : plainName "dev/changeline/envelope/Utf8ByteOrderMarkLengthPinLaw" = true := by first | (simp [plainName, overriddenIn]; done) | decide +kernel
theorem ef_2 (m : MethodId) (x0 : Int32) : entryFrame m #[(.int x0)] 1 = mkF m 0 #[.val (.int x0)] [] := by first | (simp [entryFrame, mkF, argsToLocals, Value.category]; done) | rfl
def Q2 (Z : State) (p1 : Int32) (h0 : Heap) (n0 : Nat) (v : Option Value) (h : Heap) (L : List Loc) : Prop := v = some (.int (p1 &&& (255 : Int32))) ∧ Fr n0 L ∧ h = h0
set_option maxRecDepth 65536 in
set_option maxHeartbeats 40000000 in
theorem rm2 (l : Launch) (Z : State) (a0 : Array Value) (hw : ∀ d ∈ tables_1, d.before a0 Z = true) (ws : List Jvm.Cond) (p1 : Int32) (h0 : Heap) (n0 : Nat) (Z0 : n0 ≤ h0.size) :
    MetFree l (⟨"dev/changeline/envelope/Utf8ByteOrderMarkLengthPinLaw", "u", "(B)I"⟩ : MethodName) (head1 (Jvm.Cond.code (⟨"dev/changeline/envelope/Utf8ByteOrderMarkLengthPinLaw", "u", "(B)I"⟩ : MethodName) method_2_code 1 (some .int) :: ws) ({ frames := 0, cells := 0, slots := 0, locals := 0 } : Room)) (fun a U => a = #[(.int p1)] ∧ Z.Warmed39 U.vm ∧ U.heap = h0) (fun _ _ _ _ _ => True) (fun _ U o U' => ∃ v L, o = .returned v ∧ Q2 Z p1 h0 n0 v U'.heap L ∧ FrameEnd U o U' L ({ frames := 0, cells := 0, slots := 0, locals := 0 } : Room).cells ({ frames := 0, cells := 0, slots := 0, locals := 0 } : Room).slots) := by
  refine MetFree.of_bodySF (plainFor_of_name pn_2) hisR ?_
  intro p e s m args below meth c s₁ Bd hml0 hP hK
  obtain ⟨rfl, hZ, hh⟩ := hP
  have hx := Bd.exec
  have hby := Bd.bytes
  have hml : c.maxLocals = 1 := hml0
  have hown : s.vm.findClass "dev/changeline/envelope/Utf8ByteOrderMarkLengthPinLaw" = some m.cls := findClass_of_methodNamed Bd.named
  have hnm := (name_of_methodNamed Bd.named Bd.method).1
  have X0 : Stand p l e ({ frames := 0, cells := 0, slots := 0, locals := 0 } : Room) s m #[(.int p1)] below meth c s₁ [] 0 0 := Stand.of_body Bd
  have e0 : s₁.heap = h0 := by rw [← hh, Bd.state]; rfl
  have N0 := Fr.nil n0
  have pre0 : ∀ t, Steps p.tables e below (s₁.setTop (mkF m 0 #[.val (.int p1)] [])) t → Steps p.tables e below (s₁.setTop (entryFrame m #[(.int p1)] 1)) t := fun t k => castTop (ef_2 m p1) k
  -- 3. LAWS

  obtain ⟨fs, hr, hrun, hended, hW, hsame⟩ := X0.leave (v := some (.int (p1 &&& (255 : Int32)))) (fun h => by rw [Bd.returns] at h; cases h)
  refine ⟨_, _, pre0 _ ?_, hrun, hended, _, _, rfl, ?_, ⟨_, rfl⟩, hW, hsame.mono (by decide) (by decide)⟩
  -- 4. STEPS
  · show Steps p.tables e below (s₁.setTop (mkF m 0 #[.val (.int p1)] [])) _
    refine XS.iloadN X0.here hx rfl (hb hby d2_0) rfl ?_
    show Steps p.tables e below (s₁.setTop (mkF m 1 #[.val (.int p1)] [(.int p1)])) _
    refine XS.sipush X0.here hx rfl (hb hby d2_1) ?_
    show Steps p.tables e below (s₁.setTop (mkF m 4 #[.val (.int p1)] [(.int (255 : Int32)), (.int p1)])) _
    refine XS.iand X0.here hx rfl (hb hby d2_4) rfl ?_
    show Steps p.tables e below (s₁.setTop (mkF m 5 #[.val (.int p1)] [(.int (p1 &&& (255 : Int32)))])) _
    exact retI X0 hx Bd.returns (hb hby d2_5) hr      -- retI stands in the head ('lawwalk <made dir>' prints it)
  · show Q2 Z p1 h0 n0 _ s₁.heap _
    rw [e0]
    exact ⟨rfl, N0, rfl⟩

set_option maxRecDepth 65536 in
set_option maxHeartbeats 40000000 in
theorem own_blk1 {p : Program} {l : Launch} {e : Env} {R : Room} {s : State} {m : MethodId} {args : Array Value} {below : List Frame} {meth : Method} {c : Code} {T0 : State} {locs : List Loc} {cells slots : Nat} {Z : State} {a0 : Array Value} {h0 : Heap} (s0 : Slot) (s1 : Slot) (s2 : Slot) (s3 : Slot) (i4 : Int32) (o5 : Addr) (i6 : Int32) (s7 : Slot) (s8 : Slot) (s9 : Slot)
    (X0 : Stand p l e R s m args below meth c T0 locs cells slots) (hx : p.tables.exec = Jvm.exec) (hZ : Z.Warmed39 s.vm) (hw : ∀ d ∈ tables_1, d.before a0 Z = true) (hby : c.code = code) (hml : c.maxLocals = 10) (hown : s.vm.findClass "dev/changeline/envelope/Utf8ByteOrderMarkLengthPinLaw" = some m.cls) (e0 : T0.heap = h0) {n0 : Nat} (N0 : Fr n0 locs) (g_o5 : n0 ≤ o5) (B0 : own_Byt Z h0 o5) (hF : 0 ≤ i6.toInt ∧ i6.toInt ≤ 8) :
    ∃ (T' : State) (h' : Heap) (locs' : List Loc), Stand p l e R s m args below meth c T' locs' cells slots ∧ T'.heap = h' ∧ own_Byt Z h' o5 ∧ Fr n0 locs' ∧ h0.size ≤ h'.size ∧
      ∀ target, Steps p.tables e below (T'.setTop (mkF m 130 #[s0, s1, s2, s3, .val (.int i4), .val (.ref o5), .val (.int i6), s7, s8, s9] [])) target → Steps p.tables e below (T0.setTop (mkF m 109 #[s0, s1, s2, s3, .val (.int i4), .val (.ref o5), .val (.int i6), s7, s8, s9] [])) target := by
  by_cases hc113 : (i4 &&& (1 : Int32)) = (0 : Int32)
  · refine ⟨T0, h0, locs, X0, e0, B0, N0, Nat.le_refl _, fun target kt => ?_⟩
    show Steps p.tables e below (T0.setTop (mkF m 109 #[s0, s1, s2, s3, .val (.int i4), .val (.ref o5), .val (.int i6), s7, s8, s9] [])) _
    refine XS.iload X0.here hx rfl (hb hby at_109) rfl ?_
    show Steps p.tables e below (T0.setTop (mkF m 111 #[s0, s1, s2, s3, .val (.int i4), .val (.ref o5), .val (.int i6), s7, s8, s9] [(.int i4)])) _
    refine XS.iconst X0.here hx rfl (hb hby at_111) ?_
    show Steps p.tables e below (T0.setTop (mkF m 112 #[s0, s1, s2, s3, .val (.int i4), .val (.ref o5), .val (.int i6), s7, s8, s9] [(.int (1 : Int32)), (.int i4)])) _
    refine XS.iand X0.here hx rfl (hb hby at_112) rfl ?_
    show Steps p.tables e below (T0.setTop (mkF m 113 #[s0, s1, s2, s3, .val (.int i4), .val (.ref o5), .val (.int i6), s7, s8, s9] [(.int (i4 &&& (1 : Int32)))])) _
    refine XS.ifYes X0.here hx rfl (pc0 := 113) (pc' := 130) rfl (hb hby at_113) rfl ((if0 _ _).trans (teq hc113).1) (by decide) (by decide) ?_
    exact kt
  · by_cases hc120 : i6 < (8 : Int32)
    · have B1 := B0
      obtain ⟨cl_o5, Ar_o5, S_o5, H_o5⟩ := B1
      have hj : ¬ i6 < 0 ∧ i6 < 8 := ⟨own_nn hF.1, hc120⟩
      have hin129 : ¬ (i6 < 0 ∨ cl_o5.slots.size ≤ (i6).toNatClampNeg) := inb_of S_o5 hj
      obtain ⟨T5, h5, X5, e5, W5, st5⟩ := stB X0 hx hZ e0 Ar_o5 (j := i6) hin129 (g := (mkF m 129 #[s0, s1, s2, s3, .val (.int i4), .val (.ref o5), .val (.int i6), s7, s8, s9] [(.int (-17 : Int32)), (.int i6), (.ref o5)])) rfl rfl (hb hby at_129)
      have N5 := Fr.snoc X5 N0 g_o5
      -- Ar_o5.same W5 : the array with (.int (-17 : Int32)) at the place i6
      have K5 : Keep h0 h5 [o5] := (Keep.refl h0 [o5]).wr W5 (Or.inl (List.mem_of_getElem? (i := 0) rfl))
      refine ⟨T5, h5, _, X5, e5, own_Byt_wr Ar_o5 S_o5 H_o5 hj W5, N5, K5.1, fun target kt => ?_⟩
      show Steps p.tables e below (T0.setTop (mkF m 109 #[s0, s1, s2, s3, .val (.int i4), .val (.ref o5), .val (.int i6), s7, s8, s9] [])) _
      refine XS.iload X0.here hx rfl (hb hby at_109) rfl ?_
      show Steps p.tables e below (T0.setTop (mkF m 111 #[s0, s1, s2, s3, .val (.int i4), .val (.ref o5), .val (.int i6), s7, s8, s9] [(.int i4)])) _
      refine XS.iconst X0.here hx rfl (hb hby at_111) ?_
      show Steps p.tables e below (T0.setTop (mkF m 112 #[s0, s1, s2, s3, .val (.int i4), .val (.ref o5), .val (.int i6), s7, s8, s9] [(.int (1 : Int32)), (.int i4)])) _
      refine XS.iand X0.here hx rfl (hb hby at_112) rfl ?_
      show Steps p.tables e below (T0.setTop (mkF m 113 #[s0, s1, s2, s3, .val (.int i4), .val (.ref o5), .val (.int i6), s7, s8, s9] [(.int (i4 &&& (1 : Int32)))])) _
      refine XS.ifNo X0.here hx rfl (hb hby at_113) rfl ((if0 _ _).trans (feq hc113).1) ?_
      show Steps p.tables e below (T0.setTop (mkF m 116 #[s0, s1, s2, s3, .val (.int i4), .val (.ref o5), .val (.int i6), s7, s8, s9] [])) _
      refine XS.iload X0.here hx rfl (hb hby at_116) rfl ?_
      show Steps p.tables e below (T0.setTop (mkF m 118 #[s0, s1, s2, s3, .val (.int i4), .val (.ref o5), .val (.int i6), s7, s8, s9] [(.int i6)])) _
      refine XS.bipush X0.here hx rfl (hb hby at_118) ?_
      show Steps p.tables e below (T0.setTop (mkF m 120 #[s0, s1, s2, s3, .val (.int i4), .val (.ref o5), .val (.int i6), s7, s8, s9] [(.int (8 : Int32)), (.int i6)])) _
      refine XS.icmpNo X0.here hx rfl (hb hby at_120) rfl (tlt hc120).2.1 ?_
      show Steps p.tables e below (T0.setTop (mkF m 123 #[s0, s1, s2, s3, .val (.int i4), .val (.ref o5), .val (.int i6), s7, s8, s9] [])) _
      refine XS.aload X0.here hx rfl (hb hby at_123) rfl rfl ?_
      show Steps p.tables e below (T0.setTop (mkF m 125 #[s0, s1, s2, s3, .val (.int i4), .val (.ref o5), .val (.int i6), s7, s8, s9] [(.ref o5)])) _
      refine XS.iload X0.here hx rfl (hb hby at_125) rfl ?_
      show Steps p.tables e below (T0.setTop (mkF m 127 #[s0, s1, s2, s3, .val (.int i4), .val (.ref o5), .val (.int i6), s7, s8, s9] [(.int i6), (.ref o5)])) _
      refine XS.bipush X0.here hx rfl (hb hby at_127) ?_
      show Steps p.tables e below (T0.setTop (mkF m 129 #[s0, s1, s2, s3, .val (.int i4), .val (.ref o5), .val (.int i6), s7, s8, s9] [(.int (-17 : Int32)), (.int i6), (.ref o5)])) _
      refine st5 _ ?_
      exact kt
    · refine ⟨T0, h0, locs, X0, e0, B0, N0, Nat.le_refl _, fun target kt => ?_⟩
      show Steps p.tables e below (T0.setTop (mkF m 109 #[s0, s1, s2, s3, .val (.int i4), .val (.ref o5), .val (.int i6), s7, s8, s9] [])) _
      refine XS.iload X0.here hx rfl (hb hby at_109) rfl ?_
      show Steps p.tables e below (T0.setTop (mkF m 111 #[s0, s1, s2, s3, .val (.int i4), .val (.ref o5), .val (.int i6), s7, s8, s9] [(.int i4)])) _
      refine XS.iconst X0.here hx rfl (hb hby at_111) ?_
      show Steps p.tables e below (T0.setTop (mkF m 112 #[s0, s1, s2, s3, .val (.int i4), .val (.ref o5), .val (.int i6), s7, s8, s9] [(.int (1 : Int32)), (.int i4)])) _
      refine XS.iand X0.here hx rfl (hb hby at_112) rfl ?_
      show Steps p.tables e below (T0.setTop (mkF m 113 #[s0, s1, s2, s3, .val (.int i4), .val (.ref o5), .val (.int i6), s7, s8, s9] [(.int (i4 &&& (1 : Int32)))])) _
      refine XS.ifNo X0.here hx rfl (hb hby at_113) rfl ((if0 _ _).trans (feq hc113).1) ?_
      show Steps p.tables e below (T0.setTop (mkF m 116 #[s0, s1, s2, s3, .val (.int i4), .val (.ref o5), .val (.int i6), s7, s8, s9] [])) _
      refine XS.iload X0.here hx rfl (hb hby at_116) rfl ?_
      show Steps p.tables e below (T0.setTop (mkF m 118 #[s0, s1, s2, s3, .val (.int i4), .val (.ref o5), .val (.int i6), s7, s8, s9] [(.int i6)])) _
      refine XS.bipush X0.here hx rfl (hb hby at_118) ?_
      show Steps p.tables e below (T0.setTop (mkF m 120 #[s0, s1, s2, s3, .val (.int i4), .val (.ref o5), .val (.int i6), s7, s8, s9] [(.int (8 : Int32)), (.int i6)])) _
      refine XS.icmpYes X0.here hx rfl (pc0 := 120) (pc' := 130) rfl (hb hby at_120) rfl (flt hc120).2.1 (by decide) (by decide) ?_
      exact kt
set_option maxRecDepth 65536 in
set_option maxHeartbeats 40000000 in
theorem own_blk2 {p : Program} {l : Launch} {e : Env} {R : Room} {s : State} {m : MethodId} {args : Array Value} {below : List Frame} {meth : Method} {c : Code} {T0 : State} {locs : List Loc} {cells slots : Nat} {Z : State} {a0 : Array Value} {h0 : Heap} (s0 : Slot) (s1 : Slot) (s2 : Slot) (s3 : Slot) (i4 : Int32) (o5 : Addr) (i6 : Int32) (s7 : Slot) (s8 : Slot) (s9 : Slot)
    (X0 : Stand p l e R s m args below meth c T0 locs cells slots) (hx : p.tables.exec = Jvm.exec) (hZ : Z.Warmed39 s.vm) (hw : ∀ d ∈ tables_1, d.before a0 Z = true) (hby : c.code = code) (hml : c.maxLocals = 10) (hown : s.vm.findClass "dev/changeline/envelope/Utf8ByteOrderMarkLengthPinLaw" = some m.cls) (e0 : T0.heap = h0) {n0 : Nat} (N0 : Fr n0 locs) (g_o5 : n0 ≤ o5) (B0 : own_Byt Z h0 o5) (hF : 0 ≤ i6.toInt ∧ i6.toInt ≤ 8) :
    ∃ (T' : State) (h' : Heap) (locs' : List Loc), Stand p l e R s m args below meth c T' locs' cells slots ∧ T'.heap = h' ∧ own_Byt Z h' o5 ∧ Fr n0 locs' ∧ h0.size ≤ h'.size ∧
      ∀ target, Steps p.tables e below (T'.setTop (mkF m 155 #[s0, s1, s2, s3, .val (.int i4), .val (.ref o5), .val (.int i6), s7, s8, s9] [])) target → Steps p.tables e below (T0.setTop (mkF m 130 #[s0, s1, s2, s3, .val (.int i4), .val (.ref o5), .val (.int i6), s7, s8, s9] [])) target := by
  by_cases hc134 : (i4 &&& (2 : Int32)) = (0 : Int32)
  · refine ⟨T0, h0, locs, X0, e0, B0, N0, Nat.le_refl _, fun target kt => ?_⟩
    show Steps p.tables e below (T0.setTop (mkF m 130 #[s0, s1, s2, s3, .val (.int i4), .val (.ref o5), .val (.int i6), s7, s8, s9] [])) _
    refine XS.iload X0.here hx rfl (hb hby at_130) rfl ?_
    show Steps p.tables e below (T0.setTop (mkF m 132 #[s0, s1, s2, s3, .val (.int i4), .val (.ref o5), .val (.int i6), s7, s8, s9] [(.int i4)])) _
    refine XS.iconst X0.here hx rfl (hb hby at_132) ?_
    show Steps p.tables e below (T0.setTop (mkF m 133 #[s0, s1, s2, s3, .val (.int i4), .val (.ref o5), .val (.int i6), s7, s8, s9] [(.int (2 : Int32)), (.int i4)])) _
    refine XS.iand X0.here hx rfl (hb hby at_133) rfl ?_
    show Steps p.tables e below (T0.setTop (mkF m 134 #[s0, s1, s2, s3, .val (.int i4), .val (.ref o5), .val (.int i6), s7, s8, s9] [(.int (i4 &&& (2 : Int32)))])) _
    refine XS.ifYes X0.here hx rfl (pc0 := 134) (pc' := 155) rfl (hb hby at_134) rfl ((if0 _ _).trans (teq hc134).1) (by decide) (by decide) ?_
    exact kt
  · by_cases hc143 : (i6 + (1 : Int32)) < (8 : Int32)
    · have B1 := B0
      obtain ⟨cl_o5, Ar_o5, S_o5, H_o5⟩ := B1
      have hj : ¬ (i6 + (1 : Int32)) < 0 ∧ (i6 + (1 : Int32)) < 8 := ⟨own_nn (by rw [own_plus i6 1 hF ⟨by decide, by decide⟩, show (1 : Int32).toInt = 1 from rfl]; omega), hc143⟩
      have hin154 : ¬ ((i6 + (1 : Int32)) < 0 ∨ cl_o5.slots.size ≤ ((i6 + (1 : Int32))).toNatClampNeg) := inb_of S_o5 hj
      obtain ⟨T5, h5, X5, e5, W5, st5⟩ := stB X0 hx hZ e0 Ar_o5 (j := (i6 + (1 : Int32))) hin154 (g := (mkF m 154 #[s0, s1, s2, s3, .val (.int i4), .val (.ref o5), .val (.int i6), s7, s8, s9] [(.int (-69 : Int32)), (.int (i6 + (1 : Int32))), (.ref o5)])) rfl rfl (hb hby at_154)
      have N5 := Fr.snoc X5 N0 g_o5
      -- Ar_o5.same W5 : the array with (.int (-69 : Int32)) at the place (i6 + (1 : Int32))
      have K5 : Keep h0 h5 [o5] := (Keep.refl h0 [o5]).wr W5 (Or.inl (List.mem_of_getElem? (i := 0) rfl))
      refine ⟨T5, h5, _, X5, e5, own_Byt_wr Ar_o5 S_o5 H_o5 hj W5, N5, K5.1, fun target kt => ?_⟩
      show Steps p.tables e below (T0.setTop (mkF m 130 #[s0, s1, s2, s3, .val (.int i4), .val (.ref o5), .val (.int i6), s7, s8, s9] [])) _
      refine XS.iload X0.here hx rfl (hb hby at_130) rfl ?_
      show Steps p.tables e below (T0.setTop (mkF m 132 #[s0, s1, s2, s3, .val (.int i4), .val (.ref o5), .val (.int i6), s7, s8, s9] [(.int i4)])) _
      refine XS.iconst X0.here hx rfl (hb hby at_132) ?_
      show Steps p.tables e below (T0.setTop (mkF m 133 #[s0, s1, s2, s3, .val (.int i4), .val (.ref o5), .val (.int i6), s7, s8, s9] [(.int (2 : Int32)), (.int i4)])) _
      refine XS.iand X0.here hx rfl (hb hby at_133) rfl ?_
      show Steps p.tables e below (T0.setTop (mkF m 134 #[s0, s1, s2, s3, .val (.int i4), .val (.ref o5), .val (.int i6), s7, s8, s9] [(.int (i4 &&& (2 : Int32)))])) _
      refine XS.ifNo X0.here hx rfl (hb hby at_134) rfl ((if0 _ _).trans (feq hc134).1) ?_
      show Steps p.tables e below (T0.setTop (mkF m 137 #[s0, s1, s2, s3, .val (.int i4), .val (.ref o5), .val (.int i6), s7, s8, s9] [])) _
      refine XS.iload X0.here hx rfl (hb hby at_137) rfl ?_
      show Steps p.tables e below (T0.setTop (mkF m 139 #[s0, s1, s2, s3, .val (.int i4), .val (.ref o5), .val (.int i6), s7, s8, s9] [(.int i6)])) _
      refine XS.iconst X0.here hx rfl (hb hby at_139) ?_
      show Steps p.tables e below (T0.setTop (mkF m 140 #[s0, s1, s2, s3, .val (.int i4), .val (.ref o5), .val (.int i6), s7, s8, s9] [(.int (1 : Int32)), (.int i6)])) _
      refine XS.iadd X0.here hx rfl (hb hby at_140) rfl ?_
      show Steps p.tables e below (T0.setTop (mkF m 141 #[s0, s1, s2, s3, .val (.int i4), .val (.ref o5), .val (.int i6), s7, s8, s9] [(.int (i6 + (1 : Int32)))])) _
      refine XS.bipush X0.here hx rfl (hb hby at_141) ?_
      show Steps p.tables e below (T0.setTop (mkF m 143 #[s0, s1, s2, s3, .val (.int i4), .val (.ref o5), .val (.int i6), s7, s8, s9] [(.int (8 : Int32)), (.int (i6 + (1 : Int32)))])) _
      refine XS.icmpNo X0.here hx rfl (hb hby at_143) rfl (tlt hc143).2.1 ?_
      show Steps p.tables e below (T0.setTop (mkF m 146 #[s0, s1, s2, s3, .val (.int i4), .val (.ref o5), .val (.int i6), s7, s8, s9] [])) _
      refine XS.aload X0.here hx rfl (hb hby at_146) rfl rfl ?_
      show Steps p.tables e below (T0.setTop (mkF m 148 #[s0, s1, s2, s3, .val (.int i4), .val (.ref o5), .val (.int i6), s7, s8, s9] [(.ref o5)])) _
      refine XS.iload X0.here hx rfl (hb hby at_148) rfl ?_
      show Steps p.tables e below (T0.setTop (mkF m 150 #[s0, s1, s2, s3, .val (.int i4), .val (.ref o5), .val (.int i6), s7, s8, s9] [(.int i6), (.ref o5)])) _
      refine XS.iconst X0.here hx rfl (hb hby at_150) ?_
      show Steps p.tables e below (T0.setTop (mkF m 151 #[s0, s1, s2, s3, .val (.int i4), .val (.ref o5), .val (.int i6), s7, s8, s9] [(.int (1 : Int32)), (.int i6), (.ref o5)])) _
      refine XS.iadd X0.here hx rfl (hb hby at_151) rfl ?_
      show Steps p.tables e below (T0.setTop (mkF m 152 #[s0, s1, s2, s3, .val (.int i4), .val (.ref o5), .val (.int i6), s7, s8, s9] [(.int (i6 + (1 : Int32))), (.ref o5)])) _
      refine XS.bipush X0.here hx rfl (hb hby at_152) ?_
      show Steps p.tables e below (T0.setTop (mkF m 154 #[s0, s1, s2, s3, .val (.int i4), .val (.ref o5), .val (.int i6), s7, s8, s9] [(.int (-69 : Int32)), (.int (i6 + (1 : Int32))), (.ref o5)])) _
      refine st5 _ ?_
      exact kt
    · refine ⟨T0, h0, locs, X0, e0, B0, N0, Nat.le_refl _, fun target kt => ?_⟩
      show Steps p.tables e below (T0.setTop (mkF m 130 #[s0, s1, s2, s3, .val (.int i4), .val (.ref o5), .val (.int i6), s7, s8, s9] [])) _
      refine XS.iload X0.here hx rfl (hb hby at_130) rfl ?_
      show Steps p.tables e below (T0.setTop (mkF m 132 #[s0, s1, s2, s3, .val (.int i4), .val (.ref o5), .val (.int i6), s7, s8, s9] [(.int i4)])) _
      refine XS.iconst X0.here hx rfl (hb hby at_132) ?_
      show Steps p.tables e below (T0.setTop (mkF m 133 #[s0, s1, s2, s3, .val (.int i4), .val (.ref o5), .val (.int i6), s7, s8, s9] [(.int (2 : Int32)), (.int i4)])) _
      refine XS.iand X0.here hx rfl (hb hby at_133) rfl ?_
      show Steps p.tables e below (T0.setTop (mkF m 134 #[s0, s1, s2, s3, .val (.int i4), .val (.ref o5), .val (.int i6), s7, s8, s9] [(.int (i4 &&& (2 : Int32)))])) _
      refine XS.ifNo X0.here hx rfl (hb hby at_134) rfl ((if0 _ _).trans (feq hc134).1) ?_
      show Steps p.tables e below (T0.setTop (mkF m 137 #[s0, s1, s2, s3, .val (.int i4), .val (.ref o5), .val (.int i6), s7, s8, s9] [])) _
      refine XS.iload X0.here hx rfl (hb hby at_137) rfl ?_
      show Steps p.tables e below (T0.setTop (mkF m 139 #[s0, s1, s2, s3, .val (.int i4), .val (.ref o5), .val (.int i6), s7, s8, s9] [(.int i6)])) _
      refine XS.iconst X0.here hx rfl (hb hby at_139) ?_
      show Steps p.tables e below (T0.setTop (mkF m 140 #[s0, s1, s2, s3, .val (.int i4), .val (.ref o5), .val (.int i6), s7, s8, s9] [(.int (1 : Int32)), (.int i6)])) _
      refine XS.iadd X0.here hx rfl (hb hby at_140) rfl ?_
      show Steps p.tables e below (T0.setTop (mkF m 141 #[s0, s1, s2, s3, .val (.int i4), .val (.ref o5), .val (.int i6), s7, s8, s9] [(.int (i6 + (1 : Int32)))])) _
      refine XS.bipush X0.here hx rfl (hb hby at_141) ?_
      show Steps p.tables e below (T0.setTop (mkF m 143 #[s0, s1, s2, s3, .val (.int i4), .val (.ref o5), .val (.int i6), s7, s8, s9] [(.int (8 : Int32)), (.int (i6 + (1 : Int32)))])) _
      refine XS.icmpYes X0.here hx rfl (pc0 := 143) (pc' := 155) rfl (hb hby at_143) rfl (flt hc143).2.1 (by decide) (by decide) ?_
      exact kt
set_option maxRecDepth 65536 in
set_option maxHeartbeats 40000000 in
theorem own_blk3 {p : Program} {l : Launch} {e : Env} {R : Room} {s : State} {m : MethodId} {args : Array Value} {below : List Frame} {meth : Method} {c : Code} {T0 : State} {locs : List Loc} {cells slots : Nat} {Z : State} {a0 : Array Value} {h0 : Heap} (s0 : Slot) (s1 : Slot) (s2 : Slot) (s3 : Slot) (i4 : Int32) (o5 : Addr) (i6 : Int32) (s7 : Slot) (s8 : Slot) (s9 : Slot)
    (X0 : Stand p l e R s m args below meth c T0 locs cells slots) (hx : p.tables.exec = Jvm.exec) (hZ : Z.Warmed39 s.vm) (hw : ∀ d ∈ tables_1, d.before a0 Z = true) (hby : c.code = code) (hml : c.maxLocals = 10) (hown : s.vm.findClass "dev/changeline/envelope/Utf8ByteOrderMarkLengthPinLaw" = some m.cls) (e0 : T0.heap = h0) {n0 : Nat} (N0 : Fr n0 locs) (g_o5 : n0 ≤ o5) (B0 : own_Byt Z h0 o5) (hF : 0 ≤ i6.toInt ∧ i6.toInt ≤ 8) :
    ∃ (T' : State) (h' : Heap) (locs' : List Loc), Stand p l e R s m args below meth c T' locs' cells slots ∧ T'.heap = h' ∧ own_Byt Z h' o5 ∧ Fr n0 locs' ∧ h0.size ≤ h'.size ∧
      ∀ target, Steps p.tables e below (T'.setTop (mkF m 180 #[s0, s1, s2, s3, .val (.int i4), .val (.ref o5), .val (.int i6), s7, s8, s9] [])) target → Steps p.tables e below (T0.setTop (mkF m 155 #[s0, s1, s2, s3, .val (.int i4), .val (.ref o5), .val (.int i6), s7, s8, s9] [])) target := by
  by_cases hc159 : (i4 &&& (4 : Int32)) = (0 : Int32)
  · refine ⟨T0, h0, locs, X0, e0, B0, N0, Nat.le_refl _, fun target kt => ?_⟩
    show Steps p.tables e below (T0.setTop (mkF m 155 #[s0, s1, s2, s3, .val (.int i4), .val (.ref o5), .val (.int i6), s7, s8, s9] [])) _
    refine XS.iload X0.here hx rfl (hb hby at_155) rfl ?_
    show Steps p.tables e below (T0.setTop (mkF m 157 #[s0, s1, s2, s3, .val (.int i4), .val (.ref o5), .val (.int i6), s7, s8, s9] [(.int i4)])) _
    refine XS.iconst X0.here hx rfl (hb hby at_157) ?_
    show Steps p.tables e below (T0.setTop (mkF m 158 #[s0, s1, s2, s3, .val (.int i4), .val (.ref o5), .val (.int i6), s7, s8, s9] [(.int (4 : Int32)), (.int i4)])) _
    refine XS.iand X0.here hx rfl (hb hby at_158) rfl ?_
    show Steps p.tables e below (T0.setTop (mkF m 159 #[s0, s1, s2, s3, .val (.int i4), .val (.ref o5), .val (.int i6), s7, s8, s9] [(.int (i4 &&& (4 : Int32)))])) _
    refine XS.ifYes X0.here hx rfl (pc0 := 159) (pc' := 180) rfl (hb hby at_159) rfl ((if0 _ _).trans (teq hc159).1) (by decide) (by decide) ?_
    exact kt
  · by_cases hc168 : (i6 + (2 : Int32)) < (8 : Int32)
    · have B1 := B0
      obtain ⟨cl_o5, Ar_o5, S_o5, H_o5⟩ := B1
      have hj : ¬ (i6 + (2 : Int32)) < 0 ∧ (i6 + (2 : Int32)) < 8 := ⟨own_nn (by rw [own_plus i6 2 hF ⟨by decide, by decide⟩, show (2 : Int32).toInt = 2 from rfl]; omega), hc168⟩
      have hin179 : ¬ ((i6 + (2 : Int32)) < 0 ∨ cl_o5.slots.size ≤ ((i6 + (2 : Int32))).toNatClampNeg) := inb_of S_o5 hj
      obtain ⟨T5, h5, X5, e5, W5, st5⟩ := stB X0 hx hZ e0 Ar_o5 (j := (i6 + (2 : Int32))) hin179 (g := (mkF m 179 #[s0, s1, s2, s3, .val (.int i4), .val (.ref o5), .val (.int i6), s7, s8, s9] [(.int (-65 : Int32)), (.int (i6 + (2 : Int32))), (.ref o5)])) rfl rfl (hb hby at_179)
      have N5 := Fr.snoc X5 N0 g_o5
      -- Ar_o5.same W5 : the array with (.int (-65 : Int32)) at the place (i6 + (2 : Int32))
      have K5 : Keep h0 h5 [o5] := (Keep.refl h0 [o5]).wr W5 (Or.inl (List.mem_of_getElem? (i := 0) rfl))
      refine ⟨T5, h5, _, X5, e5, own_Byt_wr Ar_o5 S_o5 H_o5 hj W5, N5, K5.1, fun target kt => ?_⟩
      show Steps p.tables e below (T0.setTop (mkF m 155 #[s0, s1, s2, s3, .val (.int i4), .val (.ref o5), .val (.int i6), s7, s8, s9] [])) _
      refine XS.iload X0.here hx rfl (hb hby at_155) rfl ?_
      show Steps p.tables e below (T0.setTop (mkF m 157 #[s0, s1, s2, s3, .val (.int i4), .val (.ref o5), .val (.int i6), s7, s8, s9] [(.int i4)])) _
      refine XS.iconst X0.here hx rfl (hb hby at_157) ?_
      show Steps p.tables e below (T0.setTop (mkF m 158 #[s0, s1, s2, s3, .val (.int i4), .val (.ref o5), .val (.int i6), s7, s8, s9] [(.int (4 : Int32)), (.int i4)])) _
      refine XS.iand X0.here hx rfl (hb hby at_158) rfl ?_
      show Steps p.tables e below (T0.setTop (mkF m 159 #[s0, s1, s2, s3, .val (.int i4), .val (.ref o5), .val (.int i6), s7, s8, s9] [(.int (i4 &&& (4 : Int32)))])) _
      refine XS.ifNo X0.here hx rfl (hb hby at_159) rfl ((if0 _ _).trans (feq hc159).1) ?_
      show Steps p.tables e below (T0.setTop (mkF m 162 #[s0, s1, s2, s3, .val (.int i4), .val (.ref o5), .val (.int i6), s7, s8, s9] [])) _
      refine XS.iload X0.here hx rfl (hb hby at_162) rfl ?_
      show Steps p.tables e below (T0.setTop (mkF m 164 #[s0, s1, s2, s3, .val (.int i4), .val (.ref o5), .val (.int i6), s7, s8, s9] [(.int i6)])) _
      refine XS.iconst X0.here hx rfl (hb hby at_164) ?_
      show Steps p.tables e below (T0.setTop (mkF m 165 #[s0, s1, s2, s3, .val (.int i4), .val (.ref o5), .val (.int i6), s7, s8, s9] [(.int (2 : Int32)), (.int i6)])) _
      refine XS.iadd X0.here hx rfl (hb hby at_165) rfl ?_
      show Steps p.tables e below (T0.setTop (mkF m 166 #[s0, s1, s2, s3, .val (.int i4), .val (.ref o5), .val (.int i6), s7, s8, s9] [(.int (i6 + (2 : Int32)))])) _
      refine XS.bipush X0.here hx rfl (hb hby at_166) ?_
      show Steps p.tables e below (T0.setTop (mkF m 168 #[s0, s1, s2, s3, .val (.int i4), .val (.ref o5), .val (.int i6), s7, s8, s9] [(.int (8 : Int32)), (.int (i6 + (2 : Int32)))])) _
      refine XS.icmpNo X0.here hx rfl (hb hby at_168) rfl (tlt hc168).2.1 ?_
      show Steps p.tables e below (T0.setTop (mkF m 171 #[s0, s1, s2, s3, .val (.int i4), .val (.ref o5), .val (.int i6), s7, s8, s9] [])) _
      refine XS.aload X0.here hx rfl (hb hby at_171) rfl rfl ?_
      show Steps p.tables e below (T0.setTop (mkF m 173 #[s0, s1, s2, s3, .val (.int i4), .val (.ref o5), .val (.int i6), s7, s8, s9] [(.ref o5)])) _
      refine XS.iload X0.here hx rfl (hb hby at_173) rfl ?_
      show Steps p.tables e below (T0.setTop (mkF m 175 #[s0, s1, s2, s3, .val (.int i4), .val (.ref o5), .val (.int i6), s7, s8, s9] [(.int i6), (.ref o5)])) _
      refine XS.iconst X0.here hx rfl (hb hby at_175) ?_
      show Steps p.tables e below (T0.setTop (mkF m 176 #[s0, s1, s2, s3, .val (.int i4), .val (.ref o5), .val (.int i6), s7, s8, s9] [(.int (2 : Int32)), (.int i6), (.ref o5)])) _
      refine XS.iadd X0.here hx rfl (hb hby at_176) rfl ?_
      show Steps p.tables e below (T0.setTop (mkF m 177 #[s0, s1, s2, s3, .val (.int i4), .val (.ref o5), .val (.int i6), s7, s8, s9] [(.int (i6 + (2 : Int32))), (.ref o5)])) _
      refine XS.bipush X0.here hx rfl (hb hby at_177) ?_
      show Steps p.tables e below (T0.setTop (mkF m 179 #[s0, s1, s2, s3, .val (.int i4), .val (.ref o5), .val (.int i6), s7, s8, s9] [(.int (-65 : Int32)), (.int (i6 + (2 : Int32))), (.ref o5)])) _
      refine st5 _ ?_
      exact kt
    · refine ⟨T0, h0, locs, X0, e0, B0, N0, Nat.le_refl _, fun target kt => ?_⟩
      show Steps p.tables e below (T0.setTop (mkF m 155 #[s0, s1, s2, s3, .val (.int i4), .val (.ref o5), .val (.int i6), s7, s8, s9] [])) _
      refine XS.iload X0.here hx rfl (hb hby at_155) rfl ?_
      show Steps p.tables e below (T0.setTop (mkF m 157 #[s0, s1, s2, s3, .val (.int i4), .val (.ref o5), .val (.int i6), s7, s8, s9] [(.int i4)])) _
      refine XS.iconst X0.here hx rfl (hb hby at_157) ?_
      show Steps p.tables e below (T0.setTop (mkF m 158 #[s0, s1, s2, s3, .val (.int i4), .val (.ref o5), .val (.int i6), s7, s8, s9] [(.int (4 : Int32)), (.int i4)])) _
      refine XS.iand X0.here hx rfl (hb hby at_158) rfl ?_
      show Steps p.tables e below (T0.setTop (mkF m 159 #[s0, s1, s2, s3, .val (.int i4), .val (.ref o5), .val (.int i6), s7, s8, s9] [(.int (i4 &&& (4 : Int32)))])) _
      refine XS.ifNo X0.here hx rfl (hb hby at_159) rfl ((if0 _ _).trans (feq hc159).1) ?_
      show Steps p.tables e below (T0.setTop (mkF m 162 #[s0, s1, s2, s3, .val (.int i4), .val (.ref o5), .val (.int i6), s7, s8, s9] [])) _
      refine XS.iload X0.here hx rfl (hb hby at_162) rfl ?_
      show Steps p.tables e below (T0.setTop (mkF m 164 #[s0, s1, s2, s3, .val (.int i4), .val (.ref o5), .val (.int i6), s7, s8, s9] [(.int i6)])) _
      refine XS.iconst X0.here hx rfl (hb hby at_164) ?_
      show Steps p.tables e below (T0.setTop (mkF m 165 #[s0, s1, s2, s3, .val (.int i4), .val (.ref o5), .val (.int i6), s7, s8, s9] [(.int (2 : Int32)), (.int i6)])) _
      refine XS.iadd X0.here hx rfl (hb hby at_165) rfl ?_
      show Steps p.tables e below (T0.setTop (mkF m 166 #[s0, s1, s2, s3, .val (.int i4), .val (.ref o5), .val (.int i6), s7, s8, s9] [(.int (i6 + (2 : Int32)))])) _
      refine XS.bipush X0.here hx rfl (hb hby at_166) ?_
      show Steps p.tables e below (T0.setTop (mkF m 168 #[s0, s1, s2, s3, .val (.int i4), .val (.ref o5), .val (.int i6), s7, s8, s9] [(.int (8 : Int32)), (.int (i6 + (2 : Int32)))])) _
      refine XS.icmpYes X0.here hx rfl (pc0 := 168) (pc' := 180) rfl (hb hby at_168) rfl (flt hc168).2.1 (by decide) (by decide) ?_
      exact kt
theorem pn_0 : plainName "dev/changeline/envelope/Utf8ByteOrderMarkLengthPinLaw" = true := by first | (simp [plainName, overriddenIn]; done) | decide +kernel
theorem pd_0_0 : parseMethodDescriptor "([BII)I" = some ⟨[(.array .byte), .int, .int], some .int⟩ := by decide +kernel
theorem ef_0 (m : MethodId) (x0 : Int64) (x1 : Int32) (x2 : Int32) (x3 : Int32) : entryFrame m #[(.long x0), (.int x1), (.int x2), (.int x3)] maxLocals = mkF m 0 #[.val (.long x0), .second, .val (.int x1), .val (.int x2), .val (.int x3), .unset, .unset, .unset, .unset, .unset] [] := by first | (simp [entryFrame, mkF, argsToLocals, Value.category, maxLocals]; done) | rfl
theorem pd_0_1 : parseMethodDescriptor "(B)I" = some ⟨[.byte], some .int⟩ := by decide +kernel
def Q0 (Z : State) (q1 : Int64) (p2 : Int32) (p3 : Int32) (p4 : Int32) (h0 : Heap) (n0 : Nat) (v : Option Value) (h : Heap) (L : List Loc) : Prop := v = some (.int (1 : Int32)) ∧ Fr n0 L
set_option maxRecDepth 65536 in
set_option maxHeartbeats 40000000 in
theorem rm0 (l : Launch) (Z : State) (a0 : Array Value) (hw : ∀ d ∈ tables_1, d.before a0 Z = true) (ws : List Jvm.Cond) (q1 : Int64) (p2 : Int32) (p3 : Int32) (p4 : Int32) (h0 : Heap) (n0 : Nat) (Z0 : n0 ≤ h0.size) :
    MetFree l x (head1 (Jvm.Cond.code x code maxLocals ret :: ws) room_1) (fun a U => a = #[(.long q1), (.int p2), (.int p3), (.int p4)] ∧ Z.Warmed39 U.vm ∧ U.heap = h0) (fun _ _ _ _ _ => True) (fun _ U o U' => ∃ v L, o = .returned v ∧ Q0 Z q1 p2 p3 p4 h0 n0 v U'.heap L ∧ FrameEnd U o U' L room_1.cells room_1.slots) := by
  refine MetFree.of_bodySF (plainFor_of_name pn_0) hisR ?_
  intro p e s m args below meth c s₁ Bd hml0 hP hK
  obtain ⟨rfl, hZ, hh⟩ := hP
  have hx := Bd.exec
  have hby := Bd.bytes
  have hml : c.maxLocals = 10 := hml0
  have hown : s.vm.findClass "dev/changeline/envelope/Utf8ByteOrderMarkLengthPinLaw" = some m.cls := findClass_of_methodNamed Bd.named
  have hnm := (name_of_methodNamed Bd.named Bd.method).1
  have X0 : Stand p l e room_1 s m #[(.long q1), (.int p2), (.int p3), (.int p4)] below meth c s₁ [] 0 0 := Stand.of_body Bd
  have e0 : s₁.heap = h0 := by rw [← hh, Bd.state]; rfl
  have N0 := Fr.nil n0
  have pre0 : ∀ t, Steps p.tables e below (s₁.setTop (mkF m 0 #[.val (.long q1), .second, .val (.int p2), .val (.int p3), .val (.int p4), .unset, .unset, .unset, .unset, .unset] [])) t → Steps p.tables e below (s₁.setTop (entryFrame m #[(.long q1), (.int p2), (.int p3), (.int p4)] maxLocals)) t := fun t k => castTop (ef_0 m q1 p2 p3 p4) k
  have hnz105 : ¬ (((9 : Int32) - (own_f p2)) = (0 : Int32)) := own_nz p2
  obtain ⟨T5, h5, k5, X5, e5, E5, A5, st5⟩ := newP X0 hx hZ (hw _ (List.mem_of_getElem? (i := 0) rfl)) e0 (g := (mkF m 2 #[.val (.long q1), .second, .val (.int p2), .val (.int p3), .val (.int p4), .unset, .unset, .unset, .unset, .unset] [(.int (8 : Int32))])) rfl (hb hby at_2) rfl (by decide) (cap := 8) (by decide) (by decide) (by decide) (by decide)
  obtain ⟨b5, g5⟩ : ∃ z, z = h0.size := ⟨_, rfl⟩      -- the fresh array's address
  rw [← g5] at A5 st5
  have V_b5 : Arv Z h5 b5 k5 .byte (8 : Int32) [(.int (0 : Int32)), (.int (0 : Int32)), (.int (0 : Int32)), (.int (0 : Int32)), (.int (0 : Int32)), (.int (0 : Int32)), (.int (0 : Int32)), (.int (0 : Int32))] (.int (0 : Int32)) := (Arv.new A5 (by decide)).pad (pad_rep [] (.int (0 : Int32)) 8)
  have g_b5 : n0 ≤ b5 := Nat.le_trans Z0 (Nat.le_of_eq g5.symm)
  have sz_b5 : h0.size ≤ b5 := (Nat.le_trans (Keep.refl h0 []).1 (Nat.le_of_eq g5.symm))
  have K5 : Keep h0 h5 [] := (Keep.refl h0 []).ext E5
  obtain ⟨cl_b5_12, Ar_b5, q_b5, S_b5, N_b5, H_b5, G_b5⟩ := V_b5      -- open the array's fact as it stands now (its cell, kind, length, elements)
  have hin12 : ¬ ((0 : Int32) < 0 ∨ cl_b5_12.slots.size ≤ ((0 : Int32)).toNatClampNeg) := inb_of S_b5 ⟨by decide, by decide⟩
  obtain ⟨T6, h6, X6, e6, W6, st6⟩ := stB X5 hx hZ e5 Ar_b5 (j := (0 : Int32)) hin12 (g := (mkF m 12 #[.val (.long q1), .second, .val (.int p2), .val (.int p3), .val (.int p4), .val (.ref b5), .unset, .unset, .unset, .unset] [(.int ((q1.toInt32).toInt8.toInt32)), (.int (0 : Int32)), (.ref b5)])) rfl rfl (hb hby at_12)
  have V_b5_6 := Arv.set Ar_b5 q_b5 S_b5 N_b5 H_b5 G_b5 (fits_nar_byte _) W6 0 rfl (Nat.le_of_ble_eq_true rfl)      -- the array as it stands now (the place must lie among its first values: Arv.pad with pad_rep lengthens them)
  have K6 : Keep h0 h6 [] := K5.wr W6 (Or.inr sz_b5)
  have N6 := Fr.snoc X6 N0 g_b5
  -- (bastore into a boolean[]: stZ in stB's place)
  obtain ⟨cl_b5_22, Ar_b5, q_b5, S_b5, N_b5, H_b5, G_b5⟩ := V_b5_6      -- open the array's fact as it stands now (its cell, kind, length, elements)
  have hin22 : ¬ ((1 : Int32) < 0 ∨ cl_b5_22.slots.size ≤ ((1 : Int32)).toNatClampNeg) := inb_of S_b5 ⟨by decide, by decide⟩
  obtain ⟨T7, h7, X7, e7, W7, st7⟩ := stB X6 hx hZ e6 Ar_b5 (j := (1 : Int32)) hin22 (g := (mkF m 22 #[.val (.long q1), .second, .val (.int p2), .val (.int p3), .val (.int p4), .val (.ref b5), .unset, .unset, .unset, .unset] [(.int ((((q1.toUInt64 >>> ((8 : Int32) &&& 0x3f).toInt64.toUInt64).toInt64).toInt32).toInt8.toInt32)), (.int (1 : Int32)), (.ref b5)])) rfl rfl (hb hby at_22)
  have V_b5_7 := Arv.set Ar_b5 q_b5 S_b5 N_b5 H_b5 G_b5 (fits_nar_byte _) W7 1 rfl (Nat.le_of_ble_eq_true rfl)      -- the array as it stands now (the place must lie among its first values: Arv.pad with pad_rep lengthens them)
  have K7 : Keep h0 h7 [] := K6.wr W7 (Or.inr sz_b5)
  have N7 := Fr.snoc X7 N6 g_b5
  -- (bastore into a boolean[]: stZ in stB's place)
  obtain ⟨cl_b5_32, Ar_b5, q_b5, S_b5, N_b5, H_b5, G_b5⟩ := V_b5_7      -- open the array's fact as it stands now (its cell, kind, length, elements)
  have hin32 : ¬ ((2 : Int32) < 0 ∨ cl_b5_32.slots.size ≤ ((2 : Int32)).toNatClampNeg) := inb_of S_b5 ⟨by decide, by decide⟩
  obtain ⟨T8, h8, X8, e8, W8, st8⟩ := stB X7 hx hZ e7 Ar_b5 (j := (2 : Int32)) hin32 (g := (mkF m 32 #[.val (.long q1), .second, .val (.int p2), .val (.int p3), .val (.int p4), .val (.ref b5), .unset, .unset, .unset, .unset] [(.int ((((q1.toUInt64 >>> ((16 : Int32) &&& 0x3f).toInt64.toUInt64).toInt64).toInt32).toInt8.toInt32)), (.int (2 : Int32)), (.ref b5)])) rfl rfl (hb hby at_32)
  have V_b5_8 := Arv.set Ar_b5 q_b5 S_b5 N_b5 H_b5 G_b5 (fits_nar_byte _) W8 2 rfl (Nat.le_of_ble_eq_true rfl)      -- the array as it stands now (the place must lie among its first values: Arv.pad with pad_rep lengthens them)
  have K8 : Keep h0 h8 [] := K7.wr W8 (Or.inr sz_b5)
  have N8 := Fr.snoc X8 N7 g_b5
  -- (bastore into a boolean[]: stZ in stB's place)
  obtain ⟨cl_b5_42, Ar_b5, q_b5, S_b5, N_b5, H_b5, G_b5⟩ := V_b5_8      -- open the array's fact as it stands now (its cell, kind, length, elements)
  have hin42 : ¬ ((3 : Int32) < 0 ∨ cl_b5_42.slots.size ≤ ((3 : Int32)).toNatClampNeg) := inb_of S_b5 ⟨by decide, by decide⟩
  obtain ⟨T9, h9, X9, e9, W9, st9⟩ := stB X8 hx hZ e8 Ar_b5 (j := (3 : Int32)) hin42 (g := (mkF m 42 #[.val (.long q1), .second, .val (.int p2), .val (.int p3), .val (.int p4), .val (.ref b5), .unset, .unset, .unset, .unset] [(.int ((((q1.toUInt64 >>> ((24 : Int32) &&& 0x3f).toInt64.toUInt64).toInt64).toInt32).toInt8.toInt32)), (.int (3 : Int32)), (.ref b5)])) rfl rfl (hb hby at_42)
  have V_b5_9 := Arv.set Ar_b5 q_b5 S_b5 N_b5 H_b5 G_b5 (fits_nar_byte _) W9 3 rfl (Nat.le_of_ble_eq_true rfl)      -- the array as it stands now (the place must lie among its first values: Arv.pad with pad_rep lengthens them)
  have K9 : Keep h0 h9 [] := K8.wr W9 (Or.inr sz_b5)
  have N9 := Fr.snoc X9 N8 g_b5
  -- (bastore into a boolean[]: stZ in stB's place)
  obtain ⟨cl_b5_52, Ar_b5, q_b5, S_b5, N_b5, H_b5, G_b5⟩ := V_b5_9      -- open the array's fact as it stands now (its cell, kind, length, elements)
  have hin52 : ¬ ((4 : Int32) < 0 ∨ cl_b5_52.slots.size ≤ ((4 : Int32)).toNatClampNeg) := inb_of S_b5 ⟨by decide, by decide⟩
  obtain ⟨T10, h10, X10, e10, W10, st10⟩ := stB X9 hx hZ e9 Ar_b5 (j := (4 : Int32)) hin52 (g := (mkF m 52 #[.val (.long q1), .second, .val (.int p2), .val (.int p3), .val (.int p4), .val (.ref b5), .unset, .unset, .unset, .unset] [(.int ((((q1.toUInt64 >>> ((32 : Int32) &&& 0x3f).toInt64.toUInt64).toInt64).toInt32).toInt8.toInt32)), (.int (4 : Int32)), (.ref b5)])) rfl rfl (hb hby at_52)
  have V_b5_10 := Arv.set Ar_b5 q_b5 S_b5 N_b5 H_b5 G_b5 (fits_nar_byte _) W10 4 rfl (Nat.le_of_ble_eq_true rfl)      -- the array as it stands now (the place must lie among its first values: Arv.pad with pad_rep lengthens them)
  have K10 : Keep h0 h10 [] := K9.wr W10 (Or.inr sz_b5)
  have N10 := Fr.snoc X10 N9 g_b5
  -- (bastore into a boolean[]: stZ in stB's place)
  obtain ⟨cl_b5_62, Ar_b5, q_b5, S_b5, N_b5, H_b5, G_b5⟩ := V_b5_10      -- open the array's fact as it stands now (its cell, kind, length, elements)
  have hin62 : ¬ ((5 : Int32) < 0 ∨ cl_b5_62.slots.size ≤ ((5 : Int32)).toNatClampNeg) := inb_of S_b5 ⟨by decide, by decide⟩
  obtain ⟨T11, h11, X11, e11, W11, st11⟩ := stB X10 hx hZ e10 Ar_b5 (j := (5 : Int32)) hin62 (g := (mkF m 62 #[.val (.long q1), .second, .val (.int p2), .val (.int p3), .val (.int p4), .val (.ref b5), .unset, .unset, .unset, .unset] [(.int ((((q1.toUInt64 >>> ((40 : Int32) &&& 0x3f).toInt64.toUInt64).toInt64).toInt32).toInt8.toInt32)), (.int (5 : Int32)), (.ref b5)])) rfl rfl (hb hby at_62)
  have V_b5_11 := Arv.set Ar_b5 q_b5 S_b5 N_b5 H_b5 G_b5 (fits_nar_byte _) W11 5 rfl (Nat.le_of_ble_eq_true rfl)      -- the array as it stands now (the place must lie among its first values: Arv.pad with pad_rep lengthens them)
  have K11 : Keep h0 h11 [] := K10.wr W11 (Or.inr sz_b5)
  have N11 := Fr.snoc X11 N10 g_b5
  -- (bastore into a boolean[]: stZ in stB's place)
  obtain ⟨cl_b5_73, Ar_b5, q_b5, S_b5, N_b5, H_b5, G_b5⟩ := V_b5_11      -- open the array's fact as it stands now (its cell, kind, length, elements)
  have hin73 : ¬ ((6 : Int32) < 0 ∨ cl_b5_73.slots.size ≤ ((6 : Int32)).toNatClampNeg) := inb_of S_b5 ⟨by decide, by decide⟩
  obtain ⟨T12, h12, X12, e12, W12, st12⟩ := stB X11 hx hZ e11 Ar_b5 (j := (6 : Int32)) hin73 (g := (mkF m 73 #[.val (.long q1), .second, .val (.int p2), .val (.int p3), .val (.int p4), .val (.ref b5), .unset, .unset, .unset, .unset] [(.int ((((q1.toUInt64 >>> ((48 : Int32) &&& 0x3f).toInt64.toUInt64).toInt64).toInt32).toInt8.toInt32)), (.int (6 : Int32)), (.ref b5)])) rfl rfl (hb hby at_73)
  have V_b5_12 := Arv.set Ar_b5 q_b5 S_b5 N_b5 H_b5 G_b5 (fits_nar_byte _) W12 6 rfl (Nat.le_of_ble_eq_true rfl)      -- the array as it stands now (the place must lie among its first values: Arv.pad with pad_rep lengthens them)
  have K12 : Keep h0 h12 [] := K11.wr W12 (Or.inr sz_b5)
  have N12 := Fr.snoc X12 N11 g_b5
  -- (bastore into a boolean[]: stZ in stB's place)
  obtain ⟨cl_b5_84, Ar_b5, q_b5, S_b5, N_b5, H_b5, G_b5⟩ := V_b5_12      -- open the array's fact as it stands now (its cell, kind, length, elements)
  have hin84 : ¬ ((7 : Int32) < 0 ∨ cl_b5_84.slots.size ≤ ((7 : Int32)).toNatClampNeg) := inb_of S_b5 ⟨by decide, by decide⟩
  obtain ⟨T13, h13, X13, e13, W13, st13⟩ := stB X12 hx hZ e12 Ar_b5 (j := (7 : Int32)) hin84 (g := (mkF m 84 #[.val (.long q1), .second, .val (.int p2), .val (.int p3), .val (.int p4), .val (.ref b5), .unset, .unset, .unset, .unset] [(.int ((((q1.toUInt64 >>> ((56 : Int32) &&& 0x3f).toInt64.toUInt64).toInt64).toInt32).toInt8.toInt32)), (.int (7 : Int32)), (.ref b5)])) rfl rfl (hb hby at_84)
  have V_b5_13 := Arv.set Ar_b5 q_b5 S_b5 N_b5 H_b5 G_b5 (fits_nar_byte _) W13 7 rfl (Nat.le_of_ble_eq_true rfl)      -- the array as it stands now (the place must lie among its first values: Arv.pad with pad_rep lengthens them)
  have K13 : Keep h0 h13 [] := K12.wr W13 (Or.inr sz_b5)
  have N13 := Fr.snoc X13 N12 g_b5
  -- (bastore into a boolean[]: stZ in stB's place)
  have B0 := own_Byt_of V_b5_13
  obtain ⟨T14, h14, locs14, X14, e14, B14, N14, z14, st14⟩ := own_blk1 _ _ _ _ p4 b5 (own_f p2) (.val (.int (own_to p2 p3))) _ _ X13 hx hZ hw hby hml hown e13 N13 g_b5 B0 (own_f_in p2)
  obtain ⟨T15, h15, locs15, X15, e15, B15, N15, z15, st15⟩ := own_blk2 _ _ _ _ p4 b5 (own_f p2) (.val (.int (own_to p2 p3))) _ _ X14 hx hZ hw hby hml hown e14 N14 g_b5 B14 (own_f_in p2)
  obtain ⟨T16, h16, locs16, X16, e16, B16, N16, z16, st16⟩ := own_blk3 _ _ _ _ p4 b5 (own_f p2) (.val (.int (own_to p2 p3))) _ _ X15 hx hZ hw hby hml hown e15 N15 g_b5 B15 (own_f_in p2)
  have Zs : n0 ≤ h16.size := Nat.le_trans (Nat.le_trans (Nat.le_trans (Nat.le_trans Z0 K13.1) z14) z15) z16
  obtain ⟨cB, Ar_b5, S_b5, H_b5⟩ := B16
  -- pc 186: dev/changeline/envelope/Utf8.byteOrderMarkLength by its contract rm1
  have preX : ∀ t, Steps p.tables e below (T16.setTop (mkF m 180 #[.val (.long q1), .second, .val (.int p2), .val (.int p3), .val (.int p4), .val (.ref b5), .val (.int (own_f p2)), .val (.int (own_to p2 p3)), .unset, .unset] [])) t → Steps p.tables e below (s₁.setTop (entryFrame m #[(.long q1), (.int p2), (.int p3), (.int p4)] maxLocals)) t := by
    intro t kk
    refine pre0 _ ?_
    show Steps p.tables e below (s₁.setTop (mkF m 0 #[.val (.long q1), .second, .val (.int p2), .val (.int p3), .val (.int p4), .unset, .unset, .unset, .unset, .unset] [])) _
    refine XS.bipush X0.here hx rfl (hb hby at_0) ?_
    show Steps p.tables e below (s₁.setTop (mkF m 2 #[.val (.long q1), .second, .val (.int p2), .val (.int p3), .val (.int p4), .unset, .unset, .unset, .unset, .unset] [(.int (8 : Int32))])) _
    refine st5 _ ?_
    show Steps p.tables e below (T5.setTop (mkF m 4 #[.val (.long q1), .second, .val (.int p2), .val (.int p3), .val (.int p4), .unset, .unset, .unset, .unset, .unset] [(.ref b5)])) _
    refine XS.astore X5.here hx rfl (hb hby at_4) rfl rfl (l' := #[.val (.long q1), .second, .val (.int p2), .val (.int p3), .val (.int p4), .val (.ref b5), .unset, .unset, .unset, .unset]) rfl ?_
    show Steps p.tables e below (T5.setTop (mkF m 6 #[.val (.long q1), .second, .val (.int p2), .val (.int p3), .val (.int p4), .val (.ref b5), .unset, .unset, .unset, .unset] [])) _
    refine XS.aload X5.here hx rfl (hb hby at_6) rfl rfl ?_
    show Steps p.tables e below (T5.setTop (mkF m 8 #[.val (.long q1), .second, .val (.int p2), .val (.int p3), .val (.int p4), .val (.ref b5), .unset, .unset, .unset, .unset] [(.ref b5)])) _
    refine XS.iconst X5.here hx rfl (hb hby at_8) ?_
    show Steps p.tables e below (T5.setTop (mkF m 9 #[.val (.long q1), .second, .val (.int p2), .val (.int p3), .val (.int p4), .val (.ref b5), .unset, .unset, .unset, .unset] [(.int (0 : Int32)), (.ref b5)])) _
    refine XS.lloadN X5.here hx rfl (hb hby at_9) rfl ?_
    show Steps p.tables e below (T5.setTop (mkF m 10 #[.val (.long q1), .second, .val (.int p2), .val (.int p3), .val (.int p4), .val (.ref b5), .unset, .unset, .unset, .unset] [(.long q1), (.int (0 : Int32)), (.ref b5)])) _
    refine XS.l2i X5.here hx rfl (hb hby at_10) rfl ?_
    show Steps p.tables e below (T5.setTop (mkF m 11 #[.val (.long q1), .second, .val (.int p2), .val (.int p3), .val (.int p4), .val (.ref b5), .unset, .unset, .unset, .unset] [(.int (q1.toInt32)), (.int (0 : Int32)), (.ref b5)])) _
    refine XS.i2b X5.here hx rfl (hb hby at_11) rfl ?_
    show Steps p.tables e below (T5.setTop (mkF m 12 #[.val (.long q1), .second, .val (.int p2), .val (.int p3), .val (.int p4), .val (.ref b5), .unset, .unset, .unset, .unset] [(.int ((q1.toInt32).toInt8.toInt32)), (.int (0 : Int32)), (.ref b5)])) _
    refine st6 _ ?_
    show Steps p.tables e below (T6.setTop (mkF m 13 #[.val (.long q1), .second, .val (.int p2), .val (.int p3), .val (.int p4), .val (.ref b5), .unset, .unset, .unset, .unset] [])) _
    refine XS.aload X6.here hx rfl (hb hby at_13) rfl rfl ?_
    show Steps p.tables e below (T6.setTop (mkF m 15 #[.val (.long q1), .second, .val (.int p2), .val (.int p3), .val (.int p4), .val (.ref b5), .unset, .unset, .unset, .unset] [(.ref b5)])) _
    refine XS.iconst X6.here hx rfl (hb hby at_15) ?_
    show Steps p.tables e below (T6.setTop (mkF m 16 #[.val (.long q1), .second, .val (.int p2), .val (.int p3), .val (.int p4), .val (.ref b5), .unset, .unset, .unset, .unset] [(.int (1 : Int32)), (.ref b5)])) _
    refine XS.lloadN X6.here hx rfl (hb hby at_16) rfl ?_
    show Steps p.tables e below (T6.setTop (mkF m 17 #[.val (.long q1), .second, .val (.int p2), .val (.int p3), .val (.int p4), .val (.ref b5), .unset, .unset, .unset, .unset] [(.long q1), (.int (1 : Int32)), (.ref b5)])) _
    refine XS.bipush X6.here hx rfl (hb hby at_17) ?_
    show Steps p.tables e below (T6.setTop (mkF m 19 #[.val (.long q1), .second, .val (.int p2), .val (.int p3), .val (.int p4), .val (.ref b5), .unset, .unset, .unset, .unset] [(.int (8 : Int32)), (.long q1), (.int (1 : Int32)), (.ref b5)])) _
    refine XS.lushr X6.here hx rfl (hb hby at_19) rfl ?_
    show Steps p.tables e below (T6.setTop (mkF m 20 #[.val (.long q1), .second, .val (.int p2), .val (.int p3), .val (.int p4), .val (.ref b5), .unset, .unset, .unset, .unset] [(.long ((q1.toUInt64 >>> ((8 : Int32) &&& 0x3f).toInt64.toUInt64).toInt64)), (.int (1 : Int32)), (.ref b5)])) _
    refine XS.l2i X6.here hx rfl (hb hby at_20) rfl ?_
    show Steps p.tables e below (T6.setTop (mkF m 21 #[.val (.long q1), .second, .val (.int p2), .val (.int p3), .val (.int p4), .val (.ref b5), .unset, .unset, .unset, .unset] [(.int (((q1.toUInt64 >>> ((8 : Int32) &&& 0x3f).toInt64.toUInt64).toInt64).toInt32)), (.int (1 : Int32)), (.ref b5)])) _
    refine XS.i2b X6.here hx rfl (hb hby at_21) rfl ?_
    show Steps p.tables e below (T6.setTop (mkF m 22 #[.val (.long q1), .second, .val (.int p2), .val (.int p3), .val (.int p4), .val (.ref b5), .unset, .unset, .unset, .unset] [(.int ((((q1.toUInt64 >>> ((8 : Int32) &&& 0x3f).toInt64.toUInt64).toInt64).toInt32).toInt8.toInt32)), (.int (1 : Int32)), (.ref b5)])) _
    refine st7 _ ?_
    show Steps p.tables e below (T7.setTop (mkF m 23 #[.val (.long q1), .second, .val (.int p2), .val (.int p3), .val (.int p4), .val (.ref b5), .unset, .unset, .unset, .unset] [])) _
    refine XS.aload X7.here hx rfl (hb hby at_23) rfl rfl ?_
    show Steps p.tables e below (T7.setTop (mkF m 25 #[.val (.long q1), .second, .val (.int p2), .val (.int p3), .val (.int p4), .val (.ref b5), .unset, .unset, .unset, .unset] [(.ref b5)])) _
    refine XS.iconst X7.here hx rfl (hb hby at_25) ?_
    show Steps p.tables e below (T7.setTop (mkF m 26 #[.val (.long q1), .second, .val (.int p2), .val (.int p3), .val (.int p4), .val (.ref b5), .unset, .unset, .unset, .unset] [(.int (2 : Int32)), (.ref b5)])) _
    refine XS.lloadN X7.here hx rfl (hb hby at_26) rfl ?_
    show Steps p.tables e below (T7.setTop (mkF m 27 #[.val (.long q1), .second, .val (.int p2), .val (.int p3), .val (.int p4), .val (.ref b5), .unset, .unset, .unset, .unset] [(.long q1), (.int (2 : Int32)), (.ref b5)])) _
    refine XS.bipush X7.here hx rfl (hb hby at_27) ?_
    show Steps p.tables e below (T7.setTop (mkF m 29 #[.val (.long q1), .second, .val (.int p2), .val (.int p3), .val (.int p4), .val (.ref b5), .unset, .unset, .unset, .unset] [(.int (16 : Int32)), (.long q1), (.int (2 : Int32)), (.ref b5)])) _
    refine XS.lushr X7.here hx rfl (hb hby at_29) rfl ?_
    show Steps p.tables e below (T7.setTop (mkF m 30 #[.val (.long q1), .second, .val (.int p2), .val (.int p3), .val (.int p4), .val (.ref b5), .unset, .unset, .unset, .unset] [(.long ((q1.toUInt64 >>> ((16 : Int32) &&& 0x3f).toInt64.toUInt64).toInt64)), (.int (2 : Int32)), (.ref b5)])) _
    refine XS.l2i X7.here hx rfl (hb hby at_30) rfl ?_
    show Steps p.tables e below (T7.setTop (mkF m 31 #[.val (.long q1), .second, .val (.int p2), .val (.int p3), .val (.int p4), .val (.ref b5), .unset, .unset, .unset, .unset] [(.int (((q1.toUInt64 >>> ((16 : Int32) &&& 0x3f).toInt64.toUInt64).toInt64).toInt32)), (.int (2 : Int32)), (.ref b5)])) _
    refine XS.i2b X7.here hx rfl (hb hby at_31) rfl ?_
    show Steps p.tables e below (T7.setTop (mkF m 32 #[.val (.long q1), .second, .val (.int p2), .val (.int p3), .val (.int p4), .val (.ref b5), .unset, .unset, .unset, .unset] [(.int ((((q1.toUInt64 >>> ((16 : Int32) &&& 0x3f).toInt64.toUInt64).toInt64).toInt32).toInt8.toInt32)), (.int (2 : Int32)), (.ref b5)])) _
    refine st8 _ ?_
    show Steps p.tables e below (T8.setTop (mkF m 33 #[.val (.long q1), .second, .val (.int p2), .val (.int p3), .val (.int p4), .val (.ref b5), .unset, .unset, .unset, .unset] [])) _
    refine XS.aload X8.here hx rfl (hb hby at_33) rfl rfl ?_
    show Steps p.tables e below (T8.setTop (mkF m 35 #[.val (.long q1), .second, .val (.int p2), .val (.int p3), .val (.int p4), .val (.ref b5), .unset, .unset, .unset, .unset] [(.ref b5)])) _
    refine XS.iconst X8.here hx rfl (hb hby at_35) ?_
    show Steps p.tables e below (T8.setTop (mkF m 36 #[.val (.long q1), .second, .val (.int p2), .val (.int p3), .val (.int p4), .val (.ref b5), .unset, .unset, .unset, .unset] [(.int (3 : Int32)), (.ref b5)])) _
    refine XS.lloadN X8.here hx rfl (hb hby at_36) rfl ?_
    show Steps p.tables e below (T8.setTop (mkF m 37 #[.val (.long q1), .second, .val (.int p2), .val (.int p3), .val (.int p4), .val (.ref b5), .unset, .unset, .unset, .unset] [(.long q1), (.int (3 : Int32)), (.ref b5)])) _
    refine XS.bipush X8.here hx rfl (hb hby at_37) ?_
    show Steps p.tables e below (T8.setTop (mkF m 39 #[.val (.long q1), .second, .val (.int p2), .val (.int p3), .val (.int p4), .val (.ref b5), .unset, .unset, .unset, .unset] [(.int (24 : Int32)), (.long q1), (.int (3 : Int32)), (.ref b5)])) _
    refine XS.lushr X8.here hx rfl (hb hby at_39) rfl ?_
    show Steps p.tables e below (T8.setTop (mkF m 40 #[.val (.long q1), .second, .val (.int p2), .val (.int p3), .val (.int p4), .val (.ref b5), .unset, .unset, .unset, .unset] [(.long ((q1.toUInt64 >>> ((24 : Int32) &&& 0x3f).toInt64.toUInt64).toInt64)), (.int (3 : Int32)), (.ref b5)])) _
    refine XS.l2i X8.here hx rfl (hb hby at_40) rfl ?_
    show Steps p.tables e below (T8.setTop (mkF m 41 #[.val (.long q1), .second, .val (.int p2), .val (.int p3), .val (.int p4), .val (.ref b5), .unset, .unset, .unset, .unset] [(.int (((q1.toUInt64 >>> ((24 : Int32) &&& 0x3f).toInt64.toUInt64).toInt64).toInt32)), (.int (3 : Int32)), (.ref b5)])) _
    refine XS.i2b X8.here hx rfl (hb hby at_41) rfl ?_
    show Steps p.tables e below (T8.setTop (mkF m 42 #[.val (.long q1), .second, .val (.int p2), .val (.int p3), .val (.int p4), .val (.ref b5), .unset, .unset, .unset, .unset] [(.int ((((q1.toUInt64 >>> ((24 : Int32) &&& 0x3f).toInt64.toUInt64).toInt64).toInt32).toInt8.toInt32)), (.int (3 : Int32)), (.ref b5)])) _
    refine st9 _ ?_
    show Steps p.tables e below (T9.setTop (mkF m 43 #[.val (.long q1), .second, .val (.int p2), .val (.int p3), .val (.int p4), .val (.ref b5), .unset, .unset, .unset, .unset] [])) _
    refine XS.aload X9.here hx rfl (hb hby at_43) rfl rfl ?_
    show Steps p.tables e below (T9.setTop (mkF m 45 #[.val (.long q1), .second, .val (.int p2), .val (.int p3), .val (.int p4), .val (.ref b5), .unset, .unset, .unset, .unset] [(.ref b5)])) _
    refine XS.iconst X9.here hx rfl (hb hby at_45) ?_
    show Steps p.tables e below (T9.setTop (mkF m 46 #[.val (.long q1), .second, .val (.int p2), .val (.int p3), .val (.int p4), .val (.ref b5), .unset, .unset, .unset, .unset] [(.int (4 : Int32)), (.ref b5)])) _
    refine XS.lloadN X9.here hx rfl (hb hby at_46) rfl ?_
    show Steps p.tables e below (T9.setTop (mkF m 47 #[.val (.long q1), .second, .val (.int p2), .val (.int p3), .val (.int p4), .val (.ref b5), .unset, .unset, .unset, .unset] [(.long q1), (.int (4 : Int32)), (.ref b5)])) _
    refine XS.bipush X9.here hx rfl (hb hby at_47) ?_
    show Steps p.tables e below (T9.setTop (mkF m 49 #[.val (.long q1), .second, .val (.int p2), .val (.int p3), .val (.int p4), .val (.ref b5), .unset, .unset, .unset, .unset] [(.int (32 : Int32)), (.long q1), (.int (4 : Int32)), (.ref b5)])) _
    refine XS.lushr X9.here hx rfl (hb hby at_49) rfl ?_
    show Steps p.tables e below (T9.setTop (mkF m 50 #[.val (.long q1), .second, .val (.int p2), .val (.int p3), .val (.int p4), .val (.ref b5), .unset, .unset, .unset, .unset] [(.long ((q1.toUInt64 >>> ((32 : Int32) &&& 0x3f).toInt64.toUInt64).toInt64)), (.int (4 : Int32)), (.ref b5)])) _
    refine XS.l2i X9.here hx rfl (hb hby at_50) rfl ?_
    show Steps p.tables e below (T9.setTop (mkF m 51 #[.val (.long q1), .second, .val (.int p2), .val (.int p3), .val (.int p4), .val (.ref b5), .unset, .unset, .unset, .unset] [(.int (((q1.toUInt64 >>> ((32 : Int32) &&& 0x3f).toInt64.toUInt64).toInt64).toInt32)), (.int (4 : Int32)), (.ref b5)])) _
    refine XS.i2b X9.here hx rfl (hb hby at_51) rfl ?_
    show Steps p.tables e below (T9.setTop (mkF m 52 #[.val (.long q1), .second, .val (.int p2), .val (.int p3), .val (.int p4), .val (.ref b5), .unset, .unset, .unset, .unset] [(.int ((((q1.toUInt64 >>> ((32 : Int32) &&& 0x3f).toInt64.toUInt64).toInt64).toInt32).toInt8.toInt32)), (.int (4 : Int32)), (.ref b5)])) _
    refine st10 _ ?_
    show Steps p.tables e below (T10.setTop (mkF m 53 #[.val (.long q1), .second, .val (.int p2), .val (.int p3), .val (.int p4), .val (.ref b5), .unset, .unset, .unset, .unset] [])) _
    refine XS.aload X10.here hx rfl (hb hby at_53) rfl rfl ?_
    show Steps p.tables e below (T10.setTop (mkF m 55 #[.val (.long q1), .second, .val (.int p2), .val (.int p3), .val (.int p4), .val (.ref b5), .unset, .unset, .unset, .unset] [(.ref b5)])) _
    refine XS.iconst X10.here hx rfl (hb hby at_55) ?_
    show Steps p.tables e below (T10.setTop (mkF m 56 #[.val (.long q1), .second, .val (.int p2), .val (.int p3), .val (.int p4), .val (.ref b5), .unset, .unset, .unset, .unset] [(.int (5 : Int32)), (.ref b5)])) _
    refine XS.lloadN X10.here hx rfl (hb hby at_56) rfl ?_
    show Steps p.tables e below (T10.setTop (mkF m 57 #[.val (.long q1), .second, .val (.int p2), .val (.int p3), .val (.int p4), .val (.ref b5), .unset, .unset, .unset, .unset] [(.long q1), (.int (5 : Int32)), (.ref b5)])) _
    refine XS.bipush X10.here hx rfl (hb hby at_57) ?_
    show Steps p.tables e below (T10.setTop (mkF m 59 #[.val (.long q1), .second, .val (.int p2), .val (.int p3), .val (.int p4), .val (.ref b5), .unset, .unset, .unset, .unset] [(.int (40 : Int32)), (.long q1), (.int (5 : Int32)), (.ref b5)])) _
    refine XS.lushr X10.here hx rfl (hb hby at_59) rfl ?_
    show Steps p.tables e below (T10.setTop (mkF m 60 #[.val (.long q1), .second, .val (.int p2), .val (.int p3), .val (.int p4), .val (.ref b5), .unset, .unset, .unset, .unset] [(.long ((q1.toUInt64 >>> ((40 : Int32) &&& 0x3f).toInt64.toUInt64).toInt64)), (.int (5 : Int32)), (.ref b5)])) _
    refine XS.l2i X10.here hx rfl (hb hby at_60) rfl ?_
    show Steps p.tables e below (T10.setTop (mkF m 61 #[.val (.long q1), .second, .val (.int p2), .val (.int p3), .val (.int p4), .val (.ref b5), .unset, .unset, .unset, .unset] [(.int (((q1.toUInt64 >>> ((40 : Int32) &&& 0x3f).toInt64.toUInt64).toInt64).toInt32)), (.int (5 : Int32)), (.ref b5)])) _
    refine XS.i2b X10.here hx rfl (hb hby at_61) rfl ?_
    show Steps p.tables e below (T10.setTop (mkF m 62 #[.val (.long q1), .second, .val (.int p2), .val (.int p3), .val (.int p4), .val (.ref b5), .unset, .unset, .unset, .unset] [(.int ((((q1.toUInt64 >>> ((40 : Int32) &&& 0x3f).toInt64.toUInt64).toInt64).toInt32).toInt8.toInt32)), (.int (5 : Int32)), (.ref b5)])) _
    refine st11 _ ?_
    show Steps p.tables e below (T11.setTop (mkF m 63 #[.val (.long q1), .second, .val (.int p2), .val (.int p3), .val (.int p4), .val (.ref b5), .unset, .unset, .unset, .unset] [])) _
    refine XS.aload X11.here hx rfl (hb hby at_63) rfl rfl ?_
    show Steps p.tables e below (T11.setTop (mkF m 65 #[.val (.long q1), .second, .val (.int p2), .val (.int p3), .val (.int p4), .val (.ref b5), .unset, .unset, .unset, .unset] [(.ref b5)])) _
    refine XS.bipush X11.here hx rfl (hb hby at_65) ?_
    show Steps p.tables e below (T11.setTop (mkF m 67 #[.val (.long q1), .second, .val (.int p2), .val (.int p3), .val (.int p4), .val (.ref b5), .unset, .unset, .unset, .unset] [(.int (6 : Int32)), (.ref b5)])) _
    refine XS.lloadN X11.here hx rfl (hb hby at_67) rfl ?_
    show Steps p.tables e below (T11.setTop (mkF m 68 #[.val (.long q1), .second, .val (.int p2), .val (.int p3), .val (.int p4), .val (.ref b5), .unset, .unset, .unset, .unset] [(.long q1), (.int (6 : Int32)), (.ref b5)])) _
    refine XS.bipush X11.here hx rfl (hb hby at_68) ?_
    show Steps p.tables e below (T11.setTop (mkF m 70 #[.val (.long q1), .second, .val (.int p2), .val (.int p3), .val (.int p4), .val (.ref b5), .unset, .unset, .unset, .unset] [(.int (48 : Int32)), (.long q1), (.int (6 : Int32)), (.ref b5)])) _
    refine XS.lushr X11.here hx rfl (hb hby at_70) rfl ?_
    show Steps p.tables e below (T11.setTop (mkF m 71 #[.val (.long q1), .second, .val (.int p2), .val (.int p3), .val (.int p4), .val (.ref b5), .unset, .unset, .unset, .unset] [(.long ((q1.toUInt64 >>> ((48 : Int32) &&& 0x3f).toInt64.toUInt64).toInt64)), (.int (6 : Int32)), (.ref b5)])) _
    refine XS.l2i X11.here hx rfl (hb hby at_71) rfl ?_
    show Steps p.tables e below (T11.setTop (mkF m 72 #[.val (.long q1), .second, .val (.int p2), .val (.int p3), .val (.int p4), .val (.ref b5), .unset, .unset, .unset, .unset] [(.int (((q1.toUInt64 >>> ((48 : Int32) &&& 0x3f).toInt64.toUInt64).toInt64).toInt32)), (.int (6 : Int32)), (.ref b5)])) _
    refine XS.i2b X11.here hx rfl (hb hby at_72) rfl ?_
    show Steps p.tables e below (T11.setTop (mkF m 73 #[.val (.long q1), .second, .val (.int p2), .val (.int p3), .val (.int p4), .val (.ref b5), .unset, .unset, .unset, .unset] [(.int ((((q1.toUInt64 >>> ((48 : Int32) &&& 0x3f).toInt64.toUInt64).toInt64).toInt32).toInt8.toInt32)), (.int (6 : Int32)), (.ref b5)])) _
    refine st12 _ ?_
    show Steps p.tables e below (T12.setTop (mkF m 74 #[.val (.long q1), .second, .val (.int p2), .val (.int p3), .val (.int p4), .val (.ref b5), .unset, .unset, .unset, .unset] [])) _
    refine XS.aload X12.here hx rfl (hb hby at_74) rfl rfl ?_
    show Steps p.tables e below (T12.setTop (mkF m 76 #[.val (.long q1), .second, .val (.int p2), .val (.int p3), .val (.int p4), .val (.ref b5), .unset, .unset, .unset, .unset] [(.ref b5)])) _
    refine XS.bipush X12.here hx rfl (hb hby at_76) ?_
    show Steps p.tables e below (T12.setTop (mkF m 78 #[.val (.long q1), .second, .val (.int p2), .val (.int p3), .val (.int p4), .val (.ref b5), .unset, .unset, .unset, .unset] [(.int (7 : Int32)), (.ref b5)])) _
    refine XS.lloadN X12.here hx rfl (hb hby at_78) rfl ?_
    show Steps p.tables e below (T12.setTop (mkF m 79 #[.val (.long q1), .second, .val (.int p2), .val (.int p3), .val (.int p4), .val (.ref b5), .unset, .unset, .unset, .unset] [(.long q1), (.int (7 : Int32)), (.ref b5)])) _
    refine XS.bipush X12.here hx rfl (hb hby at_79) ?_
    show Steps p.tables e below (T12.setTop (mkF m 81 #[.val (.long q1), .second, .val (.int p2), .val (.int p3), .val (.int p4), .val (.ref b5), .unset, .unset, .unset, .unset] [(.int (56 : Int32)), (.long q1), (.int (7 : Int32)), (.ref b5)])) _
    refine XS.lushr X12.here hx rfl (hb hby at_81) rfl ?_
    show Steps p.tables e below (T12.setTop (mkF m 82 #[.val (.long q1), .second, .val (.int p2), .val (.int p3), .val (.int p4), .val (.ref b5), .unset, .unset, .unset, .unset] [(.long ((q1.toUInt64 >>> ((56 : Int32) &&& 0x3f).toInt64.toUInt64).toInt64)), (.int (7 : Int32)), (.ref b5)])) _
    refine XS.l2i X12.here hx rfl (hb hby at_82) rfl ?_
    show Steps p.tables e below (T12.setTop (mkF m 83 #[.val (.long q1), .second, .val (.int p2), .val (.int p3), .val (.int p4), .val (.ref b5), .unset, .unset, .unset, .unset] [(.int (((q1.toUInt64 >>> ((56 : Int32) &&& 0x3f).toInt64.toUInt64).toInt64).toInt32)), (.int (7 : Int32)), (.ref b5)])) _
    refine XS.i2b X12.here hx rfl (hb hby at_83) rfl ?_
    show Steps p.tables e below (T12.setTop (mkF m 84 #[.val (.long q1), .second, .val (.int p2), .val (.int p3), .val (.int p4), .val (.ref b5), .unset, .unset, .unset, .unset] [(.int ((((q1.toUInt64 >>> ((56 : Int32) &&& 0x3f).toInt64.toUInt64).toInt64).toInt32).toInt8.toInt32)), (.int (7 : Int32)), (.ref b5)])) _
    refine st13 _ ?_
    show Steps p.tables e below (T13.setTop (mkF m 85 #[.val (.long q1), .second, .val (.int p2), .val (.int p3), .val (.int p4), .val (.ref b5), .unset, .unset, .unset, .unset] [])) _
    refine XS.iloadN X13.here hx rfl (hb hby at_85) rfl ?_
    show Steps p.tables e below (T13.setTop (mkF m 86 #[.val (.long q1), .second, .val (.int p2), .val (.int p3), .val (.int p4), .val (.ref b5), .unset, .unset, .unset, .unset] [(.int p2)])) _
    refine X13.ldcInt hx hown (mvT hZ (hw _ (List.mem_of_getElem? (i := 1) rfl))) (g := (mkF m 86 #[.val (.long q1), .second, .val (.int p2), .val (.int p3), .val (.int p4), .val (.ref b5), .unset, .unset, .unset, .unset] [(.int p2)])) rfl (hb hby at_86) _ ?_
    show Steps p.tables e below (T13.setTop (mkF m 88 #[.val (.long q1), .second, .val (.int p2), .val (.int p3), .val (.int p4), .val (.ref b5), .unset, .unset, .unset, .unset] [(.int (2147483647 : Int32)), (.int p2)])) _
    refine XS.iand X13.here hx rfl (hb hby at_88) rfl ?_
    show Steps p.tables e below (T13.setTop (mkF m 89 #[.val (.long q1), .second, .val (.int p2), .val (.int p3), .val (.int p4), .val (.ref b5), .unset, .unset, .unset, .unset] [(.int (p2 &&& (2147483647 : Int32)))])) _
    refine XS.bipush X13.here hx rfl (hb hby at_89) ?_
    show Steps p.tables e below (T13.setTop (mkF m 91 #[.val (.long q1), .second, .val (.int p2), .val (.int p3), .val (.int p4), .val (.ref b5), .unset, .unset, .unset, .unset] [(.int (9 : Int32)), (.int (p2 &&& (2147483647 : Int32)))])) _
    refine iremM X13 hx rfl (hb hby at_91) rfl (by decide) ?_
    show Steps p.tables e below (T13.setTop (mkF m 92 #[.val (.long q1), .second, .val (.int p2), .val (.int p3), .val (.int p4), .val (.ref b5), .unset, .unset, .unset, .unset] [(.int ((p2 &&& (2147483647 : Int32)) % (9 : Int32)))])) _
    refine XS.istore X13.here hx rfl (hb hby at_92) rfl (l' := #[.val (.long q1), .second, .val (.int p2), .val (.int p3), .val (.int p4), .val (.ref b5), .val (.int ((p2 &&& (2147483647 : Int32)) % (9 : Int32))), .unset, .unset, .unset]) rfl ?_
    show Steps p.tables e below (T13.setTop (mkF m 94 #[.val (.long q1), .second, .val (.int p2), .val (.int p3), .val (.int p4), .val (.ref b5), .val (.int ((p2 &&& (2147483647 : Int32)) % (9 : Int32))), .unset, .unset, .unset] [])) _
    show Steps p.tables e below (T13.setTop (mkF m 94 #[.val (.long q1), .second, .val (.int p2), .val (.int p3), .val (.int p4), .val (.ref b5), .val (.int (own_f p2)), .unset, .unset, .unset] [])) _
    refine XS.iload X13.here hx rfl (hb hby at_94) rfl ?_
    show Steps p.tables e below (T13.setTop (mkF m 96 #[.val (.long q1), .second, .val (.int p2), .val (.int p3), .val (.int p4), .val (.ref b5), .val (.int (own_f p2)), .unset, .unset, .unset] [(.int (own_f p2))])) _
    refine XS.iloadN X13.here hx rfl (hb hby at_96) rfl ?_
    show Steps p.tables e below (T13.setTop (mkF m 97 #[.val (.long q1), .second, .val (.int p2), .val (.int p3), .val (.int p4), .val (.ref b5), .val (.int (own_f p2)), .unset, .unset, .unset] [(.int p3), (.int (own_f p2))])) _
    refine X13.ldcInt hx hown (mvT hZ (hw _ (List.mem_of_getElem? (i := 1) rfl))) (g := (mkF m 97 #[.val (.long q1), .second, .val (.int p2), .val (.int p3), .val (.int p4), .val (.ref b5), .val (.int (own_f p2)), .unset, .unset, .unset] [(.int p3), (.int (own_f p2))])) rfl (hb hby at_97) _ ?_
    show Steps p.tables e below (T13.setTop (mkF m 99 #[.val (.long q1), .second, .val (.int p2), .val (.int p3), .val (.int p4), .val (.ref b5), .val (.int (own_f p2)), .unset, .unset, .unset] [(.int (2147483647 : Int32)), (.int p3), (.int (own_f p2))])) _
    refine XS.iand X13.here hx rfl (hb hby at_99) rfl ?_
    show Steps p.tables e below (T13.setTop (mkF m 100 #[.val (.long q1), .second, .val (.int p2), .val (.int p3), .val (.int p4), .val (.ref b5), .val (.int (own_f p2)), .unset, .unset, .unset] [(.int (p3 &&& (2147483647 : Int32))), (.int (own_f p2))])) _
    refine XS.bipush X13.here hx rfl (hb hby at_100) ?_
    show Steps p.tables e below (T13.setTop (mkF m 102 #[.val (.long q1), .second, .val (.int p2), .val (.int p3), .val (.int p4), .val (.ref b5), .val (.int (own_f p2)), .unset, .unset, .unset] [(.int (9 : Int32)), (.int (p3 &&& (2147483647 : Int32))), (.int (own_f p2))])) _
    refine XS.iload X13.here hx rfl (hb hby at_102) rfl ?_
    show Steps p.tables e below (T13.setTop (mkF m 104 #[.val (.long q1), .second, .val (.int p2), .val (.int p3), .val (.int p4), .val (.ref b5), .val (.int (own_f p2)), .unset, .unset, .unset] [(.int (own_f p2)), (.int (9 : Int32)), (.int (p3 &&& (2147483647 : Int32))), (.int (own_f p2))])) _
    refine XS.isub X13.here hx rfl (hb hby at_104) rfl ?_
    show Steps p.tables e below (T13.setTop (mkF m 105 #[.val (.long q1), .second, .val (.int p2), .val (.int p3), .val (.int p4), .val (.ref b5), .val (.int (own_f p2)), .unset, .unset, .unset] [(.int ((9 : Int32) - (own_f p2))), (.int (p3 &&& (2147483647 : Int32))), (.int (own_f p2))])) _
    refine iremM X13 hx rfl (hb hby at_105) rfl hnz105 ?_
    show Steps p.tables e below (T13.setTop (mkF m 106 #[.val (.long q1), .second, .val (.int p2), .val (.int p3), .val (.int p4), .val (.ref b5), .val (.int (own_f p2)), .unset, .unset, .unset] [(.int ((p3 &&& (2147483647 : Int32)) % ((9 : Int32) - (own_f p2)))), (.int (own_f p2))])) _
    refine XS.iadd X13.here hx rfl (hb hby at_106) rfl ?_
    show Steps p.tables e below (T13.setTop (mkF m 107 #[.val (.long q1), .second, .val (.int p2), .val (.int p3), .val (.int p4), .val (.ref b5), .val (.int (own_f p2)), .unset, .unset, .unset] [(.int ((own_f p2) + ((p3 &&& (2147483647 : Int32)) % ((9 : Int32) - (own_f p2)))))])) _
    refine XS.istore X13.here hx rfl (hb hby at_107) rfl (l' := #[.val (.long q1), .second, .val (.int p2), .val (.int p3), .val (.int p4), .val (.ref b5), .val (.int (own_f p2)), .val (.int ((own_f p2) + ((p3 &&& (2147483647 : Int32)) % ((9 : Int32) - (own_f p2))))), .unset, .unset]) rfl ?_
    show Steps p.tables e below (T13.setTop (mkF m 109 #[.val (.long q1), .second, .val (.int p2), .val (.int p3), .val (.int p4), .val (.ref b5), .val (.int (own_f p2)), .val (.int ((own_f p2) + ((p3 &&& (2147483647 : Int32)) % ((9 : Int32) - (own_f p2))))), .unset, .unset] [])) _
    refine st14 _ ?_
    show Steps p.tables e below (T14.setTop (mkF m 130 #[.val (.long q1), .second, .val (.int p2), .val (.int p3), .val (.int p4), .val (.ref b5), .val (.int (own_f p2)), .val (.int (own_to p2 p3)), .unset, .unset] [])) _
    refine st15 _ ?_
    show Steps p.tables e below (T15.setTop (mkF m 155 #[.val (.long q1), .second, .val (.int p2), .val (.int p3), .val (.int p4), .val (.ref b5), .val (.int (own_f p2)), .val (.int (own_to p2 p3)), .unset, .unset] [])) _
    refine st16 _ ?_
    exact kk
  by_cases hc200 : ((own_to p2 p3) - (own_f p2)) < (3 : Int32)
  · obtain ⟨_, _, ⟨T17, L17, k17, n17⟩, -, X17, ⟨Lc17, hQ17, l17, y17, z17⟩, st17⟩ := Jvm.LawKit.callS X16 hx (y := (⟨"dev/changeline/envelope/Utf8", "byteOrderMarkLength", "([BII)I"⟩ : MethodName)) hown (mvT hZ (hw _ (List.mem_of_getElem? (i := 2) rfl))) (mvT hZ (hw _ (List.mem_of_getElem? (i := 3) rfl))) (mvT hZ (hw _ (List.mem_of_getElem? (i := 4) rfl))) (mvT hZ (hw _ (List.mem_of_getElem? (i := 5) rfl))) (by decide) (backOf (W := 0) (rm1s l Z a0 hw [] b5 (own_f p2) (own_to p2 p3)  h16 n0 Zs hc200) hZ (hw _ (List.mem_of_getElem? (i := 5) rfl)) (hw _ (List.mem_of_getElem? (i := 4) rfl)) (by decide) (by decide)) (g := (mkF m 186 #[.val (.long q1), .second, .val (.int p2), .val (.int p3), .val (.int p4), .val (.ref b5), .val (.int (own_f p2)), .val (.int (own_to p2 p3)), .unset, .unset] [(.int (own_to p2 p3)), (.int (own_f p2)), (.ref b5)])) rfl (by rw [hml]; rfl) (argsL := [(.ref b5), (.int (own_f p2)), (.int (own_to p2 p3))]) (rest := []) (lenOf pd_0_0 rfl) rfl (by show 2 * 0 + _ ≤ _; exact Nat.le_of_eq rfl) (hb hby at_186) (fun _ _ => ⟨rfl, e16, (by decide : 1 + 0 ≤ _), (by decide : 8 + 0 ≤ _)⟩)
    dsimp only [Pt.U, Pt.locs, Pt.cells, Pt.slots] at X17 l17 y17 z17 st17 hQ17
    subst l17 y17 z17
    obtain ⟨rfl, N17q, q17⟩ := hQ17      -- what it returned, that it wrote nothing old, and the rest of your Q1
    have N17 := Fr.app N16 N17q
    obtain ⟨fs, hr, hrun, hended, hW, hsame⟩ := X17.leave (v := some (.int (1 : Int32))) (fun h => by rw [Bd.returns] at h; cases h)
    refine ⟨_, _, preX _ ?_, hrun, hended, _, _, rfl, ?_, ⟨_, rfl⟩, hW, hsame.mono (by decide) (by decide)⟩
    · show Steps p.tables e below (T16.setTop (mkF m 180 #[.val (.long q1), .second, .val (.int p2), .val (.int p3), .val (.int p4), .val (.ref b5), .val (.int (own_f p2)), .val (.int (own_to p2 p3)), .unset, .unset] [])) _
      show Steps p.tables e below (T16.setTop (mkF m 180 #[.val (.long q1), .second, .val (.int p2), .val (.int p3), .val (.int p4), .val (.ref b5), .val (.int (own_f p2)), .val (.int (own_to p2 p3)), .unset, .unset] [])) _
      refine XS.aload X16.here hx rfl (hb hby at_180) rfl rfl ?_
      show Steps p.tables e below (T16.setTop (mkF m 182 #[.val (.long q1), .second, .val (.int p2), .val (.int p3), .val (.int p4), .val (.ref b5), .val (.int (own_f p2)), .val (.int (own_to p2 p3)), .unset, .unset] [(.ref b5)])) _
      refine XS.iload X16.here hx rfl (hb hby at_182) rfl ?_
      show Steps p.tables e below (T16.setTop (mkF m 184 #[.val (.long q1), .second, .val (.int p2), .val (.int p3), .val (.int p4), .val (.ref b5), .val (.int (own_f p2)), .val (.int (own_to p2 p3)), .unset, .unset] [(.int (own_f p2)), (.ref b5)])) _
      refine XS.iload X16.here hx rfl (hb hby at_184) rfl ?_
      show Steps p.tables e below (T16.setTop (mkF m 186 #[.val (.long q1), .second, .val (.int p2), .val (.int p3), .val (.int p4), .val (.ref b5), .val (.int (own_f p2)), .val (.int (own_to p2 p3)), .unset, .unset] [(.int (own_to p2 p3)), (.int (own_f p2)), (.ref b5)])) _
      refine st17 _ ?_
      show Steps p.tables e below (T17.setTop (mkF m 189 #[.val (.long q1), .second, .val (.int p2), .val (.int p3), .val (.int p4), .val (.ref b5), .val (.int (own_f p2)), .val (.int (own_to p2 p3)), .unset, .unset] [(.int (0 : Int32))])) _
      refine XS.istore X17.here hx rfl (hb hby at_189) rfl (l' := #[.val (.long q1), .second, .val (.int p2), .val (.int p3), .val (.int p4), .val (.ref b5), .val (.int (own_f p2)), .val (.int (own_to p2 p3)), .val (.int (0 : Int32)), .unset]) rfl ?_
      show Steps p.tables e below (T17.setTop (mkF m 191 #[.val (.long q1), .second, .val (.int p2), .val (.int p3), .val (.int p4), .val (.ref b5), .val (.int (own_f p2)), .val (.int (own_to p2 p3)), .val (.int (0 : Int32)), .unset] [])) _
      refine XS.iconst X17.here hx rfl (hb hby at_191) ?_
      show Steps p.tables e below (T17.setTop (mkF m 192 #[.val (.long q1), .second, .val (.int p2), .val (.int p3), .val (.int p4), .val (.ref b5), .val (.int (own_f p2)), .val (.int (own_to p2 p3)), .val (.int (0 : Int32)), .unset] [(.int (0 : Int32))])) _
      refine XS.istore X17.here hx rfl (hb hby at_192) rfl (l' := #[.val (.long q1), .second, .val (.int p2), .val (.int p3), .val (.int p4), .val (.ref b5), .val (.int (own_f p2)), .val (.int (own_to p2 p3)), .val (.int (0 : Int32)), .val (.int (0 : Int32))]) rfl ?_
      show Steps p.tables e below (T17.setTop (mkF m 194 #[.val (.long q1), .second, .val (.int p2), .val (.int p3), .val (.int p4), .val (.ref b5), .val (.int (own_f p2)), .val (.int (own_to p2 p3)), .val (.int (0 : Int32)), .val (.int (0 : Int32))] [])) _
      refine XS.iload X17.here hx rfl (hb hby at_194) rfl ?_
      show Steps p.tables e below (T17.setTop (mkF m 196 #[.val (.long q1), .second, .val (.int p2), .val (.int p3), .val (.int p4), .val (.ref b5), .val (.int (own_f p2)), .val (.int (own_to p2 p3)), .val (.int (0 : Int32)), .val (.int (0 : Int32))] [(.int (own_to p2 p3))])) _
      refine XS.iload X17.here hx rfl (hb hby at_196) rfl ?_
      show Steps p.tables e below (T17.setTop (mkF m 198 #[.val (.long q1), .second, .val (.int p2), .val (.int p3), .val (.int p4), .val (.ref b5), .val (.int (own_f p2)), .val (.int (own_to p2 p3)), .val (.int (0 : Int32)), .val (.int (0 : Int32))] [(.int (own_f p2)), (.int (own_to p2 p3))])) _
      refine XS.isub X17.here hx rfl (hb hby at_198) rfl ?_
      show Steps p.tables e below (T17.setTop (mkF m 199 #[.val (.long q1), .second, .val (.int p2), .val (.int p3), .val (.int p4), .val (.ref b5), .val (.int (own_f p2)), .val (.int (own_to p2 p3)), .val (.int (0 : Int32)), .val (.int (0 : Int32))] [(.int ((own_to p2 p3) - (own_f p2)))])) _
      refine XS.iconst X17.here hx rfl (hb hby at_199) ?_
      show Steps p.tables e below (T17.setTop (mkF m 200 #[.val (.long q1), .second, .val (.int p2), .val (.int p3), .val (.int p4), .val (.ref b5), .val (.int (own_f p2)), .val (.int (own_to p2 p3)), .val (.int (0 : Int32)), .val (.int (0 : Int32))] [(.int (3 : Int32)), (.int ((own_to p2 p3) - (own_f p2)))])) _
      refine XS.icmpYes X17.here hx rfl (pc0 := 200) (pc' := 252) rfl (hb hby at_200) rfl (tlt hc200).1 (by decide) (by decide) ?_
      show Steps p.tables e below (T17.setTop (mkF m 252 #[.val (.long q1), .second, .val (.int p2), .val (.int p3), .val (.int p4), .val (.ref b5), .val (.int (own_f p2)), .val (.int (own_to p2 p3)), .val (.int (0 : Int32)), .val (.int (0 : Int32))] [])) _
      refine XS.iload X17.here hx rfl (hb hby at_252) rfl ?_
      show Steps p.tables e below (T17.setTop (mkF m 254 #[.val (.long q1), .second, .val (.int p2), .val (.int p3), .val (.int p4), .val (.ref b5), .val (.int (own_f p2)), .val (.int (own_to p2 p3)), .val (.int (0 : Int32)), .val (.int (0 : Int32))] [(.int (0 : Int32))])) _
      refine XS.iload X17.here hx rfl (hb hby at_254) rfl ?_
      show Steps p.tables e below (T17.setTop (mkF m 256 #[.val (.long q1), .second, .val (.int p2), .val (.int p3), .val (.int p4), .val (.ref b5), .val (.int (own_f p2)), .val (.int (own_to p2 p3)), .val (.int (0 : Int32)), .val (.int (0 : Int32))] [(.int (0 : Int32)), (.int (0 : Int32))])) _
      refine XS.icmpNo X17.here hx rfl (hb hby at_256) rfl (teq (rfl : (0 : Int32) = (0 : Int32))).2 ?_
      show Steps p.tables e below (T17.setTop (mkF m 259 #[.val (.long q1), .second, .val (.int p2), .val (.int p3), .val (.int p4), .val (.ref b5), .val (.int (own_f p2)), .val (.int (own_to p2 p3)), .val (.int (0 : Int32)), .val (.int (0 : Int32))] [])) _
      refine XS.iconst X17.here hx rfl (hb hby at_259) ?_
      show Steps p.tables e below (T17.setTop (mkF m 260 #[.val (.long q1), .second, .val (.int p2), .val (.int p3), .val (.int p4), .val (.ref b5), .val (.int (own_f p2)), .val (.int (own_to p2 p3)), .val (.int (0 : Int32)), .val (.int (0 : Int32))] [(.int (1 : Int32))])) _
      refine XS.goto X17.here hx rfl (pc0 := 260) (pc' := 264) rfl (hb hby at_260) (by decide) (by decide) ?_
      show Steps p.tables e below (T17.setTop (mkF m 264 #[.val (.long q1), .second, .val (.int p2), .val (.int p3), .val (.int p4), .val (.ref b5), .val (.int (own_f p2)), .val (.int (own_to p2 p3)), .val (.int (0 : Int32)), .val (.int (0 : Int32))] [(.int (1 : Int32))])) _
      exact retN X17 hx (t := .boolean) Bd.returns (by simp) (hb hby at_264) hr
    · show Q0 Z q1 p2 p3 p4 h0 n0 _ T17.heap _
      rw [q17]
      exact ⟨rfl, N17⟩
  · have o1 := own_f_in p2
    have o2 := own_to_in p2 p3
    have o3 : ((own_to p2 p3) - (own_f p2)).toInt = (own_to p2 p3).toInt - (own_f p2).toInt := Jvm.Kit.i32_sub (by omega) (by omega)
    have o4 := hc200
    rw [Int32.lt_iff_toInt_lt, o3, show (3 : Int32).toInt = 3 from rfl] at o4
    have j0 : ¬ (own_f p2) < 0 ∧ (own_f p2) < 8 := ⟨own_nn (by omega), by rw [Int32.lt_iff_toInt_lt, show (8 : Int32).toInt = 8 from rfl]; omega⟩
    have hin207 := inb_of S_b5 j0
    obtain ⟨v0, hat207, r0⟩ := H_b5 _ j0.1 j0.2
    have j1 : ¬ ((own_f p2) + (1 : Int32)) < 0 ∧ ((own_f p2) + (1 : Int32)) < 8 := ⟨own_nn (by rw [own_plus (own_f p2) 1 o1 ⟨by decide, by decide⟩, show (1 : Int32).toInt = 1 from rfl]; omega), by rw [Int32.lt_iff_toInt_lt, own_plus (own_f p2) 1 o1 ⟨by decide, by decide⟩, show (1 : Int32).toInt = 1 from rfl, show (8 : Int32).toInt = 8 from rfl]; omega⟩
    have hin223 := inb_of S_b5 j1
    obtain ⟨v1, hat223, r1⟩ := H_b5 _ j1.1 j1.2
    have j2 : ¬ ((own_f p2) + (2 : Int32)) < 0 ∧ ((own_f p2) + (2 : Int32)) < 8 := ⟨own_nn (by rw [own_plus (own_f p2) 2 o1 ⟨by decide, by decide⟩, show (2 : Int32).toInt = 2 from rfl]; omega), by rw [Int32.lt_iff_toInt_lt, own_plus (own_f p2) 2 o1 ⟨by decide, by decide⟩, show (2 : Int32).toInt = 2 from rfl, show (8 : Int32).toInt = 8 from rfl]; omega⟩
    have hin239 := inb_of S_b5 j2
    obtain ⟨v2, hat239, r2⟩ := H_b5 _ j2.1 j2.2
    by_cases hc214 : (v0 &&& (255 : Int32)) = (239 : Int32)
    · by_cases hc230 : (v1 &&& (255 : Int32)) = (187 : Int32)
      · by_cases hc246 : (v2 &&& (255 : Int32)) = (191 : Int32)
        · have hc256 : (own_bom v0 v1 v2) = (3 : Int32) := by unfold own_bom; rw [if_pos ((own_u v0 239 239 r0 rfl (by decide) (-17) rfl).mp hc214), if_pos ((own_u v1 187 187 r1 rfl (by decide) (-69) rfl).mp hc230), if_pos ((own_u v2 191 191 r2 rfl (by decide) (-65) rfl).mp hc246)]
          obtain ⟨_, _, ⟨T17, L17, k17, n17⟩, -, X17, ⟨Lc17, hQ17, l17, y17, z17⟩, st17⟩ := Jvm.LawKit.callS X16 hx (y := (⟨"dev/changeline/envelope/Utf8", "byteOrderMarkLength", "([BII)I"⟩ : MethodName)) hown (mvT hZ (hw _ (List.mem_of_getElem? (i := 2) rfl))) (mvT hZ (hw _ (List.mem_of_getElem? (i := 3) rfl))) (mvT hZ (hw _ (List.mem_of_getElem? (i := 4) rfl))) (mvT hZ (hw _ (List.mem_of_getElem? (i := 5) rfl))) (by decide) (backOf (W := 0) (rm1 l Z a0 hw [] b5 (own_f p2) (own_to p2 p3) v0 cB v1 v2 h16 n0 Zs Ar_b5 hin207 hat207 hin223 hat223 hin239 hat239 hc200) hZ (hw _ (List.mem_of_getElem? (i := 5) rfl)) (hw _ (List.mem_of_getElem? (i := 4) rfl)) (by decide) (by decide)) (g := (mkF m 186 #[.val (.long q1), .second, .val (.int p2), .val (.int p3), .val (.int p4), .val (.ref b5), .val (.int (own_f p2)), .val (.int (own_to p2 p3)), .unset, .unset] [(.int (own_to p2 p3)), (.int (own_f p2)), (.ref b5)])) rfl (by rw [hml]; rfl) (argsL := [(.ref b5), (.int (own_f p2)), (.int (own_to p2 p3))]) (rest := []) (lenOf pd_0_0 rfl) rfl (by show 2 * 0 + _ ≤ _; exact Nat.le_of_eq rfl) (hb hby at_186) (fun _ _ => ⟨rfl, e16, (by decide : 1 + 0 ≤ _), (by decide : 8 + 0 ≤ _)⟩)
          dsimp only [Pt.U, Pt.locs, Pt.cells, Pt.slots] at X17 l17 y17 z17 st17 hQ17
          subst l17 y17 z17
          obtain ⟨rfl, N17q, q17⟩ := hQ17      -- what it returned, that it wrote nothing old, and the rest of your Q1
          have N17 := Fr.app N16 N17q
          -- pc 207: the array at b5: open its fact V_b5 (as at a store): Ar : Arr Z h16 b5 cl <kind>; hin207 : the place is inside; hat207 : cl.slots[place]? = some (.int v0)
          -- pc 208: dev/changeline/envelope/Utf8ByteOrderMarkLengthPinLaw.u by its contract rm2
          obtain ⟨_, _, ⟨T19, L19, k19, n19⟩, -, X19, ⟨Lc19, hQ19, l19, y19, z19⟩, st19⟩ := Jvm.LawKit.callS X17 hx (y := (⟨"dev/changeline/envelope/Utf8ByteOrderMarkLengthPinLaw", "u", "(B)I"⟩ : MethodName)) hown (mvT hZ (hw _ (List.mem_of_getElem? (i := 6) rfl))) (mvT hZ (hw _ (List.mem_of_getElem? (i := 7) rfl))) (mvT hZ (hw _ (List.mem_of_getElem? (i := 8) rfl))) (mvT hZ (hw _ (List.mem_of_getElem? (i := 9) rfl))) (by decide) (backOf (W := 0) (rm2 l Z a0 hw [] v0  h16 n0 Zs) hZ (hw _ (List.mem_of_getElem? (i := 9) rfl)) (hw _ (List.mem_of_getElem? (i := 8) rfl)) (by decide) (by decide)) (g := (mkF m 208 #[.val (.long q1), .second, .val (.int p2), .val (.int p3), .val (.int p4), .val (.ref b5), .val (.int (own_f p2)), .val (.int (own_to p2 p3)), .val (.int (own_bom v0 v1 v2)), .val (.int (0 : Int32))] [(.int v0)])) rfl (by rw [hml]; rfl) (argsL := [(.int v0)]) (rest := []) (lenOf pd_0_1 rfl) rfl (by show 2 * 0 + _ ≤ _; exact Nat.le_of_eq rfl) (hb hby at_208) (fun _ _ => ⟨rfl, q17, (by decide : 1 + 0 ≤ _), (by decide : 8 + 0 ≤ _)⟩)
          dsimp only [Pt.U, Pt.locs, Pt.cells, Pt.slots] at X19 l19 y19 z19 st19 hQ19
          subst l19 y19 z19
          obtain ⟨rfl, N19q, q19⟩ := hQ19      -- what it returned, that it wrote nothing old, and the rest of your Q2
          have N19 := Fr.app N17 N19q
          -- pc 223: the array at b5: open its fact V_b5 (as at a store): Ar : Arr Z h16 b5 cl <kind>; hin223 : the place is inside; hat223 : cl.slots[place]? = some (.int v1)
          -- pc 224: dev/changeline/envelope/Utf8ByteOrderMarkLengthPinLaw.u by its contract rm2
          obtain ⟨_, _, ⟨T21, L21, k21, n21⟩, -, X21, ⟨Lc21, hQ21, l21, y21, z21⟩, st21⟩ := Jvm.LawKit.callS X19 hx (y := (⟨"dev/changeline/envelope/Utf8ByteOrderMarkLengthPinLaw", "u", "(B)I"⟩ : MethodName)) hown (mvT hZ (hw _ (List.mem_of_getElem? (i := 6) rfl))) (mvT hZ (hw _ (List.mem_of_getElem? (i := 7) rfl))) (mvT hZ (hw _ (List.mem_of_getElem? (i := 8) rfl))) (mvT hZ (hw _ (List.mem_of_getElem? (i := 9) rfl))) (by decide) (backOf (W := 0) (rm2 l Z a0 hw [] v1  h16 n0 Zs) hZ (hw _ (List.mem_of_getElem? (i := 9) rfl)) (hw _ (List.mem_of_getElem? (i := 8) rfl)) (by decide) (by decide)) (g := (mkF m 224 #[.val (.long q1), .second, .val (.int p2), .val (.int p3), .val (.int p4), .val (.ref b5), .val (.int (own_f p2)), .val (.int (own_to p2 p3)), .val (.int (own_bom v0 v1 v2)), .val (.int (0 : Int32))] [(.int v1)])) rfl (by rw [hml]; rfl) (argsL := [(.int v1)]) (rest := []) (lenOf pd_0_1 rfl) rfl (by show 2 * 0 + _ ≤ _; exact Nat.le_of_eq rfl) (hb hby at_224) (fun _ _ => ⟨rfl, q19, (by decide : 1 + 0 ≤ _), (by decide : 8 + 0 ≤ _)⟩)
          dsimp only [Pt.U, Pt.locs, Pt.cells, Pt.slots] at X21 l21 y21 z21 st21 hQ21
          subst l21 y21 z21
          obtain ⟨rfl, N21q, q21⟩ := hQ21      -- what it returned, that it wrote nothing old, and the rest of your Q2
          have N21 := Fr.app N19 N21q
          -- pc 239: the array at b5: open its fact V_b5 (as at a store): Ar : Arr Z h16 b5 cl <kind>; hin239 : the place is inside; hat239 : cl.slots[place]? = some (.int v2)
          -- pc 240: dev/changeline/envelope/Utf8ByteOrderMarkLengthPinLaw.u by its contract rm2
          obtain ⟨_, _, ⟨T23, L23, k23, n23⟩, -, X23, ⟨Lc23, hQ23, l23, y23, z23⟩, st23⟩ := Jvm.LawKit.callS X21 hx (y := (⟨"dev/changeline/envelope/Utf8ByteOrderMarkLengthPinLaw", "u", "(B)I"⟩ : MethodName)) hown (mvT hZ (hw _ (List.mem_of_getElem? (i := 6) rfl))) (mvT hZ (hw _ (List.mem_of_getElem? (i := 7) rfl))) (mvT hZ (hw _ (List.mem_of_getElem? (i := 8) rfl))) (mvT hZ (hw _ (List.mem_of_getElem? (i := 9) rfl))) (by decide) (backOf (W := 0) (rm2 l Z a0 hw [] v2  h16 n0 Zs) hZ (hw _ (List.mem_of_getElem? (i := 9) rfl)) (hw _ (List.mem_of_getElem? (i := 8) rfl)) (by decide) (by decide)) (g := (mkF m 240 #[.val (.long q1), .second, .val (.int p2), .val (.int p3), .val (.int p4), .val (.ref b5), .val (.int (own_f p2)), .val (.int (own_to p2 p3)), .val (.int (own_bom v0 v1 v2)), .val (.int (0 : Int32))] [(.int v2)])) rfl (by rw [hml]; rfl) (argsL := [(.int v2)]) (rest := []) (lenOf pd_0_1 rfl) rfl (by show 2 * 0 + _ ≤ _; exact Nat.le_of_eq rfl) (hb hby at_240) (fun _ _ => ⟨rfl, q21, (by decide : 1 + 0 ≤ _), (by decide : 8 + 0 ≤ _)⟩)
          dsimp only [Pt.U, Pt.locs, Pt.cells, Pt.slots] at X23 l23 y23 z23 st23 hQ23
          subst l23 y23 z23
          obtain ⟨rfl, N23q, q23⟩ := hQ23      -- what it returned, that it wrote nothing old, and the rest of your Q2
          have N23 := Fr.app N21 N23q
          obtain ⟨fs, hr, hrun, hended, hW, hsame⟩ := X23.leave (v := some (.int (1 : Int32))) (fun h => by rw [Bd.returns] at h; cases h)
          refine ⟨_, _, preX _ ?_, hrun, hended, _, _, rfl, ?_, ⟨_, rfl⟩, hW, hsame.mono (by decide) (by decide)⟩
          · show Steps p.tables e below (T16.setTop (mkF m 180 #[.val (.long q1), .second, .val (.int p2), .val (.int p3), .val (.int p4), .val (.ref b5), .val (.int (own_f p2)), .val (.int (own_to p2 p3)), .unset, .unset] [])) _
            show Steps p.tables e below (T16.setTop (mkF m 180 #[.val (.long q1), .second, .val (.int p2), .val (.int p3), .val (.int p4), .val (.ref b5), .val (.int (own_f p2)), .val (.int (own_to p2 p3)), .unset, .unset] [])) _
            refine XS.aload X16.here hx rfl (hb hby at_180) rfl rfl ?_
            show Steps p.tables e below (T16.setTop (mkF m 182 #[.val (.long q1), .second, .val (.int p2), .val (.int p3), .val (.int p4), .val (.ref b5), .val (.int (own_f p2)), .val (.int (own_to p2 p3)), .unset, .unset] [(.ref b5)])) _
            refine XS.iload X16.here hx rfl (hb hby at_182) rfl ?_
            show Steps p.tables e below (T16.setTop (mkF m 184 #[.val (.long q1), .second, .val (.int p2), .val (.int p3), .val (.int p4), .val (.ref b5), .val (.int (own_f p2)), .val (.int (own_to p2 p3)), .unset, .unset] [(.int (own_f p2)), (.ref b5)])) _
            refine XS.iload X16.here hx rfl (hb hby at_184) rfl ?_
            show Steps p.tables e below (T16.setTop (mkF m 186 #[.val (.long q1), .second, .val (.int p2), .val (.int p3), .val (.int p4), .val (.ref b5), .val (.int (own_f p2)), .val (.int (own_to p2 p3)), .unset, .unset] [(.int (own_to p2 p3)), (.int (own_f p2)), (.ref b5)])) _
            refine st17 _ ?_
            show Steps p.tables e below (T17.setTop (mkF m 189 #[.val (.long q1), .second, .val (.int p2), .val (.int p3), .val (.int p4), .val (.ref b5), .val (.int (own_f p2)), .val (.int (own_to p2 p3)), .unset, .unset] [(.int (own_bom v0 v1 v2))])) _
            refine XS.istore X17.here hx rfl (hb hby at_189) rfl (l' := #[.val (.long q1), .second, .val (.int p2), .val (.int p3), .val (.int p4), .val (.ref b5), .val (.int (own_f p2)), .val (.int (own_to p2 p3)), .val (.int (own_bom v0 v1 v2)), .unset]) rfl ?_
            show Steps p.tables e below (T17.setTop (mkF m 191 #[.val (.long q1), .second, .val (.int p2), .val (.int p3), .val (.int p4), .val (.ref b5), .val (.int (own_f p2)), .val (.int (own_to p2 p3)), .val (.int (own_bom v0 v1 v2)), .unset] [])) _
            refine XS.iconst X17.here hx rfl (hb hby at_191) ?_
            show Steps p.tables e below (T17.setTop (mkF m 192 #[.val (.long q1), .second, .val (.int p2), .val (.int p3), .val (.int p4), .val (.ref b5), .val (.int (own_f p2)), .val (.int (own_to p2 p3)), .val (.int (own_bom v0 v1 v2)), .unset] [(.int (0 : Int32))])) _
            refine XS.istore X17.here hx rfl (hb hby at_192) rfl (l' := #[.val (.long q1), .second, .val (.int p2), .val (.int p3), .val (.int p4), .val (.ref b5), .val (.int (own_f p2)), .val (.int (own_to p2 p3)), .val (.int (own_bom v0 v1 v2)), .val (.int (0 : Int32))]) rfl ?_
            show Steps p.tables e below (T17.setTop (mkF m 194 #[.val (.long q1), .second, .val (.int p2), .val (.int p3), .val (.int p4), .val (.ref b5), .val (.int (own_f p2)), .val (.int (own_to p2 p3)), .val (.int (own_bom v0 v1 v2)), .val (.int (0 : Int32))] [])) _
            refine XS.iload X17.here hx rfl (hb hby at_194) rfl ?_
            show Steps p.tables e below (T17.setTop (mkF m 196 #[.val (.long q1), .second, .val (.int p2), .val (.int p3), .val (.int p4), .val (.ref b5), .val (.int (own_f p2)), .val (.int (own_to p2 p3)), .val (.int (own_bom v0 v1 v2)), .val (.int (0 : Int32))] [(.int (own_to p2 p3))])) _
            refine XS.iload X17.here hx rfl (hb hby at_196) rfl ?_
            show Steps p.tables e below (T17.setTop (mkF m 198 #[.val (.long q1), .second, .val (.int p2), .val (.int p3), .val (.int p4), .val (.ref b5), .val (.int (own_f p2)), .val (.int (own_to p2 p3)), .val (.int (own_bom v0 v1 v2)), .val (.int (0 : Int32))] [(.int (own_f p2)), (.int (own_to p2 p3))])) _
            refine XS.isub X17.here hx rfl (hb hby at_198) rfl ?_
            show Steps p.tables e below (T17.setTop (mkF m 199 #[.val (.long q1), .second, .val (.int p2), .val (.int p3), .val (.int p4), .val (.ref b5), .val (.int (own_f p2)), .val (.int (own_to p2 p3)), .val (.int (own_bom v0 v1 v2)), .val (.int (0 : Int32))] [(.int ((own_to p2 p3) - (own_f p2)))])) _
            refine XS.iconst X17.here hx rfl (hb hby at_199) ?_
            show Steps p.tables e below (T17.setTop (mkF m 200 #[.val (.long q1), .second, .val (.int p2), .val (.int p3), .val (.int p4), .val (.ref b5), .val (.int (own_f p2)), .val (.int (own_to p2 p3)), .val (.int (own_bom v0 v1 v2)), .val (.int (0 : Int32))] [(.int (3 : Int32)), (.int ((own_to p2 p3) - (own_f p2)))])) _
            refine XS.icmpNo X17.here hx rfl (hb hby at_200) rfl (flt hc200).1 ?_
            show Steps p.tables e below (T17.setTop (mkF m 203 #[.val (.long q1), .second, .val (.int p2), .val (.int p3), .val (.int p4), .val (.ref b5), .val (.int (own_f p2)), .val (.int (own_to p2 p3)), .val (.int (own_bom v0 v1 v2)), .val (.int (0 : Int32))] [])) _
            refine XS.aload X17.here hx rfl (hb hby at_203) rfl rfl ?_
            show Steps p.tables e below (T17.setTop (mkF m 205 #[.val (.long q1), .second, .val (.int p2), .val (.int p3), .val (.int p4), .val (.ref b5), .val (.int (own_f p2)), .val (.int (own_to p2 p3)), .val (.int (own_bom v0 v1 v2)), .val (.int (0 : Int32))] [(.ref b5)])) _
            refine XS.iload X17.here hx rfl (hb hby at_205) rfl ?_
            show Steps p.tables e below (T17.setTop (mkF m 207 #[.val (.long q1), .second, .val (.int p2), .val (.int p3), .val (.int p4), .val (.ref b5), .val (.int (own_f p2)), .val (.int (own_to p2 p3)), .val (.int (own_bom v0 v1 v2)), .val (.int (0 : Int32))] [(.int (own_f p2)), (.ref b5)])) _
            refine X17.baloadBytes hx (j := (own_f p2)) (v := (.int v0)) (by rw [q17]; exact Ar_b5.1) (State.isArrayOf_alike hZ.alike Ar_b5.2.1) Ar_b5.2.2 hin207 hat207 (g := (mkF m 207 #[.val (.long q1), .second, .val (.int p2), .val (.int p3), .val (.int p4), .val (.ref b5), .val (.int (own_f p2)), .val (.int (own_to p2 p3)), .val (.int (own_bom v0 v1 v2)), .val (.int (0 : Int32))] [(.int (own_f p2)), (.ref b5)])) rfl rfl (hb hby at_207) _ ?_
            show Steps p.tables e below (T17.setTop (mkF m 208 #[.val (.long q1), .second, .val (.int p2), .val (.int p3), .val (.int p4), .val (.ref b5), .val (.int (own_f p2)), .val (.int (own_to p2 p3)), .val (.int (own_bom v0 v1 v2)), .val (.int (0 : Int32))] [(.int v0)])) _
            refine st19 _ ?_
            show Steps p.tables e below (T19.setTop (mkF m 211 #[.val (.long q1), .second, .val (.int p2), .val (.int p3), .val (.int p4), .val (.ref b5), .val (.int (own_f p2)), .val (.int (own_to p2 p3)), .val (.int (own_bom v0 v1 v2)), .val (.int (0 : Int32))] [(.int (v0 &&& (255 : Int32)))])) _
            refine XS.sipush X19.here hx rfl (hb hby at_211) ?_
            show Steps p.tables e below (T19.setTop (mkF m 214 #[.val (.long q1), .second, .val (.int p2), .val (.int p3), .val (.int p4), .val (.ref b5), .val (.int (own_f p2)), .val (.int (own_to p2 p3)), .val (.int (own_bom v0 v1 v2)), .val (.int (0 : Int32))] [(.int (239 : Int32)), (.int (v0 &&& (255 : Int32)))])) _
            refine XS.icmpNo X19.here hx rfl (hb hby at_214) rfl (teq hc214).2 ?_
            show Steps p.tables e below (T19.setTop (mkF m 217 #[.val (.long q1), .second, .val (.int p2), .val (.int p3), .val (.int p4), .val (.ref b5), .val (.int (own_f p2)), .val (.int (own_to p2 p3)), .val (.int (own_bom v0 v1 v2)), .val (.int (0 : Int32))] [])) _
            refine XS.aload X19.here hx rfl (hb hby at_217) rfl rfl ?_
            show Steps p.tables e below (T19.setTop (mkF m 219 #[.val (.long q1), .second, .val (.int p2), .val (.int p3), .val (.int p4), .val (.ref b5), .val (.int (own_f p2)), .val (.int (own_to p2 p3)), .val (.int (own_bom v0 v1 v2)), .val (.int (0 : Int32))] [(.ref b5)])) _
            refine XS.iload X19.here hx rfl (hb hby at_219) rfl ?_
            show Steps p.tables e below (T19.setTop (mkF m 221 #[.val (.long q1), .second, .val (.int p2), .val (.int p3), .val (.int p4), .val (.ref b5), .val (.int (own_f p2)), .val (.int (own_to p2 p3)), .val (.int (own_bom v0 v1 v2)), .val (.int (0 : Int32))] [(.int (own_f p2)), (.ref b5)])) _
            refine XS.iconst X19.here hx rfl (hb hby at_221) ?_
            show Steps p.tables e below (T19.setTop (mkF m 222 #[.val (.long q1), .second, .val (.int p2), .val (.int p3), .val (.int p4), .val (.ref b5), .val (.int (own_f p2)), .val (.int (own_to p2 p3)), .val (.int (own_bom v0 v1 v2)), .val (.int (0 : Int32))] [(.int (1 : Int32)), (.int (own_f p2)), (.ref b5)])) _
            refine XS.iadd X19.here hx rfl (hb hby at_222) rfl ?_
            show Steps p.tables e below (T19.setTop (mkF m 223 #[.val (.long q1), .second, .val (.int p2), .val (.int p3), .val (.int p4), .val (.ref b5), .val (.int (own_f p2)), .val (.int (own_to p2 p3)), .val (.int (own_bom v0 v1 v2)), .val (.int (0 : Int32))] [(.int ((own_f p2) + (1 : Int32))), (.ref b5)])) _
            refine X19.baloadBytes hx (j := ((own_f p2) + (1 : Int32))) (v := (.int v1)) (by rw [q19]; exact Ar_b5.1) (State.isArrayOf_alike hZ.alike Ar_b5.2.1) Ar_b5.2.2 hin223 hat223 (g := (mkF m 223 #[.val (.long q1), .second, .val (.int p2), .val (.int p3), .val (.int p4), .val (.ref b5), .val (.int (own_f p2)), .val (.int (own_to p2 p3)), .val (.int (own_bom v0 v1 v2)), .val (.int (0 : Int32))] [(.int ((own_f p2) + (1 : Int32))), (.ref b5)])) rfl rfl (hb hby at_223) _ ?_
            show Steps p.tables e below (T19.setTop (mkF m 224 #[.val (.long q1), .second, .val (.int p2), .val (.int p3), .val (.int p4), .val (.ref b5), .val (.int (own_f p2)), .val (.int (own_to p2 p3)), .val (.int (own_bom v0 v1 v2)), .val (.int (0 : Int32))] [(.int v1)])) _
            refine st21 _ ?_
            show Steps p.tables e below (T21.setTop (mkF m 227 #[.val (.long q1), .second, .val (.int p2), .val (.int p3), .val (.int p4), .val (.ref b5), .val (.int (own_f p2)), .val (.int (own_to p2 p3)), .val (.int (own_bom v0 v1 v2)), .val (.int (0 : Int32))] [(.int (v1 &&& (255 : Int32)))])) _
            refine XS.sipush X21.here hx rfl (hb hby at_227) ?_
            show Steps p.tables e below (T21.setTop (mkF m 230 #[.val (.long q1), .second, .val (.int p2), .val (.int p3), .val (.int p4), .val (.ref b5), .val (.int (own_f p2)), .val (.int (own_to p2 p3)), .val (.int (own_bom v0 v1 v2)), .val (.int (0 : Int32))] [(.int (187 : Int32)), (.int (v1 &&& (255 : Int32)))])) _
            refine XS.icmpNo X21.here hx rfl (hb hby at_230) rfl (teq hc230).2 ?_
            show Steps p.tables e below (T21.setTop (mkF m 233 #[.val (.long q1), .second, .val (.int p2), .val (.int p3), .val (.int p4), .val (.ref b5), .val (.int (own_f p2)), .val (.int (own_to p2 p3)), .val (.int (own_bom v0 v1 v2)), .val (.int (0 : Int32))] [])) _
            refine XS.aload X21.here hx rfl (hb hby at_233) rfl rfl ?_
            show Steps p.tables e below (T21.setTop (mkF m 235 #[.val (.long q1), .second, .val (.int p2), .val (.int p3), .val (.int p4), .val (.ref b5), .val (.int (own_f p2)), .val (.int (own_to p2 p3)), .val (.int (own_bom v0 v1 v2)), .val (.int (0 : Int32))] [(.ref b5)])) _
            refine XS.iload X21.here hx rfl (hb hby at_235) rfl ?_
            show Steps p.tables e below (T21.setTop (mkF m 237 #[.val (.long q1), .second, .val (.int p2), .val (.int p3), .val (.int p4), .val (.ref b5), .val (.int (own_f p2)), .val (.int (own_to p2 p3)), .val (.int (own_bom v0 v1 v2)), .val (.int (0 : Int32))] [(.int (own_f p2)), (.ref b5)])) _
            refine XS.iconst X21.here hx rfl (hb hby at_237) ?_
            show Steps p.tables e below (T21.setTop (mkF m 238 #[.val (.long q1), .second, .val (.int p2), .val (.int p3), .val (.int p4), .val (.ref b5), .val (.int (own_f p2)), .val (.int (own_to p2 p3)), .val (.int (own_bom v0 v1 v2)), .val (.int (0 : Int32))] [(.int (2 : Int32)), (.int (own_f p2)), (.ref b5)])) _
            refine XS.iadd X21.here hx rfl (hb hby at_238) rfl ?_
            show Steps p.tables e below (T21.setTop (mkF m 239 #[.val (.long q1), .second, .val (.int p2), .val (.int p3), .val (.int p4), .val (.ref b5), .val (.int (own_f p2)), .val (.int (own_to p2 p3)), .val (.int (own_bom v0 v1 v2)), .val (.int (0 : Int32))] [(.int ((own_f p2) + (2 : Int32))), (.ref b5)])) _
            refine X21.baloadBytes hx (j := ((own_f p2) + (2 : Int32))) (v := (.int v2)) (by rw [q21]; exact Ar_b5.1) (State.isArrayOf_alike hZ.alike Ar_b5.2.1) Ar_b5.2.2 hin239 hat239 (g := (mkF m 239 #[.val (.long q1), .second, .val (.int p2), .val (.int p3), .val (.int p4), .val (.ref b5), .val (.int (own_f p2)), .val (.int (own_to p2 p3)), .val (.int (own_bom v0 v1 v2)), .val (.int (0 : Int32))] [(.int ((own_f p2) + (2 : Int32))), (.ref b5)])) rfl rfl (hb hby at_239) _ ?_
            show Steps p.tables e below (T21.setTop (mkF m 240 #[.val (.long q1), .second, .val (.int p2), .val (.int p3), .val (.int p4), .val (.ref b5), .val (.int (own_f p2)), .val (.int (own_to p2 p3)), .val (.int (own_bom v0 v1 v2)), .val (.int (0 : Int32))] [(.int v2)])) _
            refine st23 _ ?_
            show Steps p.tables e below (T23.setTop (mkF m 243 #[.val (.long q1), .second, .val (.int p2), .val (.int p3), .val (.int p4), .val (.ref b5), .val (.int (own_f p2)), .val (.int (own_to p2 p3)), .val (.int (own_bom v0 v1 v2)), .val (.int (0 : Int32))] [(.int (v2 &&& (255 : Int32)))])) _
            refine XS.sipush X23.here hx rfl (hb hby at_243) ?_
            show Steps p.tables e below (T23.setTop (mkF m 246 #[.val (.long q1), .second, .val (.int p2), .val (.int p3), .val (.int p4), .val (.ref b5), .val (.int (own_f p2)), .val (.int (own_to p2 p3)), .val (.int (own_bom v0 v1 v2)), .val (.int (0 : Int32))] [(.int (191 : Int32)), (.int (v2 &&& (255 : Int32)))])) _
            refine XS.icmpNo X23.here hx rfl (hb hby at_246) rfl (teq hc246).2 ?_
            show Steps p.tables e below (T23.setTop (mkF m 249 #[.val (.long q1), .second, .val (.int p2), .val (.int p3), .val (.int p4), .val (.ref b5), .val (.int (own_f p2)), .val (.int (own_to p2 p3)), .val (.int (own_bom v0 v1 v2)), .val (.int (0 : Int32))] [])) _
            refine XS.iconst X23.here hx rfl (hb hby at_249) ?_
            show Steps p.tables e below (T23.setTop (mkF m 250 #[.val (.long q1), .second, .val (.int p2), .val (.int p3), .val (.int p4), .val (.ref b5), .val (.int (own_f p2)), .val (.int (own_to p2 p3)), .val (.int (own_bom v0 v1 v2)), .val (.int (0 : Int32))] [(.int (3 : Int32))])) _
            refine XS.istore X23.here hx rfl (hb hby at_250) rfl (l' := #[.val (.long q1), .second, .val (.int p2), .val (.int p3), .val (.int p4), .val (.ref b5), .val (.int (own_f p2)), .val (.int (own_to p2 p3)), .val (.int (own_bom v0 v1 v2)), .val (.int (3 : Int32))]) rfl ?_
            show Steps p.tables e below (T23.setTop (mkF m 252 #[.val (.long q1), .second, .val (.int p2), .val (.int p3), .val (.int p4), .val (.ref b5), .val (.int (own_f p2)), .val (.int (own_to p2 p3)), .val (.int (own_bom v0 v1 v2)), .val (.int (3 : Int32))] [])) _
            refine XS.iload X23.here hx rfl (hb hby at_252) rfl ?_
            show Steps p.tables e below (T23.setTop (mkF m 254 #[.val (.long q1), .second, .val (.int p2), .val (.int p3), .val (.int p4), .val (.ref b5), .val (.int (own_f p2)), .val (.int (own_to p2 p3)), .val (.int (own_bom v0 v1 v2)), .val (.int (3 : Int32))] [(.int (own_bom v0 v1 v2))])) _
            refine XS.iload X23.here hx rfl (hb hby at_254) rfl ?_
            show Steps p.tables e below (T23.setTop (mkF m 256 #[.val (.long q1), .second, .val (.int p2), .val (.int p3), .val (.int p4), .val (.ref b5), .val (.int (own_f p2)), .val (.int (own_to p2 p3)), .val (.int (own_bom v0 v1 v2)), .val (.int (3 : Int32))] [(.int (3 : Int32)), (.int (own_bom v0 v1 v2))])) _
            refine XS.icmpNo X23.here hx rfl (hb hby at_256) rfl (teq hc256).2 ?_
            show Steps p.tables e below (T23.setTop (mkF m 259 #[.val (.long q1), .second, .val (.int p2), .val (.int p3), .val (.int p4), .val (.ref b5), .val (.int (own_f p2)), .val (.int (own_to p2 p3)), .val (.int (own_bom v0 v1 v2)), .val (.int (3 : Int32))] [])) _
            refine XS.iconst X23.here hx rfl (hb hby at_259) ?_
            show Steps p.tables e below (T23.setTop (mkF m 260 #[.val (.long q1), .second, .val (.int p2), .val (.int p3), .val (.int p4), .val (.ref b5), .val (.int (own_f p2)), .val (.int (own_to p2 p3)), .val (.int (own_bom v0 v1 v2)), .val (.int (3 : Int32))] [(.int (1 : Int32))])) _
            refine XS.goto X23.here hx rfl (pc0 := 260) (pc' := 264) rfl (hb hby at_260) (by decide) (by decide) ?_
            show Steps p.tables e below (T23.setTop (mkF m 264 #[.val (.long q1), .second, .val (.int p2), .val (.int p3), .val (.int p4), .val (.ref b5), .val (.int (own_f p2)), .val (.int (own_to p2 p3)), .val (.int (own_bom v0 v1 v2)), .val (.int (3 : Int32))] [(.int (1 : Int32))])) _
            exact retN X23 hx (t := .boolean) Bd.returns (by simp) (hb hby at_264) hr
          · show Q0 Z q1 p2 p3 p4 h0 n0 _ T23.heap _
            rw [q23]
            exact ⟨rfl, N23⟩
        · have hc256 : (own_bom v0 v1 v2) = (0 : Int32) := by unfold own_bom; rw [if_pos ((own_u v0 239 239 r0 rfl (by decide) (-17) rfl).mp hc214), if_pos ((own_u v1 187 187 r1 rfl (by decide) (-69) rfl).mp hc230), if_neg (fun q => hc246 ((own_u v2 191 191 r2 rfl (by decide) (-65) rfl).mpr q))]
          obtain ⟨_, _, ⟨T17, L17, k17, n17⟩, -, X17, ⟨Lc17, hQ17, l17, y17, z17⟩, st17⟩ := Jvm.LawKit.callS X16 hx (y := (⟨"dev/changeline/envelope/Utf8", "byteOrderMarkLength", "([BII)I"⟩ : MethodName)) hown (mvT hZ (hw _ (List.mem_of_getElem? (i := 2) rfl))) (mvT hZ (hw _ (List.mem_of_getElem? (i := 3) rfl))) (mvT hZ (hw _ (List.mem_of_getElem? (i := 4) rfl))) (mvT hZ (hw _ (List.mem_of_getElem? (i := 5) rfl))) (by decide) (backOf (W := 0) (rm1 l Z a0 hw [] b5 (own_f p2) (own_to p2 p3) v0 cB v1 v2 h16 n0 Zs Ar_b5 hin207 hat207 hin223 hat223 hin239 hat239 hc200) hZ (hw _ (List.mem_of_getElem? (i := 5) rfl)) (hw _ (List.mem_of_getElem? (i := 4) rfl)) (by decide) (by decide)) (g := (mkF m 186 #[.val (.long q1), .second, .val (.int p2), .val (.int p3), .val (.int p4), .val (.ref b5), .val (.int (own_f p2)), .val (.int (own_to p2 p3)), .unset, .unset] [(.int (own_to p2 p3)), (.int (own_f p2)), (.ref b5)])) rfl (by rw [hml]; rfl) (argsL := [(.ref b5), (.int (own_f p2)), (.int (own_to p2 p3))]) (rest := []) (lenOf pd_0_0 rfl) rfl (by show 2 * 0 + _ ≤ _; exact Nat.le_of_eq rfl) (hb hby at_186) (fun _ _ => ⟨rfl, e16, (by decide : 1 + 0 ≤ _), (by decide : 8 + 0 ≤ _)⟩)
          dsimp only [Pt.U, Pt.locs, Pt.cells, Pt.slots] at X17 l17 y17 z17 st17 hQ17
          subst l17 y17 z17
          obtain ⟨rfl, N17q, q17⟩ := hQ17      -- what it returned, that it wrote nothing old, and the rest of your Q1
          have N17 := Fr.app N16 N17q
          -- pc 207: the array at b5: open its fact V_b5 (as at a store): Ar : Arr Z h16 b5 cl <kind>; hin207 : the place is inside; hat207 : cl.slots[place]? = some (.int v0)
          -- pc 208: dev/changeline/envelope/Utf8ByteOrderMarkLengthPinLaw.u by its contract rm2
          obtain ⟨_, _, ⟨T19, L19, k19, n19⟩, -, X19, ⟨Lc19, hQ19, l19, y19, z19⟩, st19⟩ := Jvm.LawKit.callS X17 hx (y := (⟨"dev/changeline/envelope/Utf8ByteOrderMarkLengthPinLaw", "u", "(B)I"⟩ : MethodName)) hown (mvT hZ (hw _ (List.mem_of_getElem? (i := 6) rfl))) (mvT hZ (hw _ (List.mem_of_getElem? (i := 7) rfl))) (mvT hZ (hw _ (List.mem_of_getElem? (i := 8) rfl))) (mvT hZ (hw _ (List.mem_of_getElem? (i := 9) rfl))) (by decide) (backOf (W := 0) (rm2 l Z a0 hw [] v0  h16 n0 Zs) hZ (hw _ (List.mem_of_getElem? (i := 9) rfl)) (hw _ (List.mem_of_getElem? (i := 8) rfl)) (by decide) (by decide)) (g := (mkF m 208 #[.val (.long q1), .second, .val (.int p2), .val (.int p3), .val (.int p4), .val (.ref b5), .val (.int (own_f p2)), .val (.int (own_to p2 p3)), .val (.int (own_bom v0 v1 v2)), .val (.int (0 : Int32))] [(.int v0)])) rfl (by rw [hml]; rfl) (argsL := [(.int v0)]) (rest := []) (lenOf pd_0_1 rfl) rfl (by show 2 * 0 + _ ≤ _; exact Nat.le_of_eq rfl) (hb hby at_208) (fun _ _ => ⟨rfl, q17, (by decide : 1 + 0 ≤ _), (by decide : 8 + 0 ≤ _)⟩)
          dsimp only [Pt.U, Pt.locs, Pt.cells, Pt.slots] at X19 l19 y19 z19 st19 hQ19
          subst l19 y19 z19
          obtain ⟨rfl, N19q, q19⟩ := hQ19      -- what it returned, that it wrote nothing old, and the rest of your Q2
          have N19 := Fr.app N17 N19q
          -- pc 223: the array at b5: open its fact V_b5 (as at a store): Ar : Arr Z h16 b5 cl <kind>; hin223 : the place is inside; hat223 : cl.slots[place]? = some (.int v1)
          -- pc 224: dev/changeline/envelope/Utf8ByteOrderMarkLengthPinLaw.u by its contract rm2
          obtain ⟨_, _, ⟨T21, L21, k21, n21⟩, -, X21, ⟨Lc21, hQ21, l21, y21, z21⟩, st21⟩ := Jvm.LawKit.callS X19 hx (y := (⟨"dev/changeline/envelope/Utf8ByteOrderMarkLengthPinLaw", "u", "(B)I"⟩ : MethodName)) hown (mvT hZ (hw _ (List.mem_of_getElem? (i := 6) rfl))) (mvT hZ (hw _ (List.mem_of_getElem? (i := 7) rfl))) (mvT hZ (hw _ (List.mem_of_getElem? (i := 8) rfl))) (mvT hZ (hw _ (List.mem_of_getElem? (i := 9) rfl))) (by decide) (backOf (W := 0) (rm2 l Z a0 hw [] v1  h16 n0 Zs) hZ (hw _ (List.mem_of_getElem? (i := 9) rfl)) (hw _ (List.mem_of_getElem? (i := 8) rfl)) (by decide) (by decide)) (g := (mkF m 224 #[.val (.long q1), .second, .val (.int p2), .val (.int p3), .val (.int p4), .val (.ref b5), .val (.int (own_f p2)), .val (.int (own_to p2 p3)), .val (.int (own_bom v0 v1 v2)), .val (.int (0 : Int32))] [(.int v1)])) rfl (by rw [hml]; rfl) (argsL := [(.int v1)]) (rest := []) (lenOf pd_0_1 rfl) rfl (by show 2 * 0 + _ ≤ _; exact Nat.le_of_eq rfl) (hb hby at_224) (fun _ _ => ⟨rfl, q19, (by decide : 1 + 0 ≤ _), (by decide : 8 + 0 ≤ _)⟩)
          dsimp only [Pt.U, Pt.locs, Pt.cells, Pt.slots] at X21 l21 y21 z21 st21 hQ21
          subst l21 y21 z21
          obtain ⟨rfl, N21q, q21⟩ := hQ21      -- what it returned, that it wrote nothing old, and the rest of your Q2
          have N21 := Fr.app N19 N21q
          -- pc 239: the array at b5: open its fact V_b5 (as at a store): Ar : Arr Z h16 b5 cl <kind>; hin239 : the place is inside; hat239 : cl.slots[place]? = some (.int v2)
          -- pc 240: dev/changeline/envelope/Utf8ByteOrderMarkLengthPinLaw.u by its contract rm2
          obtain ⟨_, _, ⟨T23, L23, k23, n23⟩, -, X23, ⟨Lc23, hQ23, l23, y23, z23⟩, st23⟩ := Jvm.LawKit.callS X21 hx (y := (⟨"dev/changeline/envelope/Utf8ByteOrderMarkLengthPinLaw", "u", "(B)I"⟩ : MethodName)) hown (mvT hZ (hw _ (List.mem_of_getElem? (i := 6) rfl))) (mvT hZ (hw _ (List.mem_of_getElem? (i := 7) rfl))) (mvT hZ (hw _ (List.mem_of_getElem? (i := 8) rfl))) (mvT hZ (hw _ (List.mem_of_getElem? (i := 9) rfl))) (by decide) (backOf (W := 0) (rm2 l Z a0 hw [] v2  h16 n0 Zs) hZ (hw _ (List.mem_of_getElem? (i := 9) rfl)) (hw _ (List.mem_of_getElem? (i := 8) rfl)) (by decide) (by decide)) (g := (mkF m 240 #[.val (.long q1), .second, .val (.int p2), .val (.int p3), .val (.int p4), .val (.ref b5), .val (.int (own_f p2)), .val (.int (own_to p2 p3)), .val (.int (own_bom v0 v1 v2)), .val (.int (0 : Int32))] [(.int v2)])) rfl (by rw [hml]; rfl) (argsL := [(.int v2)]) (rest := []) (lenOf pd_0_1 rfl) rfl (by show 2 * 0 + _ ≤ _; exact Nat.le_of_eq rfl) (hb hby at_240) (fun _ _ => ⟨rfl, q21, (by decide : 1 + 0 ≤ _), (by decide : 8 + 0 ≤ _)⟩)
          dsimp only [Pt.U, Pt.locs, Pt.cells, Pt.slots] at X23 l23 y23 z23 st23 hQ23
          subst l23 y23 z23
          obtain ⟨rfl, N23q, q23⟩ := hQ23      -- what it returned, that it wrote nothing old, and the rest of your Q2
          have N23 := Fr.app N21 N23q
          obtain ⟨fs, hr, hrun, hended, hW, hsame⟩ := X23.leave (v := some (.int (1 : Int32))) (fun h => by rw [Bd.returns] at h; cases h)
          refine ⟨_, _, preX _ ?_, hrun, hended, _, _, rfl, ?_, ⟨_, rfl⟩, hW, hsame.mono (by decide) (by decide)⟩
          · show Steps p.tables e below (T16.setTop (mkF m 180 #[.val (.long q1), .second, .val (.int p2), .val (.int p3), .val (.int p4), .val (.ref b5), .val (.int (own_f p2)), .val (.int (own_to p2 p3)), .unset, .unset] [])) _
            show Steps p.tables e below (T16.setTop (mkF m 180 #[.val (.long q1), .second, .val (.int p2), .val (.int p3), .val (.int p4), .val (.ref b5), .val (.int (own_f p2)), .val (.int (own_to p2 p3)), .unset, .unset] [])) _
            refine XS.aload X16.here hx rfl (hb hby at_180) rfl rfl ?_
            show Steps p.tables e below (T16.setTop (mkF m 182 #[.val (.long q1), .second, .val (.int p2), .val (.int p3), .val (.int p4), .val (.ref b5), .val (.int (own_f p2)), .val (.int (own_to p2 p3)), .unset, .unset] [(.ref b5)])) _
            refine XS.iload X16.here hx rfl (hb hby at_182) rfl ?_
            show Steps p.tables e below (T16.setTop (mkF m 184 #[.val (.long q1), .second, .val (.int p2), .val (.int p3), .val (.int p4), .val (.ref b5), .val (.int (own_f p2)), .val (.int (own_to p2 p3)), .unset, .unset] [(.int (own_f p2)), (.ref b5)])) _
            refine XS.iload X16.here hx rfl (hb hby at_184) rfl ?_
            show Steps p.tables e below (T16.setTop (mkF m 186 #[.val (.long q1), .second, .val (.int p2), .val (.int p3), .val (.int p4), .val (.ref b5), .val (.int (own_f p2)), .val (.int (own_to p2 p3)), .unset, .unset] [(.int (own_to p2 p3)), (.int (own_f p2)), (.ref b5)])) _
            refine st17 _ ?_
            show Steps p.tables e below (T17.setTop (mkF m 189 #[.val (.long q1), .second, .val (.int p2), .val (.int p3), .val (.int p4), .val (.ref b5), .val (.int (own_f p2)), .val (.int (own_to p2 p3)), .unset, .unset] [(.int (own_bom v0 v1 v2))])) _
            refine XS.istore X17.here hx rfl (hb hby at_189) rfl (l' := #[.val (.long q1), .second, .val (.int p2), .val (.int p3), .val (.int p4), .val (.ref b5), .val (.int (own_f p2)), .val (.int (own_to p2 p3)), .val (.int (own_bom v0 v1 v2)), .unset]) rfl ?_
            show Steps p.tables e below (T17.setTop (mkF m 191 #[.val (.long q1), .second, .val (.int p2), .val (.int p3), .val (.int p4), .val (.ref b5), .val (.int (own_f p2)), .val (.int (own_to p2 p3)), .val (.int (own_bom v0 v1 v2)), .unset] [])) _
            refine XS.iconst X17.here hx rfl (hb hby at_191) ?_
            show Steps p.tables e below (T17.setTop (mkF m 192 #[.val (.long q1), .second, .val (.int p2), .val (.int p3), .val (.int p4), .val (.ref b5), .val (.int (own_f p2)), .val (.int (own_to p2 p3)), .val (.int (own_bom v0 v1 v2)), .unset] [(.int (0 : Int32))])) _
            refine XS.istore X17.here hx rfl (hb hby at_192) rfl (l' := #[.val (.long q1), .second, .val (.int p2), .val (.int p3), .val (.int p4), .val (.ref b5), .val (.int (own_f p2)), .val (.int (own_to p2 p3)), .val (.int (own_bom v0 v1 v2)), .val (.int (0 : Int32))]) rfl ?_
            show Steps p.tables e below (T17.setTop (mkF m 194 #[.val (.long q1), .second, .val (.int p2), .val (.int p3), .val (.int p4), .val (.ref b5), .val (.int (own_f p2)), .val (.int (own_to p2 p3)), .val (.int (own_bom v0 v1 v2)), .val (.int (0 : Int32))] [])) _
            refine XS.iload X17.here hx rfl (hb hby at_194) rfl ?_
            show Steps p.tables e below (T17.setTop (mkF m 196 #[.val (.long q1), .second, .val (.int p2), .val (.int p3), .val (.int p4), .val (.ref b5), .val (.int (own_f p2)), .val (.int (own_to p2 p3)), .val (.int (own_bom v0 v1 v2)), .val (.int (0 : Int32))] [(.int (own_to p2 p3))])) _
            refine XS.iload X17.here hx rfl (hb hby at_196) rfl ?_
            show Steps p.tables e below (T17.setTop (mkF m 198 #[.val (.long q1), .second, .val (.int p2), .val (.int p3), .val (.int p4), .val (.ref b5), .val (.int (own_f p2)), .val (.int (own_to p2 p3)), .val (.int (own_bom v0 v1 v2)), .val (.int (0 : Int32))] [(.int (own_f p2)), (.int (own_to p2 p3))])) _
            refine XS.isub X17.here hx rfl (hb hby at_198) rfl ?_
            show Steps p.tables e below (T17.setTop (mkF m 199 #[.val (.long q1), .second, .val (.int p2), .val (.int p3), .val (.int p4), .val (.ref b5), .val (.int (own_f p2)), .val (.int (own_to p2 p3)), .val (.int (own_bom v0 v1 v2)), .val (.int (0 : Int32))] [(.int ((own_to p2 p3) - (own_f p2)))])) _
            refine XS.iconst X17.here hx rfl (hb hby at_199) ?_
            show Steps p.tables e below (T17.setTop (mkF m 200 #[.val (.long q1), .second, .val (.int p2), .val (.int p3), .val (.int p4), .val (.ref b5), .val (.int (own_f p2)), .val (.int (own_to p2 p3)), .val (.int (own_bom v0 v1 v2)), .val (.int (0 : Int32))] [(.int (3 : Int32)), (.int ((own_to p2 p3) - (own_f p2)))])) _
            refine XS.icmpNo X17.here hx rfl (hb hby at_200) rfl (flt hc200).1 ?_
            show Steps p.tables e below (T17.setTop (mkF m 203 #[.val (.long q1), .second, .val (.int p2), .val (.int p3), .val (.int p4), .val (.ref b5), .val (.int (own_f p2)), .val (.int (own_to p2 p3)), .val (.int (own_bom v0 v1 v2)), .val (.int (0 : Int32))] [])) _
            refine XS.aload X17.here hx rfl (hb hby at_203) rfl rfl ?_
            show Steps p.tables e below (T17.setTop (mkF m 205 #[.val (.long q1), .second, .val (.int p2), .val (.int p3), .val (.int p4), .val (.ref b5), .val (.int (own_f p2)), .val (.int (own_to p2 p3)), .val (.int (own_bom v0 v1 v2)), .val (.int (0 : Int32))] [(.ref b5)])) _
            refine XS.iload X17.here hx rfl (hb hby at_205) rfl ?_
            show Steps p.tables e below (T17.setTop (mkF m 207 #[.val (.long q1), .second, .val (.int p2), .val (.int p3), .val (.int p4), .val (.ref b5), .val (.int (own_f p2)), .val (.int (own_to p2 p3)), .val (.int (own_bom v0 v1 v2)), .val (.int (0 : Int32))] [(.int (own_f p2)), (.ref b5)])) _
            refine X17.baloadBytes hx (j := (own_f p2)) (v := (.int v0)) (by rw [q17]; exact Ar_b5.1) (State.isArrayOf_alike hZ.alike Ar_b5.2.1) Ar_b5.2.2 hin207 hat207 (g := (mkF m 207 #[.val (.long q1), .second, .val (.int p2), .val (.int p3), .val (.int p4), .val (.ref b5), .val (.int (own_f p2)), .val (.int (own_to p2 p3)), .val (.int (own_bom v0 v1 v2)), .val (.int (0 : Int32))] [(.int (own_f p2)), (.ref b5)])) rfl rfl (hb hby at_207) _ ?_
            show Steps p.tables e below (T17.setTop (mkF m 208 #[.val (.long q1), .second, .val (.int p2), .val (.int p3), .val (.int p4), .val (.ref b5), .val (.int (own_f p2)), .val (.int (own_to p2 p3)), .val (.int (own_bom v0 v1 v2)), .val (.int (0 : Int32))] [(.int v0)])) _
            refine st19 _ ?_
            show Steps p.tables e below (T19.setTop (mkF m 211 #[.val (.long q1), .second, .val (.int p2), .val (.int p3), .val (.int p4), .val (.ref b5), .val (.int (own_f p2)), .val (.int (own_to p2 p3)), .val (.int (own_bom v0 v1 v2)), .val (.int (0 : Int32))] [(.int (v0 &&& (255 : Int32)))])) _
            refine XS.sipush X19.here hx rfl (hb hby at_211) ?_
            show Steps p.tables e below (T19.setTop (mkF m 214 #[.val (.long q1), .second, .val (.int p2), .val (.int p3), .val (.int p4), .val (.ref b5), .val (.int (own_f p2)), .val (.int (own_to p2 p3)), .val (.int (own_bom v0 v1 v2)), .val (.int (0 : Int32))] [(.int (239 : Int32)), (.int (v0 &&& (255 : Int32)))])) _
            refine XS.icmpNo X19.here hx rfl (hb hby at_214) rfl (teq hc214).2 ?_
            show Steps p.tables e below (T19.setTop (mkF m 217 #[.val (.long q1), .second, .val (.int p2), .val (.int p3), .val (.int p4), .val (.ref b5), .val (.int (own_f p2)), .val (.int (own_to p2 p3)), .val (.int (own_bom v0 v1 v2)), .val (.int (0 : Int32))] [])) _
            refine XS.aload X19.here hx rfl (hb hby at_217) rfl rfl ?_
            show Steps p.tables e below (T19.setTop (mkF m 219 #[.val (.long q1), .second, .val (.int p2), .val (.int p3), .val (.int p4), .val (.ref b5), .val (.int (own_f p2)), .val (.int (own_to p2 p3)), .val (.int (own_bom v0 v1 v2)), .val (.int (0 : Int32))] [(.ref b5)])) _
            refine XS.iload X19.here hx rfl (hb hby at_219) rfl ?_
            show Steps p.tables e below (T19.setTop (mkF m 221 #[.val (.long q1), .second, .val (.int p2), .val (.int p3), .val (.int p4), .val (.ref b5), .val (.int (own_f p2)), .val (.int (own_to p2 p3)), .val (.int (own_bom v0 v1 v2)), .val (.int (0 : Int32))] [(.int (own_f p2)), (.ref b5)])) _
            refine XS.iconst X19.here hx rfl (hb hby at_221) ?_
            show Steps p.tables e below (T19.setTop (mkF m 222 #[.val (.long q1), .second, .val (.int p2), .val (.int p3), .val (.int p4), .val (.ref b5), .val (.int (own_f p2)), .val (.int (own_to p2 p3)), .val (.int (own_bom v0 v1 v2)), .val (.int (0 : Int32))] [(.int (1 : Int32)), (.int (own_f p2)), (.ref b5)])) _
            refine XS.iadd X19.here hx rfl (hb hby at_222) rfl ?_
            show Steps p.tables e below (T19.setTop (mkF m 223 #[.val (.long q1), .second, .val (.int p2), .val (.int p3), .val (.int p4), .val (.ref b5), .val (.int (own_f p2)), .val (.int (own_to p2 p3)), .val (.int (own_bom v0 v1 v2)), .val (.int (0 : Int32))] [(.int ((own_f p2) + (1 : Int32))), (.ref b5)])) _
            refine X19.baloadBytes hx (j := ((own_f p2) + (1 : Int32))) (v := (.int v1)) (by rw [q19]; exact Ar_b5.1) (State.isArrayOf_alike hZ.alike Ar_b5.2.1) Ar_b5.2.2 hin223 hat223 (g := (mkF m 223 #[.val (.long q1), .second, .val (.int p2), .val (.int p3), .val (.int p4), .val (.ref b5), .val (.int (own_f p2)), .val (.int (own_to p2 p3)), .val (.int (own_bom v0 v1 v2)), .val (.int (0 : Int32))] [(.int ((own_f p2) + (1 : Int32))), (.ref b5)])) rfl rfl (hb hby at_223) _ ?_
            show Steps p.tables e below (T19.setTop (mkF m 224 #[.val (.long q1), .second, .val (.int p2), .val (.int p3), .val (.int p4), .val (.ref b5), .val (.int (own_f p2)), .val (.int (own_to p2 p3)), .val (.int (own_bom v0 v1 v2)), .val (.int (0 : Int32))] [(.int v1)])) _
            refine st21 _ ?_
            show Steps p.tables e below (T21.setTop (mkF m 227 #[.val (.long q1), .second, .val (.int p2), .val (.int p3), .val (.int p4), .val (.ref b5), .val (.int (own_f p2)), .val (.int (own_to p2 p3)), .val (.int (own_bom v0 v1 v2)), .val (.int (0 : Int32))] [(.int (v1 &&& (255 : Int32)))])) _
            refine XS.sipush X21.here hx rfl (hb hby at_227) ?_
            show Steps p.tables e below (T21.setTop (mkF m 230 #[.val (.long q1), .second, .val (.int p2), .val (.int p3), .val (.int p4), .val (.ref b5), .val (.int (own_f p2)), .val (.int (own_to p2 p3)), .val (.int (own_bom v0 v1 v2)), .val (.int (0 : Int32))] [(.int (187 : Int32)), (.int (v1 &&& (255 : Int32)))])) _
            refine XS.icmpNo X21.here hx rfl (hb hby at_230) rfl (teq hc230).2 ?_
            show Steps p.tables e below (T21.setTop (mkF m 233 #[.val (.long q1), .second, .val (.int p2), .val (.int p3), .val (.int p4), .val (.ref b5), .val (.int (own_f p2)), .val (.int (own_to p2 p3)), .val (.int (own_bom v0 v1 v2)), .val (.int (0 : Int32))] [])) _
            refine XS.aload X21.here hx rfl (hb hby at_233) rfl rfl ?_
            show Steps p.tables e below (T21.setTop (mkF m 235 #[.val (.long q1), .second, .val (.int p2), .val (.int p3), .val (.int p4), .val (.ref b5), .val (.int (own_f p2)), .val (.int (own_to p2 p3)), .val (.int (own_bom v0 v1 v2)), .val (.int (0 : Int32))] [(.ref b5)])) _
            refine XS.iload X21.here hx rfl (hb hby at_235) rfl ?_
            show Steps p.tables e below (T21.setTop (mkF m 237 #[.val (.long q1), .second, .val (.int p2), .val (.int p3), .val (.int p4), .val (.ref b5), .val (.int (own_f p2)), .val (.int (own_to p2 p3)), .val (.int (own_bom v0 v1 v2)), .val (.int (0 : Int32))] [(.int (own_f p2)), (.ref b5)])) _
            refine XS.iconst X21.here hx rfl (hb hby at_237) ?_
            show Steps p.tables e below (T21.setTop (mkF m 238 #[.val (.long q1), .second, .val (.int p2), .val (.int p3), .val (.int p4), .val (.ref b5), .val (.int (own_f p2)), .val (.int (own_to p2 p3)), .val (.int (own_bom v0 v1 v2)), .val (.int (0 : Int32))] [(.int (2 : Int32)), (.int (own_f p2)), (.ref b5)])) _
            refine XS.iadd X21.here hx rfl (hb hby at_238) rfl ?_
            show Steps p.tables e below (T21.setTop (mkF m 239 #[.val (.long q1), .second, .val (.int p2), .val (.int p3), .val (.int p4), .val (.ref b5), .val (.int (own_f p2)), .val (.int (own_to p2 p3)), .val (.int (own_bom v0 v1 v2)), .val (.int (0 : Int32))] [(.int ((own_f p2) + (2 : Int32))), (.ref b5)])) _
            refine X21.baloadBytes hx (j := ((own_f p2) + (2 : Int32))) (v := (.int v2)) (by rw [q21]; exact Ar_b5.1) (State.isArrayOf_alike hZ.alike Ar_b5.2.1) Ar_b5.2.2 hin239 hat239 (g := (mkF m 239 #[.val (.long q1), .second, .val (.int p2), .val (.int p3), .val (.int p4), .val (.ref b5), .val (.int (own_f p2)), .val (.int (own_to p2 p3)), .val (.int (own_bom v0 v1 v2)), .val (.int (0 : Int32))] [(.int ((own_f p2) + (2 : Int32))), (.ref b5)])) rfl rfl (hb hby at_239) _ ?_
            show Steps p.tables e below (T21.setTop (mkF m 240 #[.val (.long q1), .second, .val (.int p2), .val (.int p3), .val (.int p4), .val (.ref b5), .val (.int (own_f p2)), .val (.int (own_to p2 p3)), .val (.int (own_bom v0 v1 v2)), .val (.int (0 : Int32))] [(.int v2)])) _
            refine st23 _ ?_
            show Steps p.tables e below (T23.setTop (mkF m 243 #[.val (.long q1), .second, .val (.int p2), .val (.int p3), .val (.int p4), .val (.ref b5), .val (.int (own_f p2)), .val (.int (own_to p2 p3)), .val (.int (own_bom v0 v1 v2)), .val (.int (0 : Int32))] [(.int (v2 &&& (255 : Int32)))])) _
            refine XS.sipush X23.here hx rfl (hb hby at_243) ?_
            show Steps p.tables e below (T23.setTop (mkF m 246 #[.val (.long q1), .second, .val (.int p2), .val (.int p3), .val (.int p4), .val (.ref b5), .val (.int (own_f p2)), .val (.int (own_to p2 p3)), .val (.int (own_bom v0 v1 v2)), .val (.int (0 : Int32))] [(.int (191 : Int32)), (.int (v2 &&& (255 : Int32)))])) _
            refine XS.icmpYes X23.here hx rfl (pc0 := 246) (pc' := 252) rfl (hb hby at_246) rfl (feq hc246).2 (by decide) (by decide) ?_
            show Steps p.tables e below (T23.setTop (mkF m 252 #[.val (.long q1), .second, .val (.int p2), .val (.int p3), .val (.int p4), .val (.ref b5), .val (.int (own_f p2)), .val (.int (own_to p2 p3)), .val (.int (own_bom v0 v1 v2)), .val (.int (0 : Int32))] [])) _
            refine XS.iload X23.here hx rfl (hb hby at_252) rfl ?_
            show Steps p.tables e below (T23.setTop (mkF m 254 #[.val (.long q1), .second, .val (.int p2), .val (.int p3), .val (.int p4), .val (.ref b5), .val (.int (own_f p2)), .val (.int (own_to p2 p3)), .val (.int (own_bom v0 v1 v2)), .val (.int (0 : Int32))] [(.int (own_bom v0 v1 v2))])) _
            refine XS.iload X23.here hx rfl (hb hby at_254) rfl ?_
            show Steps p.tables e below (T23.setTop (mkF m 256 #[.val (.long q1), .second, .val (.int p2), .val (.int p3), .val (.int p4), .val (.ref b5), .val (.int (own_f p2)), .val (.int (own_to p2 p3)), .val (.int (own_bom v0 v1 v2)), .val (.int (0 : Int32))] [(.int (0 : Int32)), (.int (own_bom v0 v1 v2))])) _
            refine XS.icmpNo X23.here hx rfl (hb hby at_256) rfl (teq hc256).2 ?_
            show Steps p.tables e below (T23.setTop (mkF m 259 #[.val (.long q1), .second, .val (.int p2), .val (.int p3), .val (.int p4), .val (.ref b5), .val (.int (own_f p2)), .val (.int (own_to p2 p3)), .val (.int (own_bom v0 v1 v2)), .val (.int (0 : Int32))] [])) _
            refine XS.iconst X23.here hx rfl (hb hby at_259) ?_
            show Steps p.tables e below (T23.setTop (mkF m 260 #[.val (.long q1), .second, .val (.int p2), .val (.int p3), .val (.int p4), .val (.ref b5), .val (.int (own_f p2)), .val (.int (own_to p2 p3)), .val (.int (own_bom v0 v1 v2)), .val (.int (0 : Int32))] [(.int (1 : Int32))])) _
            refine XS.goto X23.here hx rfl (pc0 := 260) (pc' := 264) rfl (hb hby at_260) (by decide) (by decide) ?_
            show Steps p.tables e below (T23.setTop (mkF m 264 #[.val (.long q1), .second, .val (.int p2), .val (.int p3), .val (.int p4), .val (.ref b5), .val (.int (own_f p2)), .val (.int (own_to p2 p3)), .val (.int (own_bom v0 v1 v2)), .val (.int (0 : Int32))] [(.int (1 : Int32))])) _
            exact retN X23 hx (t := .boolean) Bd.returns (by simp) (hb hby at_264) hr
          · show Q0 Z q1 p2 p3 p4 h0 n0 _ T23.heap _
            rw [q23]
            exact ⟨rfl, N23⟩
      · have hc256 : (own_bom v0 v1 v2) = (0 : Int32) := by unfold own_bom; rw [if_pos ((own_u v0 239 239 r0 rfl (by decide) (-17) rfl).mp hc214), if_neg (fun q => hc230 ((own_u v1 187 187 r1 rfl (by decide) (-69) rfl).mpr q))]
        obtain ⟨_, _, ⟨T17, L17, k17, n17⟩, -, X17, ⟨Lc17, hQ17, l17, y17, z17⟩, st17⟩ := Jvm.LawKit.callS X16 hx (y := (⟨"dev/changeline/envelope/Utf8", "byteOrderMarkLength", "([BII)I"⟩ : MethodName)) hown (mvT hZ (hw _ (List.mem_of_getElem? (i := 2) rfl))) (mvT hZ (hw _ (List.mem_of_getElem? (i := 3) rfl))) (mvT hZ (hw _ (List.mem_of_getElem? (i := 4) rfl))) (mvT hZ (hw _ (List.mem_of_getElem? (i := 5) rfl))) (by decide) (backOf (W := 0) (rm1 l Z a0 hw [] b5 (own_f p2) (own_to p2 p3) v0 cB v1 v2 h16 n0 Zs Ar_b5 hin207 hat207 hin223 hat223 hin239 hat239 hc200) hZ (hw _ (List.mem_of_getElem? (i := 5) rfl)) (hw _ (List.mem_of_getElem? (i := 4) rfl)) (by decide) (by decide)) (g := (mkF m 186 #[.val (.long q1), .second, .val (.int p2), .val (.int p3), .val (.int p4), .val (.ref b5), .val (.int (own_f p2)), .val (.int (own_to p2 p3)), .unset, .unset] [(.int (own_to p2 p3)), (.int (own_f p2)), (.ref b5)])) rfl (by rw [hml]; rfl) (argsL := [(.ref b5), (.int (own_f p2)), (.int (own_to p2 p3))]) (rest := []) (lenOf pd_0_0 rfl) rfl (by show 2 * 0 + _ ≤ _; exact Nat.le_of_eq rfl) (hb hby at_186) (fun _ _ => ⟨rfl, e16, (by decide : 1 + 0 ≤ _), (by decide : 8 + 0 ≤ _)⟩)
        dsimp only [Pt.U, Pt.locs, Pt.cells, Pt.slots] at X17 l17 y17 z17 st17 hQ17
        subst l17 y17 z17
        obtain ⟨rfl, N17q, q17⟩ := hQ17      -- what it returned, that it wrote nothing old, and the rest of your Q1
        have N17 := Fr.app N16 N17q
        -- pc 207: the array at b5: open its fact V_b5 (as at a store): Ar : Arr Z h16 b5 cl <kind>; hin207 : the place is inside; hat207 : cl.slots[place]? = some (.int v0)
        -- pc 208: dev/changeline/envelope/Utf8ByteOrderMarkLengthPinLaw.u by its contract rm2
        obtain ⟨_, _, ⟨T19, L19, k19, n19⟩, -, X19, ⟨Lc19, hQ19, l19, y19, z19⟩, st19⟩ := Jvm.LawKit.callS X17 hx (y := (⟨"dev/changeline/envelope/Utf8ByteOrderMarkLengthPinLaw", "u", "(B)I"⟩ : MethodName)) hown (mvT hZ (hw _ (List.mem_of_getElem? (i := 6) rfl))) (mvT hZ (hw _ (List.mem_of_getElem? (i := 7) rfl))) (mvT hZ (hw _ (List.mem_of_getElem? (i := 8) rfl))) (mvT hZ (hw _ (List.mem_of_getElem? (i := 9) rfl))) (by decide) (backOf (W := 0) (rm2 l Z a0 hw [] v0  h16 n0 Zs) hZ (hw _ (List.mem_of_getElem? (i := 9) rfl)) (hw _ (List.mem_of_getElem? (i := 8) rfl)) (by decide) (by decide)) (g := (mkF m 208 #[.val (.long q1), .second, .val (.int p2), .val (.int p3), .val (.int p4), .val (.ref b5), .val (.int (own_f p2)), .val (.int (own_to p2 p3)), .val (.int (own_bom v0 v1 v2)), .val (.int (0 : Int32))] [(.int v0)])) rfl (by rw [hml]; rfl) (argsL := [(.int v0)]) (rest := []) (lenOf pd_0_1 rfl) rfl (by show 2 * 0 + _ ≤ _; exact Nat.le_of_eq rfl) (hb hby at_208) (fun _ _ => ⟨rfl, q17, (by decide : 1 + 0 ≤ _), (by decide : 8 + 0 ≤ _)⟩)
        dsimp only [Pt.U, Pt.locs, Pt.cells, Pt.slots] at X19 l19 y19 z19 st19 hQ19
        subst l19 y19 z19
        obtain ⟨rfl, N19q, q19⟩ := hQ19      -- what it returned, that it wrote nothing old, and the rest of your Q2
        have N19 := Fr.app N17 N19q
        -- pc 223: the array at b5: open its fact V_b5 (as at a store): Ar : Arr Z h16 b5 cl <kind>; hin223 : the place is inside; hat223 : cl.slots[place]? = some (.int v1)
        -- pc 224: dev/changeline/envelope/Utf8ByteOrderMarkLengthPinLaw.u by its contract rm2
        obtain ⟨_, _, ⟨T21, L21, k21, n21⟩, -, X21, ⟨Lc21, hQ21, l21, y21, z21⟩, st21⟩ := Jvm.LawKit.callS X19 hx (y := (⟨"dev/changeline/envelope/Utf8ByteOrderMarkLengthPinLaw", "u", "(B)I"⟩ : MethodName)) hown (mvT hZ (hw _ (List.mem_of_getElem? (i := 6) rfl))) (mvT hZ (hw _ (List.mem_of_getElem? (i := 7) rfl))) (mvT hZ (hw _ (List.mem_of_getElem? (i := 8) rfl))) (mvT hZ (hw _ (List.mem_of_getElem? (i := 9) rfl))) (by decide) (backOf (W := 0) (rm2 l Z a0 hw [] v1  h16 n0 Zs) hZ (hw _ (List.mem_of_getElem? (i := 9) rfl)) (hw _ (List.mem_of_getElem? (i := 8) rfl)) (by decide) (by decide)) (g := (mkF m 224 #[.val (.long q1), .second, .val (.int p2), .val (.int p3), .val (.int p4), .val (.ref b5), .val (.int (own_f p2)), .val (.int (own_to p2 p3)), .val (.int (own_bom v0 v1 v2)), .val (.int (0 : Int32))] [(.int v1)])) rfl (by rw [hml]; rfl) (argsL := [(.int v1)]) (rest := []) (lenOf pd_0_1 rfl) rfl (by show 2 * 0 + _ ≤ _; exact Nat.le_of_eq rfl) (hb hby at_224) (fun _ _ => ⟨rfl, q19, (by decide : 1 + 0 ≤ _), (by decide : 8 + 0 ≤ _)⟩)
        dsimp only [Pt.U, Pt.locs, Pt.cells, Pt.slots] at X21 l21 y21 z21 st21 hQ21
        subst l21 y21 z21
        obtain ⟨rfl, N21q, q21⟩ := hQ21      -- what it returned, that it wrote nothing old, and the rest of your Q2
        have N21 := Fr.app N19 N21q
        obtain ⟨fs, hr, hrun, hended, hW, hsame⟩ := X21.leave (v := some (.int (1 : Int32))) (fun h => by rw [Bd.returns] at h; cases h)
        refine ⟨_, _, preX _ ?_, hrun, hended, _, _, rfl, ?_, ⟨_, rfl⟩, hW, hsame.mono (by decide) (by decide)⟩
        · show Steps p.tables e below (T16.setTop (mkF m 180 #[.val (.long q1), .second, .val (.int p2), .val (.int p3), .val (.int p4), .val (.ref b5), .val (.int (own_f p2)), .val (.int (own_to p2 p3)), .unset, .unset] [])) _
          show Steps p.tables e below (T16.setTop (mkF m 180 #[.val (.long q1), .second, .val (.int p2), .val (.int p3), .val (.int p4), .val (.ref b5), .val (.int (own_f p2)), .val (.int (own_to p2 p3)), .unset, .unset] [])) _
          refine XS.aload X16.here hx rfl (hb hby at_180) rfl rfl ?_
          show Steps p.tables e below (T16.setTop (mkF m 182 #[.val (.long q1), .second, .val (.int p2), .val (.int p3), .val (.int p4), .val (.ref b5), .val (.int (own_f p2)), .val (.int (own_to p2 p3)), .unset, .unset] [(.ref b5)])) _
          refine XS.iload X16.here hx rfl (hb hby at_182) rfl ?_
          show Steps p.tables e below (T16.setTop (mkF m 184 #[.val (.long q1), .second, .val (.int p2), .val (.int p3), .val (.int p4), .val (.ref b5), .val (.int (own_f p2)), .val (.int (own_to p2 p3)), .unset, .unset] [(.int (own_f p2)), (.ref b5)])) _
          refine XS.iload X16.here hx rfl (hb hby at_184) rfl ?_
          show Steps p.tables e below (T16.setTop (mkF m 186 #[.val (.long q1), .second, .val (.int p2), .val (.int p3), .val (.int p4), .val (.ref b5), .val (.int (own_f p2)), .val (.int (own_to p2 p3)), .unset, .unset] [(.int (own_to p2 p3)), (.int (own_f p2)), (.ref b5)])) _
          refine st17 _ ?_
          show Steps p.tables e below (T17.setTop (mkF m 189 #[.val (.long q1), .second, .val (.int p2), .val (.int p3), .val (.int p4), .val (.ref b5), .val (.int (own_f p2)), .val (.int (own_to p2 p3)), .unset, .unset] [(.int (own_bom v0 v1 v2))])) _
          refine XS.istore X17.here hx rfl (hb hby at_189) rfl (l' := #[.val (.long q1), .second, .val (.int p2), .val (.int p3), .val (.int p4), .val (.ref b5), .val (.int (own_f p2)), .val (.int (own_to p2 p3)), .val (.int (own_bom v0 v1 v2)), .unset]) rfl ?_
          show Steps p.tables e below (T17.setTop (mkF m 191 #[.val (.long q1), .second, .val (.int p2), .val (.int p3), .val (.int p4), .val (.ref b5), .val (.int (own_f p2)), .val (.int (own_to p2 p3)), .val (.int (own_bom v0 v1 v2)), .unset] [])) _
          refine XS.iconst X17.here hx rfl (hb hby at_191) ?_
          show Steps p.tables e below (T17.setTop (mkF m 192 #[.val (.long q1), .second, .val (.int p2), .val (.int p3), .val (.int p4), .val (.ref b5), .val (.int (own_f p2)), .val (.int (own_to p2 p3)), .val (.int (own_bom v0 v1 v2)), .unset] [(.int (0 : Int32))])) _
          refine XS.istore X17.here hx rfl (hb hby at_192) rfl (l' := #[.val (.long q1), .second, .val (.int p2), .val (.int p3), .val (.int p4), .val (.ref b5), .val (.int (own_f p2)), .val (.int (own_to p2 p3)), .val (.int (own_bom v0 v1 v2)), .val (.int (0 : Int32))]) rfl ?_
          show Steps p.tables e below (T17.setTop (mkF m 194 #[.val (.long q1), .second, .val (.int p2), .val (.int p3), .val (.int p4), .val (.ref b5), .val (.int (own_f p2)), .val (.int (own_to p2 p3)), .val (.int (own_bom v0 v1 v2)), .val (.int (0 : Int32))] [])) _
          refine XS.iload X17.here hx rfl (hb hby at_194) rfl ?_
          show Steps p.tables e below (T17.setTop (mkF m 196 #[.val (.long q1), .second, .val (.int p2), .val (.int p3), .val (.int p4), .val (.ref b5), .val (.int (own_f p2)), .val (.int (own_to p2 p3)), .val (.int (own_bom v0 v1 v2)), .val (.int (0 : Int32))] [(.int (own_to p2 p3))])) _
          refine XS.iload X17.here hx rfl (hb hby at_196) rfl ?_
          show Steps p.tables e below (T17.setTop (mkF m 198 #[.val (.long q1), .second, .val (.int p2), .val (.int p3), .val (.int p4), .val (.ref b5), .val (.int (own_f p2)), .val (.int (own_to p2 p3)), .val (.int (own_bom v0 v1 v2)), .val (.int (0 : Int32))] [(.int (own_f p2)), (.int (own_to p2 p3))])) _
          refine XS.isub X17.here hx rfl (hb hby at_198) rfl ?_
          show Steps p.tables e below (T17.setTop (mkF m 199 #[.val (.long q1), .second, .val (.int p2), .val (.int p3), .val (.int p4), .val (.ref b5), .val (.int (own_f p2)), .val (.int (own_to p2 p3)), .val (.int (own_bom v0 v1 v2)), .val (.int (0 : Int32))] [(.int ((own_to p2 p3) - (own_f p2)))])) _
          refine XS.iconst X17.here hx rfl (hb hby at_199) ?_
          show Steps p.tables e below (T17.setTop (mkF m 200 #[.val (.long q1), .second, .val (.int p2), .val (.int p3), .val (.int p4), .val (.ref b5), .val (.int (own_f p2)), .val (.int (own_to p2 p3)), .val (.int (own_bom v0 v1 v2)), .val (.int (0 : Int32))] [(.int (3 : Int32)), (.int ((own_to p2 p3) - (own_f p2)))])) _
          refine XS.icmpNo X17.here hx rfl (hb hby at_200) rfl (flt hc200).1 ?_
          show Steps p.tables e below (T17.setTop (mkF m 203 #[.val (.long q1), .second, .val (.int p2), .val (.int p3), .val (.int p4), .val (.ref b5), .val (.int (own_f p2)), .val (.int (own_to p2 p3)), .val (.int (own_bom v0 v1 v2)), .val (.int (0 : Int32))] [])) _
          refine XS.aload X17.here hx rfl (hb hby at_203) rfl rfl ?_
          show Steps p.tables e below (T17.setTop (mkF m 205 #[.val (.long q1), .second, .val (.int p2), .val (.int p3), .val (.int p4), .val (.ref b5), .val (.int (own_f p2)), .val (.int (own_to p2 p3)), .val (.int (own_bom v0 v1 v2)), .val (.int (0 : Int32))] [(.ref b5)])) _
          refine XS.iload X17.here hx rfl (hb hby at_205) rfl ?_
          show Steps p.tables e below (T17.setTop (mkF m 207 #[.val (.long q1), .second, .val (.int p2), .val (.int p3), .val (.int p4), .val (.ref b5), .val (.int (own_f p2)), .val (.int (own_to p2 p3)), .val (.int (own_bom v0 v1 v2)), .val (.int (0 : Int32))] [(.int (own_f p2)), (.ref b5)])) _
          refine X17.baloadBytes hx (j := (own_f p2)) (v := (.int v0)) (by rw [q17]; exact Ar_b5.1) (State.isArrayOf_alike hZ.alike Ar_b5.2.1) Ar_b5.2.2 hin207 hat207 (g := (mkF m 207 #[.val (.long q1), .second, .val (.int p2), .val (.int p3), .val (.int p4), .val (.ref b5), .val (.int (own_f p2)), .val (.int (own_to p2 p3)), .val (.int (own_bom v0 v1 v2)), .val (.int (0 : Int32))] [(.int (own_f p2)), (.ref b5)])) rfl rfl (hb hby at_207) _ ?_
          show Steps p.tables e below (T17.setTop (mkF m 208 #[.val (.long q1), .second, .val (.int p2), .val (.int p3), .val (.int p4), .val (.ref b5), .val (.int (own_f p2)), .val (.int (own_to p2 p3)), .val (.int (own_bom v0 v1 v2)), .val (.int (0 : Int32))] [(.int v0)])) _
          refine st19 _ ?_
          show Steps p.tables e below (T19.setTop (mkF m 211 #[.val (.long q1), .second, .val (.int p2), .val (.int p3), .val (.int p4), .val (.ref b5), .val (.int (own_f p2)), .val (.int (own_to p2 p3)), .val (.int (own_bom v0 v1 v2)), .val (.int (0 : Int32))] [(.int (v0 &&& (255 : Int32)))])) _
          refine XS.sipush X19.here hx rfl (hb hby at_211) ?_
          show Steps p.tables e below (T19.setTop (mkF m 214 #[.val (.long q1), .second, .val (.int p2), .val (.int p3), .val (.int p4), .val (.ref b5), .val (.int (own_f p2)), .val (.int (own_to p2 p3)), .val (.int (own_bom v0 v1 v2)), .val (.int (0 : Int32))] [(.int (239 : Int32)), (.int (v0 &&& (255 : Int32)))])) _
          refine XS.icmpNo X19.here hx rfl (hb hby at_214) rfl (teq hc214).2 ?_
          show Steps p.tables e below (T19.setTop (mkF m 217 #[.val (.long q1), .second, .val (.int p2), .val (.int p3), .val (.int p4), .val (.ref b5), .val (.int (own_f p2)), .val (.int (own_to p2 p3)), .val (.int (own_bom v0 v1 v2)), .val (.int (0 : Int32))] [])) _
          refine XS.aload X19.here hx rfl (hb hby at_217) rfl rfl ?_
          show Steps p.tables e below (T19.setTop (mkF m 219 #[.val (.long q1), .second, .val (.int p2), .val (.int p3), .val (.int p4), .val (.ref b5), .val (.int (own_f p2)), .val (.int (own_to p2 p3)), .val (.int (own_bom v0 v1 v2)), .val (.int (0 : Int32))] [(.ref b5)])) _
          refine XS.iload X19.here hx rfl (hb hby at_219) rfl ?_
          show Steps p.tables e below (T19.setTop (mkF m 221 #[.val (.long q1), .second, .val (.int p2), .val (.int p3), .val (.int p4), .val (.ref b5), .val (.int (own_f p2)), .val (.int (own_to p2 p3)), .val (.int (own_bom v0 v1 v2)), .val (.int (0 : Int32))] [(.int (own_f p2)), (.ref b5)])) _
          refine XS.iconst X19.here hx rfl (hb hby at_221) ?_
          show Steps p.tables e below (T19.setTop (mkF m 222 #[.val (.long q1), .second, .val (.int p2), .val (.int p3), .val (.int p4), .val (.ref b5), .val (.int (own_f p2)), .val (.int (own_to p2 p3)), .val (.int (own_bom v0 v1 v2)), .val (.int (0 : Int32))] [(.int (1 : Int32)), (.int (own_f p2)), (.ref b5)])) _
          refine XS.iadd X19.here hx rfl (hb hby at_222) rfl ?_
          show Steps p.tables e below (T19.setTop (mkF m 223 #[.val (.long q1), .second, .val (.int p2), .val (.int p3), .val (.int p4), .val (.ref b5), .val (.int (own_f p2)), .val (.int (own_to p2 p3)), .val (.int (own_bom v0 v1 v2)), .val (.int (0 : Int32))] [(.int ((own_f p2) + (1 : Int32))), (.ref b5)])) _
          refine X19.baloadBytes hx (j := ((own_f p2) + (1 : Int32))) (v := (.int v1)) (by rw [q19]; exact Ar_b5.1) (State.isArrayOf_alike hZ.alike Ar_b5.2.1) Ar_b5.2.2 hin223 hat223 (g := (mkF m 223 #[.val (.long q1), .second, .val (.int p2), .val (.int p3), .val (.int p4), .val (.ref b5), .val (.int (own_f p2)), .val (.int (own_to p2 p3)), .val (.int (own_bom v0 v1 v2)), .val (.int (0 : Int32))] [(.int ((own_f p2) + (1 : Int32))), (.ref b5)])) rfl rfl (hb hby at_223) _ ?_
          show Steps p.tables e below (T19.setTop (mkF m 224 #[.val (.long q1), .second, .val (.int p2), .val (.int p3), .val (.int p4), .val (.ref b5), .val (.int (own_f p2)), .val (.int (own_to p2 p3)), .val (.int (own_bom v0 v1 v2)), .val (.int (0 : Int32))] [(.int v1)])) _
          refine st21 _ ?_
          show Steps p.tables e below (T21.setTop (mkF m 227 #[.val (.long q1), .second, .val (.int p2), .val (.int p3), .val (.int p4), .val (.ref b5), .val (.int (own_f p2)), .val (.int (own_to p2 p3)), .val (.int (own_bom v0 v1 v2)), .val (.int (0 : Int32))] [(.int (v1 &&& (255 : Int32)))])) _
          refine XS.sipush X21.here hx rfl (hb hby at_227) ?_
          show Steps p.tables e below (T21.setTop (mkF m 230 #[.val (.long q1), .second, .val (.int p2), .val (.int p3), .val (.int p4), .val (.ref b5), .val (.int (own_f p2)), .val (.int (own_to p2 p3)), .val (.int (own_bom v0 v1 v2)), .val (.int (0 : Int32))] [(.int (187 : Int32)), (.int (v1 &&& (255 : Int32)))])) _
          refine XS.icmpYes X21.here hx rfl (pc0 := 230) (pc' := 252) rfl (hb hby at_230) rfl (feq hc230).2 (by decide) (by decide) ?_
          show Steps p.tables e below (T21.setTop (mkF m 252 #[.val (.long q1), .second, .val (.int p2), .val (.int p3), .val (.int p4), .val (.ref b5), .val (.int (own_f p2)), .val (.int (own_to p2 p3)), .val (.int (own_bom v0 v1 v2)), .val (.int (0 : Int32))] [])) _
          refine XS.iload X21.here hx rfl (hb hby at_252) rfl ?_
          show Steps p.tables e below (T21.setTop (mkF m 254 #[.val (.long q1), .second, .val (.int p2), .val (.int p3), .val (.int p4), .val (.ref b5), .val (.int (own_f p2)), .val (.int (own_to p2 p3)), .val (.int (own_bom v0 v1 v2)), .val (.int (0 : Int32))] [(.int (own_bom v0 v1 v2))])) _
          refine XS.iload X21.here hx rfl (hb hby at_254) rfl ?_
          show Steps p.tables e below (T21.setTop (mkF m 256 #[.val (.long q1), .second, .val (.int p2), .val (.int p3), .val (.int p4), .val (.ref b5), .val (.int (own_f p2)), .val (.int (own_to p2 p3)), .val (.int (own_bom v0 v1 v2)), .val (.int (0 : Int32))] [(.int (0 : Int32)), (.int (own_bom v0 v1 v2))])) _
          refine XS.icmpNo X21.here hx rfl (hb hby at_256) rfl (teq hc256).2 ?_
          show Steps p.tables e below (T21.setTop (mkF m 259 #[.val (.long q1), .second, .val (.int p2), .val (.int p3), .val (.int p4), .val (.ref b5), .val (.int (own_f p2)), .val (.int (own_to p2 p3)), .val (.int (own_bom v0 v1 v2)), .val (.int (0 : Int32))] [])) _
          refine XS.iconst X21.here hx rfl (hb hby at_259) ?_
          show Steps p.tables e below (T21.setTop (mkF m 260 #[.val (.long q1), .second, .val (.int p2), .val (.int p3), .val (.int p4), .val (.ref b5), .val (.int (own_f p2)), .val (.int (own_to p2 p3)), .val (.int (own_bom v0 v1 v2)), .val (.int (0 : Int32))] [(.int (1 : Int32))])) _
          refine XS.goto X21.here hx rfl (pc0 := 260) (pc' := 264) rfl (hb hby at_260) (by decide) (by decide) ?_
          show Steps p.tables e below (T21.setTop (mkF m 264 #[.val (.long q1), .second, .val (.int p2), .val (.int p3), .val (.int p4), .val (.ref b5), .val (.int (own_f p2)), .val (.int (own_to p2 p3)), .val (.int (own_bom v0 v1 v2)), .val (.int (0 : Int32))] [(.int (1 : Int32))])) _
          exact retN X21 hx (t := .boolean) Bd.returns (by simp) (hb hby at_264) hr
        · show Q0 Z q1 p2 p3 p4 h0 n0 _ T21.heap _
          rw [q21]
          exact ⟨rfl, N21⟩
    · have hc256 : (own_bom v0 v1 v2) = (0 : Int32) := by unfold own_bom; rw [if_neg (fun q => hc214 ((own_u v0 239 239 r0 rfl (by decide) (-17) rfl).mpr q))]
      obtain ⟨_, _, ⟨T17, L17, k17, n17⟩, -, X17, ⟨Lc17, hQ17, l17, y17, z17⟩, st17⟩ := Jvm.LawKit.callS X16 hx (y := (⟨"dev/changeline/envelope/Utf8", "byteOrderMarkLength", "([BII)I"⟩ : MethodName)) hown (mvT hZ (hw _ (List.mem_of_getElem? (i := 2) rfl))) (mvT hZ (hw _ (List.mem_of_getElem? (i := 3) rfl))) (mvT hZ (hw _ (List.mem_of_getElem? (i := 4) rfl))) (mvT hZ (hw _ (List.mem_of_getElem? (i := 5) rfl))) (by decide) (backOf (W := 0) (rm1 l Z a0 hw [] b5 (own_f p2) (own_to p2 p3) v0 cB v1 v2 h16 n0 Zs Ar_b5 hin207 hat207 hin223 hat223 hin239 hat239 hc200) hZ (hw _ (List.mem_of_getElem? (i := 5) rfl)) (hw _ (List.mem_of_getElem? (i := 4) rfl)) (by decide) (by decide)) (g := (mkF m 186 #[.val (.long q1), .second, .val (.int p2), .val (.int p3), .val (.int p4), .val (.ref b5), .val (.int (own_f p2)), .val (.int (own_to p2 p3)), .unset, .unset] [(.int (own_to p2 p3)), (.int (own_f p2)), (.ref b5)])) rfl (by rw [hml]; rfl) (argsL := [(.ref b5), (.int (own_f p2)), (.int (own_to p2 p3))]) (rest := []) (lenOf pd_0_0 rfl) rfl (by show 2 * 0 + _ ≤ _; exact Nat.le_of_eq rfl) (hb hby at_186) (fun _ _ => ⟨rfl, e16, (by decide : 1 + 0 ≤ _), (by decide : 8 + 0 ≤ _)⟩)
      dsimp only [Pt.U, Pt.locs, Pt.cells, Pt.slots] at X17 l17 y17 z17 st17 hQ17
      subst l17 y17 z17
      obtain ⟨rfl, N17q, q17⟩ := hQ17      -- what it returned, that it wrote nothing old, and the rest of your Q1
      have N17 := Fr.app N16 N17q
      -- pc 207: the array at b5: open its fact V_b5 (as at a store): Ar : Arr Z h16 b5 cl <kind>; hin207 : the place is inside; hat207 : cl.slots[place]? = some (.int v0)
      -- pc 208: dev/changeline/envelope/Utf8ByteOrderMarkLengthPinLaw.u by its contract rm2
      obtain ⟨_, _, ⟨T19, L19, k19, n19⟩, -, X19, ⟨Lc19, hQ19, l19, y19, z19⟩, st19⟩ := Jvm.LawKit.callS X17 hx (y := (⟨"dev/changeline/envelope/Utf8ByteOrderMarkLengthPinLaw", "u", "(B)I"⟩ : MethodName)) hown (mvT hZ (hw _ (List.mem_of_getElem? (i := 6) rfl))) (mvT hZ (hw _ (List.mem_of_getElem? (i := 7) rfl))) (mvT hZ (hw _ (List.mem_of_getElem? (i := 8) rfl))) (mvT hZ (hw _ (List.mem_of_getElem? (i := 9) rfl))) (by decide) (backOf (W := 0) (rm2 l Z a0 hw [] v0  h16 n0 Zs) hZ (hw _ (List.mem_of_getElem? (i := 9) rfl)) (hw _ (List.mem_of_getElem? (i := 8) rfl)) (by decide) (by decide)) (g := (mkF m 208 #[.val (.long q1), .second, .val (.int p2), .val (.int p3), .val (.int p4), .val (.ref b5), .val (.int (own_f p2)), .val (.int (own_to p2 p3)), .val (.int (own_bom v0 v1 v2)), .val (.int (0 : Int32))] [(.int v0)])) rfl (by rw [hml]; rfl) (argsL := [(.int v0)]) (rest := []) (lenOf pd_0_1 rfl) rfl (by show 2 * 0 + _ ≤ _; exact Nat.le_of_eq rfl) (hb hby at_208) (fun _ _ => ⟨rfl, q17, (by decide : 1 + 0 ≤ _), (by decide : 8 + 0 ≤ _)⟩)
      dsimp only [Pt.U, Pt.locs, Pt.cells, Pt.slots] at X19 l19 y19 z19 st19 hQ19
      subst l19 y19 z19
      obtain ⟨rfl, N19q, q19⟩ := hQ19      -- what it returned, that it wrote nothing old, and the rest of your Q2
      have N19 := Fr.app N17 N19q
      obtain ⟨fs, hr, hrun, hended, hW, hsame⟩ := X19.leave (v := some (.int (1 : Int32))) (fun h => by rw [Bd.returns] at h; cases h)
      refine ⟨_, _, preX _ ?_, hrun, hended, _, _, rfl, ?_, ⟨_, rfl⟩, hW, hsame.mono (by decide) (by decide)⟩
      · show Steps p.tables e below (T16.setTop (mkF m 180 #[.val (.long q1), .second, .val (.int p2), .val (.int p3), .val (.int p4), .val (.ref b5), .val (.int (own_f p2)), .val (.int (own_to p2 p3)), .unset, .unset] [])) _
        show Steps p.tables e below (T16.setTop (mkF m 180 #[.val (.long q1), .second, .val (.int p2), .val (.int p3), .val (.int p4), .val (.ref b5), .val (.int (own_f p2)), .val (.int (own_to p2 p3)), .unset, .unset] [])) _
        refine XS.aload X16.here hx rfl (hb hby at_180) rfl rfl ?_
        show Steps p.tables e below (T16.setTop (mkF m 182 #[.val (.long q1), .second, .val (.int p2), .val (.int p3), .val (.int p4), .val (.ref b5), .val (.int (own_f p2)), .val (.int (own_to p2 p3)), .unset, .unset] [(.ref b5)])) _
        refine XS.iload X16.here hx rfl (hb hby at_182) rfl ?_
        show Steps p.tables e below (T16.setTop (mkF m 184 #[.val (.long q1), .second, .val (.int p2), .val (.int p3), .val (.int p4), .val (.ref b5), .val (.int (own_f p2)), .val (.int (own_to p2 p3)), .unset, .unset] [(.int (own_f p2)), (.ref b5)])) _
        refine XS.iload X16.here hx rfl (hb hby at_184) rfl ?_
        show Steps p.tables e below (T16.setTop (mkF m 186 #[.val (.long q1), .second, .val (.int p2), .val (.int p3), .val (.int p4), .val (.ref b5), .val (.int (own_f p2)), .val (.int (own_to p2 p3)), .unset, .unset] [(.int (own_to p2 p3)), (.int (own_f p2)), (.ref b5)])) _
        refine st17 _ ?_
        show Steps p.tables e below (T17.setTop (mkF m 189 #[.val (.long q1), .second, .val (.int p2), .val (.int p3), .val (.int p4), .val (.ref b5), .val (.int (own_f p2)), .val (.int (own_to p2 p3)), .unset, .unset] [(.int (own_bom v0 v1 v2))])) _
        refine XS.istore X17.here hx rfl (hb hby at_189) rfl (l' := #[.val (.long q1), .second, .val (.int p2), .val (.int p3), .val (.int p4), .val (.ref b5), .val (.int (own_f p2)), .val (.int (own_to p2 p3)), .val (.int (own_bom v0 v1 v2)), .unset]) rfl ?_
        show Steps p.tables e below (T17.setTop (mkF m 191 #[.val (.long q1), .second, .val (.int p2), .val (.int p3), .val (.int p4), .val (.ref b5), .val (.int (own_f p2)), .val (.int (own_to p2 p3)), .val (.int (own_bom v0 v1 v2)), .unset] [])) _
        refine XS.iconst X17.here hx rfl (hb hby at_191) ?_
        show Steps p.tables e below (T17.setTop (mkF m 192 #[.val (.long q1), .second, .val (.int p2), .val (.int p3), .val (.int p4), .val (.ref b5), .val (.int (own_f p2)), .val (.int (own_to p2 p3)), .val (.int (own_bom v0 v1 v2)), .unset] [(.int (0 : Int32))])) _
        refine XS.istore X17.here hx rfl (hb hby at_192) rfl (l' := #[.val (.long q1), .second, .val (.int p2), .val (.int p3), .val (.int p4), .val (.ref b5), .val (.int (own_f p2)), .val (.int (own_to p2 p3)), .val (.int (own_bom v0 v1 v2)), .val (.int (0 : Int32))]) rfl ?_
        show Steps p.tables e below (T17.setTop (mkF m 194 #[.val (.long q1), .second, .val (.int p2), .val (.int p3), .val (.int p4), .val (.ref b5), .val (.int (own_f p2)), .val (.int (own_to p2 p3)), .val (.int (own_bom v0 v1 v2)), .val (.int (0 : Int32))] [])) _
        refine XS.iload X17.here hx rfl (hb hby at_194) rfl ?_
        show Steps p.tables e below (T17.setTop (mkF m 196 #[.val (.long q1), .second, .val (.int p2), .val (.int p3), .val (.int p4), .val (.ref b5), .val (.int (own_f p2)), .val (.int (own_to p2 p3)), .val (.int (own_bom v0 v1 v2)), .val (.int (0 : Int32))] [(.int (own_to p2 p3))])) _
        refine XS.iload X17.here hx rfl (hb hby at_196) rfl ?_
        show Steps p.tables e below (T17.setTop (mkF m 198 #[.val (.long q1), .second, .val (.int p2), .val (.int p3), .val (.int p4), .val (.ref b5), .val (.int (own_f p2)), .val (.int (own_to p2 p3)), .val (.int (own_bom v0 v1 v2)), .val (.int (0 : Int32))] [(.int (own_f p2)), (.int (own_to p2 p3))])) _
        refine XS.isub X17.here hx rfl (hb hby at_198) rfl ?_
        show Steps p.tables e below (T17.setTop (mkF m 199 #[.val (.long q1), .second, .val (.int p2), .val (.int p3), .val (.int p4), .val (.ref b5), .val (.int (own_f p2)), .val (.int (own_to p2 p3)), .val (.int (own_bom v0 v1 v2)), .val (.int (0 : Int32))] [(.int ((own_to p2 p3) - (own_f p2)))])) _
        refine XS.iconst X17.here hx rfl (hb hby at_199) ?_
        show Steps p.tables e below (T17.setTop (mkF m 200 #[.val (.long q1), .second, .val (.int p2), .val (.int p3), .val (.int p4), .val (.ref b5), .val (.int (own_f p2)), .val (.int (own_to p2 p3)), .val (.int (own_bom v0 v1 v2)), .val (.int (0 : Int32))] [(.int (3 : Int32)), (.int ((own_to p2 p3) - (own_f p2)))])) _
        refine XS.icmpNo X17.here hx rfl (hb hby at_200) rfl (flt hc200).1 ?_
        show Steps p.tables e below (T17.setTop (mkF m 203 #[.val (.long q1), .second, .val (.int p2), .val (.int p3), .val (.int p4), .val (.ref b5), .val (.int (own_f p2)), .val (.int (own_to p2 p3)), .val (.int (own_bom v0 v1 v2)), .val (.int (0 : Int32))] [])) _
        refine XS.aload X17.here hx rfl (hb hby at_203) rfl rfl ?_
        show Steps p.tables e below (T17.setTop (mkF m 205 #[.val (.long q1), .second, .val (.int p2), .val (.int p3), .val (.int p4), .val (.ref b5), .val (.int (own_f p2)), .val (.int (own_to p2 p3)), .val (.int (own_bom v0 v1 v2)), .val (.int (0 : Int32))] [(.ref b5)])) _
        refine XS.iload X17.here hx rfl (hb hby at_205) rfl ?_
        show Steps p.tables e below (T17.setTop (mkF m 207 #[.val (.long q1), .second, .val (.int p2), .val (.int p3), .val (.int p4), .val (.ref b5), .val (.int (own_f p2)), .val (.int (own_to p2 p3)), .val (.int (own_bom v0 v1 v2)), .val (.int (0 : Int32))] [(.int (own_f p2)), (.ref b5)])) _
        refine X17.baloadBytes hx (j := (own_f p2)) (v := (.int v0)) (by rw [q17]; exact Ar_b5.1) (State.isArrayOf_alike hZ.alike Ar_b5.2.1) Ar_b5.2.2 hin207 hat207 (g := (mkF m 207 #[.val (.long q1), .second, .val (.int p2), .val (.int p3), .val (.int p4), .val (.ref b5), .val (.int (own_f p2)), .val (.int (own_to p2 p3)), .val (.int (own_bom v0 v1 v2)), .val (.int (0 : Int32))] [(.int (own_f p2)), (.ref b5)])) rfl rfl (hb hby at_207) _ ?_
        show Steps p.tables e below (T17.setTop (mkF m 208 #[.val (.long q1), .second, .val (.int p2), .val (.int p3), .val (.int p4), .val (.ref b5), .val (.int (own_f p2)), .val (.int (own_to p2 p3)), .val (.int (own_bom v0 v1 v2)), .val (.int (0 : Int32))] [(.int v0)])) _
        refine st19 _ ?_
        show Steps p.tables e below (T19.setTop (mkF m 211 #[.val (.long q1), .second, .val (.int p2), .val (.int p3), .val (.int p4), .val (.ref b5), .val (.int (own_f p2)), .val (.int (own_to p2 p3)), .val (.int (own_bom v0 v1 v2)), .val (.int (0 : Int32))] [(.int (v0 &&& (255 : Int32)))])) _
        refine XS.sipush X19.here hx rfl (hb hby at_211) ?_
        show Steps p.tables e below (T19.setTop (mkF m 214 #[.val (.long q1), .second, .val (.int p2), .val (.int p3), .val (.int p4), .val (.ref b5), .val (.int (own_f p2)), .val (.int (own_to p2 p3)), .val (.int (own_bom v0 v1 v2)), .val (.int (0 : Int32))] [(.int (239 : Int32)), (.int (v0 &&& (255 : Int32)))])) _
        refine XS.icmpYes X19.here hx rfl (pc0 := 214) (pc' := 252) rfl (hb hby at_214) rfl (feq hc214).2 (by decide) (by decide) ?_
        show Steps p.tables e below (T19.setTop (mkF m 252 #[.val (.long q1), .second, .val (.int p2), .val (.int p3), .val (.int p4), .val (.ref b5), .val (.int (own_f p2)), .val (.int (own_to p2 p3)), .val (.int (own_bom v0 v1 v2)), .val (.int (0 : Int32))] [])) _
        refine XS.iload X19.here hx rfl (hb hby at_252) rfl ?_
        show Steps p.tables e below (T19.setTop (mkF m 254 #[.val (.long q1), .second, .val (.int p2), .val (.int p3), .val (.int p4), .val (.ref b5), .val (.int (own_f p2)), .val (.int (own_to p2 p3)), .val (.int (own_bom v0 v1 v2)), .val (.int (0 : Int32))] [(.int (own_bom v0 v1 v2))])) _
        refine XS.iload X19.here hx rfl (hb hby at_254) rfl ?_
        show Steps p.tables e below (T19.setTop (mkF m 256 #[.val (.long q1), .second, .val (.int p2), .val (.int p3), .val (.int p4), .val (.ref b5), .val (.int (own_f p2)), .val (.int (own_to p2 p3)), .val (.int (own_bom v0 v1 v2)), .val (.int (0 : Int32))] [(.int (0 : Int32)), (.int (own_bom v0 v1 v2))])) _
        refine XS.icmpNo X19.here hx rfl (hb hby at_256) rfl (teq hc256).2 ?_
        show Steps p.tables e below (T19.setTop (mkF m 259 #[.val (.long q1), .second, .val (.int p2), .val (.int p3), .val (.int p4), .val (.ref b5), .val (.int (own_f p2)), .val (.int (own_to p2 p3)), .val (.int (own_bom v0 v1 v2)), .val (.int (0 : Int32))] [])) _
        refine XS.iconst X19.here hx rfl (hb hby at_259) ?_
        show Steps p.tables e below (T19.setTop (mkF m 260 #[.val (.long q1), .second, .val (.int p2), .val (.int p3), .val (.int p4), .val (.ref b5), .val (.int (own_f p2)), .val (.int (own_to p2 p3)), .val (.int (own_bom v0 v1 v2)), .val (.int (0 : Int32))] [(.int (1 : Int32))])) _
        refine XS.goto X19.here hx rfl (pc0 := 260) (pc' := 264) rfl (hb hby at_260) (by decide) (by decide) ?_
        show Steps p.tables e below (T19.setTop (mkF m 264 #[.val (.long q1), .second, .val (.int p2), .val (.int p3), .val (.int p4), .val (.ref b5), .val (.int (own_f p2)), .val (.int (own_to p2 p3)), .val (.int (own_bom v0 v1 v2)), .val (.int (0 : Int32))] [(.int (1 : Int32))])) _
        exact retN X19 hx (t := .boolean) Bd.returns (by simp) (hb hby at_264) hr
      · show Q0 Z q1 p2 p3 p4 h0 n0 _ T19.heap _
        rw [q19]
        exact ⟨rfl, N19⟩
set_option maxRecDepth 65536 in
set_option maxHeartbeats 40000000 in
theorem comes_1 {Post : Tables → Env → Array Value → State → Outcome → State → Prop} (hpost : ∀ tb e args s v u, (limb_1_1.after args s (.returned v) u = true ∧ limb_1_2.after args s (.returned v) u = true ∧ True) → FrameEnd s (.returned v) u (Jvm.fieldLocs frame_1_writes args s ++ Jvm.arrayLocs frame_1_arrays args s ++ Jvm.staticLocs frame_1_statics s) 16 128 → Post tb e args s (.returned v) u) :
    ArmFor flags0 classFile x code maxLocals ret World_1 tables_1 room_1 Calls_1 rest_1 Pre_1 Post := by
  intro l hfl _ _ p e ha hc hk s m args below hf hA hF happ hP
  obtain ⟨hcalls, hrest, hpre⟩ := hP
  obtain ⟨-, -, -, hnamed, -, -, -, hat⟩ := (Spec.applies_iff hf).mp happ
  obtain ⟨hg, hn⟩ := and_e (Cond.before_iff.mp (show (Jvm.Cond.and given_1 narrow_1).before args s = true from hpre))
  obtain ⟨g18, g19⟩ := and_e hg
  obtain ⟨g20, g21⟩ := and_e g19
  obtain ⟨g22, g23⟩ := and_e g21
  obtain ⟨g24, g25⟩ := and_e g23
  obtain ⟨w0, w1, w2, w3, rfl⟩ : ∃ w0 w1 w2 w3 : Value, args = #[w0, w1, w2, w3] := by
    have hs : args.size = 4 := by simpa [Cond.value, given_1] using g18
    obtain ⟨L⟩ := args
    match L, hs with
    | [w0, w1, w2, w3], _ => exact ⟨w0, w1, w2, w3, rfl⟩
  have hw := fun d (hd : d ∈ tables_1) => atoms_spec (ws := Jvm.Cond.code x code maxLocals ret :: tables_1) hat d (List.mem_cons_of_mem _ hd)
  have hfit : Fit s := fun {y c} hc i hi => by
    obtain ⟨ha, rfl⟩ := Array.getElem?_eq_some_iff.mp hc
    have q := List.all_eq_true.mp ((Array.all_eq_true_iff_forall_mem.mp hF) _ (Array.getElem_mem ha)) i (List.mem_range.mpr hi)
    simpa [Array.getElem?_eq_getElem hi] using q
  obtain ⟨i0, ei0⟩ := isL_v g20
  obtain rfl : w0 = (.long i0) := Option.some.inj ei0
  obtain ⟨i1, ei1⟩ := is_v g22
  obtain rfl : w1 = (.int i1) := Option.some.inj ei1
  obtain ⟨i2, ei2⟩ := is_v g24
  obtain rfl : w2 = (.int i2) := Option.some.inj ei2
  obtain ⟨i3, ei3⟩ := is_v g25
  obtain rfl : w3 = (.int i3) := Option.some.inj ei3
  obtain ⟨n, o, h1, h2, h3, _, L, rfl, ⟨rfl, N⟩, hq⟩ := rm0 l s _ hw tables_1 i0 i1 i2 i3 s.heap s.heap.size (Nat.le_refl _) p e ha hc hk s m _ below hf ((Spec.applies_iff_loose hf).mp happ).1 ⟨rfl, State.Warmed39.refl s, rfl⟩ trivial
  refine ⟨n, _, h1, h2, h3, hpost _ _ _ _ _ _ ⟨Cond.after_iff.mpr rfl, Cond.after_iff.mpr (eq_i res_at (Term.int_eval (1)) rfl), trivial⟩ ⟨hq.1, hq.2.1, (hq.2.2.sift fun y hy => Or.inr (N y hy)).mono (by decide) (by decide)⟩⟩
theorem main_1_1 : Claimed_1_1 := comes_1 fun _ _ _ _ _ _ h hF => ⟨h.1, hF⟩
theorem main_1_2 : Claimed_1_2 := comes_1 fun _ _ _ _ _ _ h hF => ⟨h.2.1, hF⟩

end Jvm.Pilot.@@N@@
namespace Jvm.Pilot.@@N@@
open Jvm Jvm.ClassFile Sem Op Lib Jvm.Free Jvm.Stand Jvm.Pilot.@@N@@.Jvm.D
/-! MADE BY PROGRAM (witnessworld.py) out of the Statement's table words and the real class files: 9 classes; the members and pool entries that the words name. The judged class is class 1, her method 2. -/
namespace start1
open Jvm.ClassFile
def u (s : String) : CpInfo := .utf8 (stringToUtf16 s)
/-- a pool by its gaps: so many unusable entries, then the entry; so many at the end -/
def gap : Nat → List CpInfo → List CpInfo
  | 0, r => r
  | n + 1, r => .unusable :: gap n r
def poolList (es : List (Nat × CpInfo)) (last : Nat) : List CpInfo := es.foldr (fun e r => gap e.1 (e.2 :: r)) (gap last [])
def pool (es : List (Nat × CpInfo)) (last : Nat) : Array CpInfo := ⟨poolList es last⟩
def fileOf (pool : Array CpInfo) (this : Nat) (attrs : Array Attribute := #[]) (ms : Array MethodInfo := #[]) (fl : Nat := 33) (sup : Nat := 0) (ifs : Array Nat := #[]) (fds : Array FieldInfo := #[]) : ClassFile where
  minorVersion := 0
  majorVersion := 65
  constantPool := pool
  accessFlags := fl
  thisClass := this
  superClass := sup
  interfaces := ifs
  fields := fds
  methods := ms
  attributes := attrs
def plain (name : String) (sup : Option ClassId) : Class where
  name := name
  kind := .ordinary
  loader := none
  accessFlags := 33
  super := sup
  interfaces := #[]
  cf := none
  fields := #[]
  methods := #[]
  instanceTypes := #[]
  staticTypes := #[]
  resolved := #[]
  callSites := []
  init := .initialized
  statics := none
  mirror := none

def pool0 : Array CpInfo := pool [(5, u "<init>"), (0, u "()V"), (1, .class_ 10), (1, u "java/lang/Object")] 113

def k0m0 : Method := { name := "<init>", desc := "()V", sig := { parameters := [], returnType := none }, accessFlags := 1, code := none }
/-- java/lang/Object -/
def k0 : Class := { plain "java/lang/Object" none with
  accessFlags := 33
  interfaces := #[]
  cf := some (fileOf pool0 8 #[] #[{ accessFlags := 1, nameIndex := 5, descriptorIndex := 6, attributes := #[] }] 33 0 #[] #[])
  fields := #[]
  methods := #[k0m0]
  instanceTypes := #[]
  staticTypes := #[]
  resolved := Array.replicate 124 none
  statics := none }

def pool1 : Array CpInfo := pool [(2, .class_ 4), (1, u "java/lang/Object"), (0, u "<init>"), (0, u "()V"), (0, .integer 2147483647), (0, .methodref 9 10), (0, .class_ 11), (0, .nameAndType 12 13), (0, u "dev/changeline/envelope/Utf8"), (0, u "byteOrderMarkLength"), (0, u "([BII)I"), (0, .methodref 15 16), (0, .class_ 17), (0, .nameAndType 18 19), (0, u "dev/changeline/envelope/Utf8ByteOrderMarkLengthPinLaw"), (0, u "u"), (0, u "(B)I"), (2, u "law"), (0, u "(JIII)Z")] 5

def k1m0 : Method := { name := "<init>", desc := "()V", sig := { parameters := [], returnType := none }, accessFlags := 2, code := none }
def k1c1 : Code := { maxStack := 2, maxLocals := 1, code := method_2_code, exceptionTable := #[], attributes := #[] }
def k1m1 : Method := { name := "u", desc := "(B)I", sig := { parameters := [.byte], returnType := some .int }, accessFlags := 10, code := some k1c1 }
def k1c2 : Code := { maxStack := 5, maxLocals := 10, code := code, exceptionTable := #[], attributes := #[] }
def k1m2 : Method := { name := "law", desc := "(JIII)Z", sig := { parameters := [.long, .int, .int, .int], returnType := some .boolean }, accessFlags := 9, code := some k1c2 }
/-- dev/changeline/envelope/Utf8ByteOrderMarkLengthPinLaw -/
def k1 : Class := { plain "dev/changeline/envelope/Utf8ByteOrderMarkLengthPinLaw" (some 0) with
  accessFlags := 49
  interfaces := #[]
  cf := some (fileOf pool1 15 #[] #[{ accessFlags := 2, nameIndex := 5, descriptorIndex := 6, attributes := #[] }, { accessFlags := 10, nameIndex := 18, descriptorIndex := 19, attributes := #[] }, { accessFlags := 9, nameIndex := 22, descriptorIndex := 23, attributes := #[] }] 49 2 #[] #[])
  fields := #[]
  methods := #[k1m0, k1m1, k1m2]
  instanceTypes := #[]
  staticTypes := #[]
  resolved := Array.replicate 29 none
  statics := none }

def pool2 : Array CpInfo := pool [(2, .class_ 4), (1, u "java/lang/Object"), (0, u "<init>"), (0, u "()V"), (1, .class_ 10), (1, u "dev/changeline/envelope/Utf8"), (0, u "SEQUENCES"), (0, u "Ljava/util/List;"), (16, .class_ 30), (0, u "dev/changeline/envelope/Utf8$Sequence"), (19, u "([BII)I"), (14, u "byteOrderMarkLength")] 7

def k2m0 : Method := { name := "<init>", desc := "()V", sig := { parameters := [], returnType := none }, accessFlags := 2, code := none }
def k2c1 : Code := { maxStack := 3, maxLocals := 4, code := prog_119_method_3_code, exceptionTable := #[], attributes := #[] }
def k2m1 : Method := { name := "byteOrderMarkLength", desc := "([BII)I", sig := { parameters := [(.array .byte), .int, .int], returnType := some .int }, accessFlags := 8, code := some k2c1 }
/-- dev/changeline/envelope/Utf8 -/
def k2 : Class := { plain "dev/changeline/envelope/Utf8" (some 0) with
  accessFlags := 48
  interfaces := #[]
  cf := some (fileOf pool2 8 #[.nestMembers #[29]] #[{ accessFlags := 2, nameIndex := 5, descriptorIndex := 6, attributes := #[] }, { accessFlags := 8, nameIndex := 65, descriptorIndex := 50, attributes := #[] }] 48 2 #[] #[{ accessFlags := 26, nameIndex := 11, descriptorIndex := 12, attributes := #[] }])
  fields := #[{ name := "SEQUENCES", type := (.object "java/util/List"), accessFlags := 26, slot := 0, constantValue := 0 }]
  methods := #[k2m0, k2m1]
  instanceTypes := #[]
  staticTypes := #[(.object "java/util/List")]
  resolved := Array.replicate 73 none
  statics := none }

def pool3 : Array CpInfo := pool [(1, u "java/lang/Cloneable"), (0, .class_ 1), (0, u "java/lang/Object"), (0, .class_ 3)] 3

/-- java/lang/Cloneable -/
def k3 : Class := { plain "java/lang/Cloneable" (some 0) with
  accessFlags := 1537
  interfaces := #[]
  cf := some (fileOf pool3 2 #[] #[] 1537 4 #[] #[])
  fields := #[]
  methods := #[]
  instanceTypes := #[]
  staticTypes := #[]
  resolved := Array.replicate 8 none
  statics := none }

def pool4 : Array CpInfo := pool [(1, u "java/io/Serializable"), (0, .class_ 1), (0, u "java/lang/Object"), (0, .class_ 3)] 3

/-- java/io/Serializable -/
def k4 : Class := { plain "java/io/Serializable" (some 0) with
  accessFlags := 1537
  interfaces := #[]
  cf := some (fileOf pool4 2 #[] #[] 1537 4 #[] #[])
  fields := #[]
  methods := #[]
  instanceTypes := #[]
  staticTypes := #[]
  resolved := Array.replicate 8 none
  statics := none }

/-- the primitive byte -/
def k5 : Class := { plain "byte" none with kind := .primitive 'B', accessFlags := 0x411 }
/-- [B -/
def k6 : Class := { plain "[B" (some 0) with kind := .array 5 .byte, interfaces := #[3, 4], accessFlags := 1041 }

/-- the primitive int -/
def k7 : Class := { plain "int" none with kind := .primitive 'I', accessFlags := 0x411 }
/-- [I -/
def k8 : Class := { plain "[I" (some 0) with kind := .array 7 .int, interfaces := #[3, 4], accessFlags := 1041 }

def heap : Heap := #[]
def classes : Array Class := #[k0, k1, k2, k3, k4, k5, k6, k7, k8]
def interned : List (Array UInt16 × Addr) := []
def slotsUsed : Nat := 0
def theMethod : MethodId := ⟨1, 2⟩
def args0 : Array Value := #[.long 5, .int 1, .int 4, .int 7]
def aboutOver (below : List Frame) : State where
  vm := { classes := classes, interned := interned.toArray }
  heap := heap
  slotsUsed := slotsUsed
  threads := #[{ frames := .invoking theMethod args0 :: below }]
def below0 : List Frame := [.native { method := ⟨0, 0⟩, args := #[] }]
def about1 : State := aboutOver below0
def p0 : Program := .bare "" "" ""
def e0 : Env := launch0.env 0 0 0
theorem w_frames : about1.frames = Frame.invoking theMethod args0 :: below0 := rfl
set_option maxRecDepth 65536 in
theorem w_args : argsFit about1.vm theMethod args0 = true := by decide +kernel
set_option maxRecDepth 65536 in
theorem w_heap : heapFits about1 = true := by decide +kernel
set_option maxRecDepth 65536 in
theorem w_runnable : about1.curStatus? = some .runnable := by decide +kernel
set_option maxRecDepth 65536 in
theorem w_alone : about1.alone = true := by decide +kernel
set_option maxRecDepth 65536 in
theorem w_named : about1.methodNamed? x = some theMethod := by decide +kernel
set_option maxRecDepth 65536 in
theorem w_hears : about1.hears theMethod below0 = true := by decide +kernel
set_option maxRecDepth 65536 in
theorem w_ripe : about1.ripe theMethod args0 below0 = true := by decide +kernel
theorem w_running : about1.status = .running := rfl
set_option maxRecDepth 65536 in
theorem w_room : about1.hasRoom e0.platform room_1 = true :=
  launch0.hasRoom_least _ room_1 (by decide +kernel) (by decide +kernel) (by decide +kernel) (by decide +kernel) (by decide +kernel) (by decide +kernel)
theorem allAtoms_all (ts : List Jvm.Cond) (a : Array Jvm.Value) (st : Jvm.State) : (allAtoms ts).before a st = ts.all (fun c => c.before a st) := by
  induction ts with
  | nil => rfl
  | cons c t ih =>
    show (Jvm.Cond.and c (allAtoms t)).before a st = _
    rw [Jvm.Cond.before_and, ih, List.all_cons]
def words1 : List Jvm.Cond := Jvm.Cond.code x code maxLocals ret :: tables_1
/-- a 'code' word, met by the world's own term for the bytes: nothing is compared byte by byte -/
theorem code_word {y : MethodName} {bytes : ByteArray} {mx : Nat} {rt : Option FieldType} {a : Array Value} {s : State} {m : MethodId} {meth : Method} {c : Code} (h1 : s.methodNamed? y = some m) (h2 : s.vm.method? m = some meth) (h3 : meth.code = some c) (h4 : c.code = bytes)
    (h5 : (c.maxLocals == mx && c.exceptionTable.isEmpty && decide (c.maxStack ≤ mostOperands) && decide (meth.sig.returnType = rt) && !meth.locks && decide (parseMethodDescriptor y.desc = some meth.sig)) = true) : (Jvm.Cond.code y bytes mx rt).before a s = true := by
  simp only [Bool.and_eq_true, beq_iff_eq, Bool.not_eq_true', decide_eq_true_eq] at h5
  obtain ⟨⟨⟨⟨⟨g1, g2⟩, g3⟩, g4⟩, g5⟩, g6⟩ := h5
  simp [Cond.before, Cond.holds, Cond.value, h1, h2, h3, h4, g1, g2, g3, g4, g5, g6]
def isCode : Jvm.Cond → Bool
  | .code _ _ _ _ => true
  | _ => false
theorem all_split {L : List Jvm.Cond} {P : Jvm.Cond → Bool} (h1 : L.all (fun c => isCode c || P c) = true) (h2 : ∀ c ∈ L.filter isCode, P c = true) : L.all P = true := by
  refine List.all_eq_true.mpr fun c hc => ?_
  have h := List.all_eq_true.mp h1 c hc
  rcases Bool.eq_false_or_eq_true (isCode c) with hi | hi
  · exact h2 c (List.mem_filter.mpr ⟨hc, hi⟩)
  · simpa [hi] using h
set_option maxRecDepth 65536 in
theorem w_c0 : (Jvm.Cond.code x code maxLocals ret).before args0 about1 = true := code_word (m := ⟨1, 2⟩) (meth := k1m2) (c := k1c2) (by decide +kernel) rfl rfl rfl (by decide +kernel)
set_option maxRecDepth 65536 in
theorem w_c1 : (Jvm.Cond.code ({ cls := "dev/changeline/envelope/Utf8", name := "byteOrderMarkLength", desc := "([BII)I" } : Jvm.MethodName) prog_119_method_3_code (4 : Nat) (Option.some Jvm.ClassFile.FieldType.int)).before args0 about1 = true := code_word (m := ⟨2, 1⟩) (meth := k2m1) (c := k2c1) (by decide +kernel) rfl rfl rfl (by decide +kernel)
set_option maxRecDepth 65536 in
theorem w_c2 : (Jvm.Cond.code ({ cls := "dev/changeline/envelope/Utf8ByteOrderMarkLengthPinLaw", name := "u", desc := "(B)I" } : Jvm.MethodName) method_2_code (1 : Nat) (Option.some Jvm.ClassFile.FieldType.int)).before args0 about1 = true := code_word (m := ⟨1, 1⟩) (meth := k1m1) (c := k1c1) (by decide +kernel) rfl rfl rfl (by decide +kernel)
def codes1 : List Jvm.Cond := [Jvm.Cond.code x code maxLocals ret, Jvm.Cond.code ({ cls := "dev/changeline/envelope/Utf8", name := "byteOrderMarkLength", desc := "([BII)I" } : Jvm.MethodName) prog_119_method_3_code (4 : Nat) (Option.some Jvm.ClassFile.FieldType.int), Jvm.Cond.code ({ cls := "dev/changeline/envelope/Utf8ByteOrderMarkLengthPinLaw", name := "u", desc := "(B)I" } : Jvm.MethodName) method_2_code (1 : Nat) (Option.some Jvm.ClassFile.FieldType.int)]
set_option maxRecDepth 65536 in
theorem codes_eq : words1.filter isCode = codes1 := rfl
theorem w_codes : ∀ c ∈ words1.filter isCode, c.before args0 about1 = true := by
  rw [codes_eq]
  intro c hc
  simp only [codes1, List.mem_cons, List.not_mem_nil, or_false] at hc
  rcases hc with rfl | rfl | rfl
  · exact w_c0
  · exact w_c1
  · exact w_c2
set_option maxRecDepth 65536 in
theorem w_t1 : words1.all (fun c => isCode c || c.before args0 about1) = true := by decide +kernel
theorem w_tables : (allAtoms (Jvm.Cond.code x code maxLocals ret :: tables_1)).before args0 about1 = true := by
  rw [allAtoms_all]
  show words1.all (fun c => c.before args0 about1) = true
  refine all_split ?_ w_codes
  rw [w_t1]
set_option maxRecDepth 65536 in
theorem w_case : (Jvm.Cond.and given_1 narrow_1).before args0 about1 = true := by decide +kernel
theorem w_applies : (headSpec (Jvm.Cond.code x code maxLocals ret :: tables_1) room_1).applies x e0.platform about1 = true :=
  (Spec.applies_iff w_frames).mpr ⟨w_running, w_runnable, w_alone, w_named, w_hears, w_ripe, w_room, w_tables⟩
theorem atStart : AtStart classFile x code maxLocals ret World_1 tables_1 room_1 Calls_1 rest_1 Pre_1 launch0 p0 e0 about1 theMethod args0 below0 :=
  ⟨lists_1, trivial, launch0.admits_env _ _ _, launch0.least_env, fairChoices_fair.cas, fairChoices_fair.clock, w_frames, w_args, w_heap, w_applies, trivial, trivial, w_case⟩
end start1
theorem witness_1 : WitnessClaimed_1 := ⟨start1.p0, start1.e0, start1.about1, start1.theMethod, start1.args0, start1.below0, start1.atStart⟩
end Jvm.Pilot.@@N@@
