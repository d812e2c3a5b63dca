import JvmDerived
import JvmDerived.Pilot.@@N@@Statement
import JvmDerived.Pilot.@@N@@Code
set_option linter.unusedVariables false
set_option linter.unusedSimpArgs false
namespace Jvm.RoadKit
open Sem ClassFile Op Lib Jvm.Stand Jvm.Free Jvm.LawKit
section New
variable {p : Program} {l : Launch} {e : Env} {R : Room} {s : State} {m : MethodId} {args : Array Value} {below : List Frame} {meth : Method} {c : Code} {T : State} {locs : List Loc} {cells slots : Nat}
theorem retI (X : Stand p l e R s m args below meth c T locs cells slots) (hx : p.tables.exec = Jvm.exec) {pc : Nat} {Ls : Array Slot} {z : Int32} {rest : List Value} (hret : meth.sig.returnType = some .int) (hd : decode c.code pc = .ok (.ireturn, 1)) {fs : List Frame}
    (hl : ∀ (f : JFrame) (acts : List Action), f.method = m → f.locked = none → f.entered = [] → (doReturn e (T.setTop f) acts (some (.int z))).1 = T.setFrames fs) : Steps p.tables e below (T.setTop (mkF m pc Ls (.int z :: rest))) (T.setFrames fs) := by
  have hm' : T.vm.method? m = some meth := X.method'
  have hn : narrow .int (.int z) = .int z := rfl
  show Steps p.tables e below (T.setTop { method := m, pc := pc, locals := Ls, stack := _ :: rest, locked := none }) _
  jvm_step X.here [X.here.top, hx, hd, hm', hret, hn]
  first | (intro acts; rw [hl _ acts rfl rfl rfl]) | rw [hl _ _ rfl rfl rfl]
  exact Steps.refl _
end New
end Jvm.RoadKit
namespace Jvm.Pilot.@@N@@
open Jvm Jvm.ClassFile Sem Op Lib Jvm.Free Jvm.Stand Jvm.LawKit Jvm.RoadKit Bundle Jvm.Pilot.@@N@@.Jvm.D
theorem d1_0 : decode prog_98_method_3_code 0 = .ok (.lload_n 1, 1) := by decide +kernel
theorem d1_1 : decode prog_98_method_3_code 1 = .ok (.bipush 6, 2) := by decide +kernel
theorem d1_3 : decode prog_98_method_3_code 3 = .ok (.lushr, 1) := by decide +kernel
theorem d1_4 : decode prog_98_method_3_code 4 = .ok (.l2i, 1) := by decide +kernel
theorem d1_5 : decode prog_98_method_3_code 5 = .ok (.istore 4, 2) := by decide +kernel
theorem d1_7 : decode prog_98_method_3_code 7 = .ok (.lload_n 1, 1) := by decide +kernel
theorem d1_8 : decode prog_98_method_3_code 8 = .ok (.l2i, 1) := by decide +kernel
theorem d1_9 : decode prog_98_method_3_code 9 = .ok (.bipush 63, 2) := by decide +kernel
theorem d1_11 : decode prog_98_method_3_code 11 = .ok (.iand, 1) := by decide +kernel
theorem d1_12 : decode prog_98_method_3_code 12 = .ok (.istore 5, 2) := by decide +kernel
theorem d1_14 : decode prog_98_method_3_code 14 = .ok (.aload_n 0, 1) := by decide +kernel
theorem d1_15 : decode prog_98_method_3_code 15 = .ok (.iload 4, 2) := by decide +kernel
theorem d1_17 : decode prog_98_method_3_code 17 = .ok (.laload, 1) := by decide +kernel
theorem d1_18 : decode prog_98_method_3_code 18 = .ok (.iload 5, 2) := by decide +kernel
theorem d1_20 : decode prog_98_method_3_code 20 = .ok (.lushr, 1) := by decide +kernel
theorem d1_21 : decode prog_98_method_3_code 21 = .ok (.lstore 6, 2) := by decide +kernel
theorem d1_23 : decode prog_98_method_3_code 23 = .ok (.iload 5, 2) := by decide +kernel
theorem d1_25 : decode prog_98_method_3_code 25 = .ok (.iload_n 3, 1) := by decide +kernel
theorem d1_26 : decode prog_98_method_3_code 26 = .ok (.iadd, 1) := by decide +kernel
theorem d1_27 : decode prog_98_method_3_code 27 = .ok (.bipush 64, 2) := by decide +kernel
theorem d1_29 : decode prog_98_method_3_code 29 = .ok (.if_icmp .le 20, 3) := by decide +kernel
theorem d1_49 : decode prog_98_method_3_code 49 = .ok (.lload 6, 2) := by decide +kernel
theorem d1_51 : decode prog_98_method_3_code 51 = .ok (.ldc2_w 15, 3) := by decide +kernel
theorem d1_54 : decode prog_98_method_3_code 54 = .ok (.bipush 64, 2) := by decide +kernel
theorem d1_56 : decode prog_98_method_3_code 56 = .ok (.iload_n 3, 1) := by decide +kernel
theorem d1_57 : decode prog_98_method_3_code 57 = .ok (.isub, 1) := by decide +kernel
theorem d1_58 : decode prog_98_method_3_code 58 = .ok (.lushr, 1) := by decide +kernel
theorem d1_59 : decode prog_98_method_3_code 59 = .ok (.land, 1) := by decide +kernel
theorem d1_60 : decode prog_98_method_3_code 60 = .ok (.lreturn, 1) := by decide +kernel
theorem pn_1 : plainName "com/example/inchworm/inchworm/PackedBits" = true := by first | (simp [plainName, overriddenIn]; done) | decide +kernel
theorem ef_1 (m : MethodId) (x0 : Addr) (x1 : Int64) (x2 : Int32) : entryFrame m #[(.ref x0), (.long x1), (.int x2)] 8 = mkF m 0 #[.val (.ref x0), .val (.long x1), .second, .val (.int x2), .unset, .unset, .unset, .unset] [] := by first | (simp [entryFrame, mkF, argsToLocals, Value.category]; done) | rfl
def Q1_t (Z : State) (a1 : Addr) (q2 : Int64) (p3 : Int32) (w4 : Int64) (cl_a1 : Cell) (h0 : Heap) (n0 : Nat) (v : Option Value) (h : Heap) (L : List Loc) : Prop := v = some (.long (((w4.toUInt64 >>> (((q2.toInt32) &&& (63 : Int32)) &&& 0x3f).toInt64.toUInt64).toInt64) &&& (((-1 : Int64).toUInt64 >>> (((64 : Int32) - p3) &&& 0x3f).toInt64.toUInt64).toInt64))) ∧ Fr n0 L ∧ h = h0
set_option maxRecDepth 65536 in
set_option maxHeartbeats 40000000 in
theorem rm1_t (l : Launch) (Z : State) (a0 : Array Value) (hw : ∀ d ∈ tables_1, d.before a0 Z = true) (ws : List Jvm.Cond) (a1 : Addr) (q2 : Int64) (p3 : Int32) (w4 : Int64) (cl_a1 : Cell) (h0 : Heap) (n0 : Nat) (Z0 : n0 ≤ h0.size) (Ar_a1 : Arr Z h0 a1 cl_a1 .long) (hin17 : ¬ ((((q2.toUInt64 >>> ((6 : Int32) &&& 0x3f).toInt64.toUInt64).toInt64).toInt32) < 0 ∨ cl_a1.slots.size ≤ ((((q2.toUInt64 >>> ((6 : Int32) &&& 0x3f).toInt64.toUInt64).toInt64).toInt32)).toNatClampNeg)) (hat17 : cl_a1.slots[((((q2.toUInt64 >>> ((6 : Int32) &&& 0x3f).toInt64.toUInt64).toInt64).toInt32)).toNatClampNeg]? = some (.long w4)) (hc29 : ¬ ((64 : Int32) < (((q2.toInt32) &&& (63 : Int32)) + p3))) :
    MetFree l (⟨"com/example/inchworm/inchworm/PackedBits", "get", "([JJI)J"⟩ : MethodName) (head1 (Jvm.Cond.code (⟨"com/example/inchworm/inchworm/PackedBits", "get", "([JJI)J"⟩ : MethodName) prog_98_method_3_code 8 (some .long) :: ws) ({ frames := 0, cells := 0, slots := 0, locals := 0 } : Room)) (fun a U => a = #[(.ref a1), (.long q2), (.int p3)] ∧ Z.Warmed39 U.vm ∧ U.heap = h0) (fun _ _ _ _ _ => True) (fun _ U o U' => ∃ v L, o = .returned v ∧ Q1_t Z a1 q2 p3 w4 cl_a1 h0 n0 v U'.heap L ∧ FrameEnd U o U' L ({ frames := 0, cells := 0, slots := 0, locals := 0 } : Room).cells ({ frames := 0, cells := 0, slots := 0, locals := 0 } : Room).slots) := by
  refine MetFree.of_bodySF (plainFor_of_name pn_1) hisR ?_
  intro p e s m args below meth c s₁ Bd hml0 hP hK
  obtain ⟨rfl, hZ, hh⟩ := hP
  have hx := Bd.exec
  have hby := Bd.bytes
  have hml : c.maxLocals = 8 := hml0
  have hown : s.vm.findClass "com/example/inchworm/inchworm/PackedBits" = some m.cls := findClass_of_methodNamed Bd.named
  have hnm := (name_of_methodNamed Bd.named Bd.method).1
  have X0 : Stand p l e ({ frames := 0, cells := 0, slots := 0, locals := 0 } : Room) s m #[(.ref a1), (.long q2), (.int p3)] below meth c s₁ [] 0 0 := Stand.of_body Bd
  have e0 : s₁.heap = h0 := by rw [← hh, Bd.state]; rfl
  have N0 := Fr.nil n0
  have pre0 : ∀ t, Steps p.tables e below (s₁.setTop (mkF m 0 #[.val (.ref a1), .val (.long q2), .second, .val (.int p3), .unset, .unset, .unset, .unset] [])) t → Steps p.tables e below (s₁.setTop (entryFrame m #[(.ref a1), (.long q2), (.int p3)] 8)) t := fun t k => castTop (ef_1 m a1 q2 p3) k

  obtain ⟨fs, hr, hrun, hended, hW, hsame⟩ := X0.leave (v := some (.long (((w4.toUInt64 >>> (((q2.toInt32) &&& (63 : Int32)) &&& 0x3f).toInt64.toUInt64).toInt64) &&& (((-1 : Int64).toUInt64 >>> (((64 : Int32) - p3) &&& 0x3f).toInt64.toUInt64).toInt64)))) (fun h => by rw [Bd.returns] at h; cases h)
  refine ⟨_, _, pre0 _ ?_, hrun, hended, _, _, rfl, ?_, ⟨_, rfl⟩, hW, hsame.mono (by decide) (by decide)⟩
  · show Steps p.tables e below (s₁.setTop (mkF m 0 #[.val (.ref a1), .val (.long q2), .second, .val (.int p3), .unset, .unset, .unset, .unset] [])) _
    refine XS.lloadN X0.here hx rfl (hb hby d1_0) rfl ?_
    show Steps p.tables e below (s₁.setTop (mkF m 1 #[.val (.ref a1), .val (.long q2), .second, .val (.int p3), .unset, .unset, .unset, .unset] [(.long q2)])) _
    refine XS.bipush X0.here hx rfl (hb hby d1_1) ?_
    show Steps p.tables e below (s₁.setTop (mkF m 3 #[.val (.ref a1), .val (.long q2), .second, .val (.int p3), .unset, .unset, .unset, .unset] [(.int (6 : Int32)), (.long q2)])) _
    refine XS.lushr X0.here hx rfl (hb hby d1_3) rfl ?_
    show Steps p.tables e below (s₁.setTop (mkF m 4 #[.val (.ref a1), .val (.long q2), .second, .val (.int p3), .unset, .unset, .unset, .unset] [(.long ((q2.toUInt64 >>> ((6 : Int32) &&& 0x3f).toInt64.toUInt64).toInt64))])) _
    refine XS.l2i X0.here hx rfl (hb hby d1_4) rfl ?_
    show Steps p.tables e below (s₁.setTop (mkF m 5 #[.val (.ref a1), .val (.long q2), .second, .val (.int p3), .unset, .unset, .unset, .unset] [(.int (((q2.toUInt64 >>> ((6 : Int32) &&& 0x3f).toInt64.toUInt64).toInt64).toInt32))])) _
    refine XS.istore X0.here hx rfl (hb hby d1_5) rfl (l' := #[.val (.ref a1), .val (.long q2), .second, .val (.int p3), .val (.int (((q2.toUInt64 >>> ((6 : Int32) &&& 0x3f).toInt64.toUInt64).toInt64).toInt32)), .unset, .unset, .unset]) rfl ?_
    show Steps p.tables e below (s₁.setTop (mkF m 7 #[.val (.ref a1), .val (.long q2), .second, .val (.int p3), .val (.int (((q2.toUInt64 >>> ((6 : Int32) &&& 0x3f).toInt64.toUInt64).toInt64).toInt32)), .unset, .unset, .unset] [])) _
    refine XS.lloadN X0.here hx rfl (hb hby d1_7) rfl ?_
    show Steps p.tables e below (s₁.setTop (mkF m 8 #[.val (.ref a1), .val (.long q2), .second, .val (.int p3), .val (.int (((q2.toUInt64 >>> ((6 : Int32) &&& 0x3f).toInt64.toUInt64).toInt64).toInt32)), .unset, .unset, .unset] [(.long q2)])) _
    refine XS.l2i X0.here hx rfl (hb hby d1_8) rfl ?_
    show Steps p.tables e below (s₁.setTop (mkF m 9 #[.val (.ref a1), .val (.long q2), .second, .val (.int p3), .val (.int (((q2.toUInt64 >>> ((6 : Int32) &&& 0x3f).toInt64.toUInt64).toInt64).toInt32)), .unset, .unset, .unset] [(.int (q2.toInt32))])) _
    refine XS.bipush X0.here hx rfl (hb hby d1_9) ?_
    show Steps p.tables e below (s₁.setTop (mkF m 11 #[.val (.ref a1), .val (.long q2), .second, .val (.int p3), .val (.int (((q2.toUInt64 >>> ((6 : Int32) &&& 0x3f).toInt64.toUInt64).toInt64).toInt32)), .unset, .unset, .unset] [(.int (63 : Int32)), (.int (q2.toInt32))])) _
    refine XS.iand X0.here hx rfl (hb hby d1_11) rfl ?_
    show Steps p.tables e below (s₁.setTop (mkF m 12 #[.val (.ref a1), .val (.long q2), .second, .val (.int p3), .val (.int (((q2.toUInt64 >>> ((6 : Int32) &&& 0x3f).toInt64.toUInt64).toInt64).toInt32)), .unset, .unset, .unset] [(.int ((q2.toInt32) &&& (63 : Int32)))])) _
    refine XS.istore X0.here hx rfl (hb hby d1_12) rfl (l' := #[.val (.ref a1), .val (.long q2), .second, .val (.int p3), .val (.int (((q2.toUInt64 >>> ((6 : Int32) &&& 0x3f).toInt64.toUInt64).toInt64).toInt32)), .val (.int ((q2.toInt32) &&& (63 : Int32))), .unset, .unset]) rfl ?_
    show Steps p.tables e below (s₁.setTop (mkF m 14 #[.val (.ref a1), .val (.long q2), .second, .val (.int p3), .val (.int (((q2.toUInt64 >>> ((6 : Int32) &&& 0x3f).toInt64.toUInt64).toInt64).toInt32)), .val (.int ((q2.toInt32) &&& (63 : Int32))), .unset, .unset] [])) _
    refine XS.aloadN X0.here hx rfl (hb hby d1_14) rfl rfl ?_
    show Steps p.tables e below (s₁.setTop (mkF m 15 #[.val (.ref a1), .val (.long q2), .second, .val (.int p3), .val (.int (((q2.toUInt64 >>> ((6 : Int32) &&& 0x3f).toInt64.toUInt64).toInt64).toInt32)), .val (.int ((q2.toInt32) &&& (63 : Int32))), .unset, .unset] [(.ref a1)])) _
    refine XS.iload X0.here hx rfl (hb hby d1_15) rfl ?_
    show Steps p.tables e below (s₁.setTop (mkF m 17 #[.val (.ref a1), .val (.long q2), .second, .val (.int p3), .val (.int (((q2.toUInt64 >>> ((6 : Int32) &&& 0x3f).toInt64.toUInt64).toInt64).toInt32)), .val (.int ((q2.toInt32) &&& (63 : Int32))), .unset, .unset] [(.int (((q2.toUInt64 >>> ((6 : Int32) &&& 0x3f).toInt64.toUInt64).toInt64).toInt32)), (.ref a1)])) _
    refine X0.laload hx (j := (((q2.toUInt64 >>> ((6 : Int32) &&& 0x3f).toInt64.toUInt64).toInt64).toInt32)) (v := (.long w4)) (by rw [e0]; exact Ar_a1.1) (State.isArrayOf_alike hZ.alike Ar_a1.2.1) Ar_a1.2.2 hin17 hat17 (g := (mkF m 17 #[.val (.ref a1), .val (.long q2), .second, .val (.int p3), .val (.int (((q2.toUInt64 >>> ((6 : Int32) &&& 0x3f).toInt64.toUInt64).toInt64).toInt32)), .val (.int ((q2.toInt32) &&& (63 : Int32))), .unset, .unset] [(.int (((q2.toUInt64 >>> ((6 : Int32) &&& 0x3f).toInt64.toUInt64).toInt64).toInt32)), (.ref a1)])) rfl rfl (hb hby d1_17) _ ?_
    show Steps p.tables e below (s₁.setTop (mkF m 18 #[.val (.ref a1), .val (.long q2), .second, .val (.int p3), .val (.int (((q2.toUInt64 >>> ((6 : Int32) &&& 0x3f).toInt64.toUInt64).toInt64).toInt32)), .val (.int ((q2.toInt32) &&& (63 : Int32))), .unset, .unset] [(.long w4)])) _
    refine XS.iload X0.here hx rfl (hb hby d1_18) rfl ?_
    show Steps p.tables e below (s₁.setTop (mkF m 20 #[.val (.ref a1), .val (.long q2), .second, .val (.int p3), .val (.int (((q2.toUInt64 >>> ((6 : Int32) &&& 0x3f).toInt64.toUInt64).toInt64).toInt32)), .val (.int ((q2.toInt32) &&& (63 : Int32))), .unset, .unset] [(.int ((q2.toInt32) &&& (63 : Int32))), (.long w4)])) _
    refine XS.lushr X0.here hx rfl (hb hby d1_20) rfl ?_
    show Steps p.tables e below (s₁.setTop (mkF m 21 #[.val (.ref a1), .val (.long q2), .second, .val (.int p3), .val (.int (((q2.toUInt64 >>> ((6 : Int32) &&& 0x3f).toInt64.toUInt64).toInt64).toInt32)), .val (.int ((q2.toInt32) &&& (63 : Int32))), .unset, .unset] [(.long ((w4.toUInt64 >>> (((q2.toInt32) &&& (63 : Int32)) &&& 0x3f).toInt64.toUInt64).toInt64))])) _
    refine XS.lstore X0.here hx rfl (hb hby d1_21) rfl (l' := #[.val (.ref a1), .val (.long q2), .second, .val (.int p3), .val (.int (((q2.toUInt64 >>> ((6 : Int32) &&& 0x3f).toInt64.toUInt64).toInt64).toInt32)), .val (.int ((q2.toInt32) &&& (63 : Int32))), .val (.long ((w4.toUInt64 >>> (((q2.toInt32) &&& (63 : Int32)) &&& 0x3f).toInt64.toUInt64).toInt64)), .second]) rfl ?_
    show Steps p.tables e below (s₁.setTop (mkF m 23 #[.val (.ref a1), .val (.long q2), .second, .val (.int p3), .val (.int (((q2.toUInt64 >>> ((6 : Int32) &&& 0x3f).toInt64.toUInt64).toInt64).toInt32)), .val (.int ((q2.toInt32) &&& (63 : Int32))), .val (.long ((w4.toUInt64 >>> (((q2.toInt32) &&& (63 : Int32)) &&& 0x3f).toInt64.toUInt64).toInt64)), .second] [])) _
    refine XS.iload X0.here hx rfl (hb hby d1_23) rfl ?_
    show Steps p.tables e below (s₁.setTop (mkF m 25 #[.val (.ref a1), .val (.long q2), .second, .val (.int p3), .val (.int (((q2.toUInt64 >>> ((6 : Int32) &&& 0x3f).toInt64.toUInt64).toInt64).toInt32)), .val (.int ((q2.toInt32) &&& (63 : Int32))), .val (.long ((w4.toUInt64 >>> (((q2.toInt32) &&& (63 : Int32)) &&& 0x3f).toInt64.toUInt64).toInt64)), .second] [(.int ((q2.toInt32) &&& (63 : Int32)))])) _
    refine XS.iloadN X0.here hx rfl (hb hby d1_25) rfl ?_
    show Steps p.tables e below (s₁.setTop (mkF m 26 #[.val (.ref a1), .val (.long q2), .second, .val (.int p3), .val (.int (((q2.toUInt64 >>> ((6 : Int32) &&& 0x3f).toInt64.toUInt64).toInt64).toInt32)), .val (.int ((q2.toInt32) &&& (63 : Int32))), .val (.long ((w4.toUInt64 >>> (((q2.toInt32) &&& (63 : Int32)) &&& 0x3f).toInt64.toUInt64).toInt64)), .second] [(.int p3), (.int ((q2.toInt32) &&& (63 : Int32)))])) _
    refine XS.iadd X0.here hx rfl (hb hby d1_26) rfl ?_
    show Steps p.tables e below (s₁.setTop (mkF m 27 #[.val (.ref a1), .val (.long q2), .second, .val (.int p3), .val (.int (((q2.toUInt64 >>> ((6 : Int32) &&& 0x3f).toInt64.toUInt64).toInt64).toInt32)), .val (.int ((q2.toInt32) &&& (63 : Int32))), .val (.long ((w4.toUInt64 >>> (((q2.toInt32) &&& (63 : Int32)) &&& 0x3f).toInt64.toUInt64).toInt64)), .second] [(.int (((q2.toInt32) &&& (63 : Int32)) + p3))])) _
    refine XS.bipush X0.here hx rfl (hb hby d1_27) ?_
    show Steps p.tables e below (s₁.setTop (mkF m 29 #[.val (.ref a1), .val (.long q2), .second, .val (.int p3), .val (.int (((q2.toUInt64 >>> ((6 : Int32) &&& 0x3f).toInt64.toUInt64).toInt64).toInt32)), .val (.int ((q2.toInt32) &&& (63 : Int32))), .val (.long ((w4.toUInt64 >>> (((q2.toInt32) &&& (63 : Int32)) &&& 0x3f).toInt64.toUInt64).toInt64)), .second] [(.int (64 : Int32)), (.int (((q2.toInt32) &&& (63 : Int32)) + p3))])) _
    refine XS.icmpYes X0.here hx rfl (pc0 := 29) (pc' := 49) rfl (hb hby d1_29) rfl (flt hc29).2.2.2 (by decide) (by decide) ?_
    show Steps p.tables e below (s₁.setTop (mkF m 49 #[.val (.ref a1), .val (.long q2), .second, .val (.int p3), .val (.int (((q2.toUInt64 >>> ((6 : Int32) &&& 0x3f).toInt64.toUInt64).toInt64).toInt32)), .val (.int ((q2.toInt32) &&& (63 : Int32))), .val (.long ((w4.toUInt64 >>> (((q2.toInt32) &&& (63 : Int32)) &&& 0x3f).toInt64.toUInt64).toInt64)), .second] [])) _
    refine XS.lload X0.here hx rfl (hb hby d1_49) rfl ?_
    show Steps p.tables e below (s₁.setTop (mkF m 51 #[.val (.ref a1), .val (.long q2), .second, .val (.int p3), .val (.int (((q2.toUInt64 >>> ((6 : Int32) &&& 0x3f).toInt64.toUInt64).toInt64).toInt32)), .val (.int ((q2.toInt32) &&& (63 : Int32))), .val (.long ((w4.toUInt64 >>> (((q2.toInt32) &&& (63 : Int32)) &&& 0x3f).toInt64.toUInt64).toInt64)), .second] [(.long ((w4.toUInt64 >>> (((q2.toInt32) &&& (63 : Int32)) &&& 0x3f).toInt64.toUInt64).toInt64))])) _
    refine X0.ldc2Long hx hown (mvT hZ (hw _ (List.mem_of_getElem? (i := 6) rfl))) (g := (mkF m 51 #[.val (.ref a1), .val (.long q2), .second, .val (.int p3), .val (.int (((q2.toUInt64 >>> ((6 : Int32) &&& 0x3f).toInt64.toUInt64).toInt64).toInt32)), .val (.int ((q2.toInt32) &&& (63 : Int32))), .val (.long ((w4.toUInt64 >>> (((q2.toInt32) &&& (63 : Int32)) &&& 0x3f).toInt64.toUInt64).toInt64)), .second] [(.long ((w4.toUInt64 >>> (((q2.toInt32) &&& (63 : Int32)) &&& 0x3f).toInt64.toUInt64).toInt64))])) rfl (hb hby d1_51) _ ?_
    show Steps p.tables e below (s₁.setTop (mkF m 54 #[.val (.ref a1), .val (.long q2), .second, .val (.int p3), .val (.int (((q2.toUInt64 >>> ((6 : Int32) &&& 0x3f).toInt64.toUInt64).toInt64).toInt32)), .val (.int ((q2.toInt32) &&& (63 : Int32))), .val (.long ((w4.toUInt64 >>> (((q2.toInt32) &&& (63 : Int32)) &&& 0x3f).toInt64.toUInt64).toInt64)), .second] [(.long (-1 : Int64)), (.long ((w4.toUInt64 >>> (((q2.toInt32) &&& (63 : Int32)) &&& 0x3f).toInt64.toUInt64).toInt64))])) _
    refine XS.bipush X0.here hx rfl (hb hby d1_54) ?_
    show Steps p.tables e below (s₁.setTop (mkF m 56 #[.val (.ref a1), .val (.long q2), .second, .val (.int p3), .val (.int (((q2.toUInt64 >>> ((6 : Int32) &&& 0x3f).toInt64.toUInt64).toInt64).toInt32)), .val (.int ((q2.toInt32) &&& (63 : Int32))), .val (.long ((w4.toUInt64 >>> (((q2.toInt32) &&& (63 : Int32)) &&& 0x3f).toInt64.toUInt64).toInt64)), .second] [(.int (64 : Int32)), (.long (-1 : Int64)), (.long ((w4.toUInt64 >>> (((q2.toInt32) &&& (63 : Int32)) &&& 0x3f).toInt64.toUInt64).toInt64))])) _
    refine XS.iloadN X0.here hx rfl (hb hby d1_56) rfl ?_
    show Steps p.tables e below (s₁.setTop (mkF m 57 #[.val (.ref a1), .val (.long q2), .second, .val (.int p3), .val (.int (((q2.toUInt64 >>> ((6 : Int32) &&& 0x3f).toInt64.toUInt64).toInt64).toInt32)), .val (.int ((q2.toInt32) &&& (63 : Int32))), .val (.long ((w4.toUInt64 >>> (((q2.toInt32) &&& (63 : Int32)) &&& 0x3f).toInt64.toUInt64).toInt64)), .second] [(.int p3), (.int (64 : Int32)), (.long (-1 : Int64)), (.long ((w4.toUInt64 >>> (((q2.toInt32) &&& (63 : Int32)) &&& 0x3f).toInt64.toUInt64).toInt64))])) _
    refine XS.isub X0.here hx rfl (hb hby d1_57) rfl ?_
    show Steps p.tables e below (s₁.setTop (mkF m 58 #[.val (.ref a1), .val (.long q2), .second, .val (.int p3), .val (.int (((q2.toUInt64 >>> ((6 : Int32) &&& 0x3f).toInt64.toUInt64).toInt64).toInt32)), .val (.int ((q2.toInt32) &&& (63 : Int32))), .val (.long ((w4.toUInt64 >>> (((q2.toInt32) &&& (63 : Int32)) &&& 0x3f).toInt64.toUInt64).toInt64)), .second] [(.int ((64 : Int32) - p3)), (.long (-1 : Int64)), (.long ((w4.toUInt64 >>> (((q2.toInt32) &&& (63 : Int32)) &&& 0x3f).toInt64.toUInt64).toInt64))])) _
    refine XS.lushr X0.here hx rfl (hb hby d1_58) rfl ?_
    show Steps p.tables e below (s₁.setTop (mkF m 59 #[.val (.ref a1), .val (.long q2), .second, .val (.int p3), .val (.int (((q2.toUInt64 >>> ((6 : Int32) &&& 0x3f).toInt64.toUInt64).toInt64).toInt32)), .val (.int ((q2.toInt32) &&& (63 : Int32))), .val (.long ((w4.toUInt64 >>> (((q2.toInt32) &&& (63 : Int32)) &&& 0x3f).toInt64.toUInt64).toInt64)), .second] [(.long (((-1 : Int64).toUInt64 >>> (((64 : Int32) - p3) &&& 0x3f).toInt64.toUInt64).toInt64)), (.long ((w4.toUInt64 >>> (((q2.toInt32) &&& (63 : Int32)) &&& 0x3f).toInt64.toUInt64).toInt64))])) _
    refine XS.land X0.here hx rfl (hb hby d1_59) rfl ?_
    show Steps p.tables e below (s₁.setTop (mkF m 60 #[.val (.ref a1), .val (.long q2), .second, .val (.int p3), .val (.int (((q2.toUInt64 >>> ((6 : Int32) &&& 0x3f).toInt64.toUInt64).toInt64).toInt32)), .val (.int ((q2.toInt32) &&& (63 : Int32))), .val (.long ((w4.toUInt64 >>> (((q2.toInt32) &&& (63 : Int32)) &&& 0x3f).toInt64.toUInt64).toInt64)), .second] [(.long (((w4.toUInt64 >>> (((q2.toInt32) &&& (63 : Int32)) &&& 0x3f).toInt64.toUInt64).toInt64) &&& (((-1 : Int64).toUInt64 >>> (((64 : Int32) - p3) &&& 0x3f).toInt64.toUInt64).toInt64)))])) _
    exact X0.lreturnOut hx Bd.returns (hb hby d1_60) hr
  · show Q1_t Z a1 q2 p3 w4 cl_a1 h0 n0 _ s₁.heap _
    rw [e0]
    exact ⟨rfl, N0, rfl⟩
theorem d1_32 : decode prog_98_method_3_code 32 = .ok (.lload 6, 2) := by decide +kernel
theorem d1_34 : decode prog_98_method_3_code 34 = .ok (.aload_n 0, 1) := by decide +kernel
theorem d1_35 : decode prog_98_method_3_code 35 = .ok (.iload 4, 2) := by decide +kernel
theorem d1_37 : decode prog_98_method_3_code 37 = .ok (.iconst 1, 1) := by decide +kernel
theorem d1_38 : decode prog_98_method_3_code 38 = .ok (.iadd, 1) := by decide +kernel
theorem d1_39 : decode prog_98_method_3_code 39 = .ok (.laload, 1) := by decide +kernel
theorem d1_40 : decode prog_98_method_3_code 40 = .ok (.bipush 64, 2) := by decide +kernel
theorem d1_42 : decode prog_98_method_3_code 42 = .ok (.iload 5, 2) := by decide +kernel
theorem d1_44 : decode prog_98_method_3_code 44 = .ok (.isub, 1) := by decide +kernel
theorem d1_45 : decode prog_98_method_3_code 45 = .ok (.lshl, 1) := by decide +kernel
theorem d1_46 : decode prog_98_method_3_code 46 = .ok (.lor, 1) := by decide +kernel
theorem d1_47 : decode prog_98_method_3_code 47 = .ok (.lstore 6, 2) := by decide +kernel
def Q1_f (Z : State) (a1 : Addr) (q2 : Int64) (p3 : Int32) (w4 : Int64) (cl_a1 : Cell) (w5 : Int64) (h0 : Heap) (n0 : Nat) (v : Option Value) (h : Heap) (L : List Loc) : Prop := v = some (.long ((((w4.toUInt64 >>> (((q2.toInt32) &&& (63 : Int32)) &&& 0x3f).toInt64.toUInt64).toInt64) ||| (w5 <<< (((64 : Int32) - ((q2.toInt32) &&& (63 : Int32))) &&& 0x3f).toInt64)) &&& (((-1 : Int64).toUInt64 >>> (((64 : Int32) - p3) &&& 0x3f).toInt64.toUInt64).toInt64))) ∧ Fr n0 L ∧ h = h0
set_option maxRecDepth 65536 in
set_option maxHeartbeats 40000000 in
theorem rm1_f (l : Launch) (Z : State) (a0 : Array Value) (hw : ∀ d ∈ tables_1, d.before a0 Z = true) (ws : List Jvm.Cond) (a1 : Addr) (q2 : Int64) (p3 : Int32) (w4 : Int64) (cl_a1 : Cell) (w5 : Int64) (h0 : Heap) (n0 : Nat) (Z0 : n0 ≤ h0.size) (Ar_a1 : Arr Z h0 a1 cl_a1 .long) (hin17 : ¬ ((((q2.toUInt64 >>> ((6 : Int32) &&& 0x3f).toInt64.toUInt64).toInt64).toInt32) < 0 ∨ cl_a1.slots.size ≤ ((((q2.toUInt64 >>> ((6 : Int32) &&& 0x3f).toInt64.toUInt64).toInt64).toInt32)).toNatClampNeg)) (hat17 : cl_a1.slots[((((q2.toUInt64 >>> ((6 : Int32) &&& 0x3f).toInt64.toUInt64).toInt64).toInt32)).toNatClampNeg]? = some (.long w4)) (hin39 : ¬ (((((q2.toUInt64 >>> ((6 : Int32) &&& 0x3f).toInt64.toUInt64).toInt64).toInt32) + (1 : Int32)) < 0 ∨ cl_a1.slots.size ≤ (((((q2.toUInt64 >>> ((6 : Int32) &&& 0x3f).toInt64.toUInt64).toInt64).toInt32) + (1 : Int32))).toNatClampNeg)) (hat39 : cl_a1.slots[(((((q2.toUInt64 >>> ((6 : Int32) &&& 0x3f).toInt64.toUInt64).toInt64).toInt32) + (1 : Int32))).toNatClampNeg]? = some (.long w5)) (hc29 : (64 : Int32) < (((q2.toInt32) &&& (63 : Int32)) + p3)) :
    MetFree l (⟨"com/example/inchworm/inchworm/PackedBits", "get", "([JJI)J"⟩ : MethodName) (head1 (Jvm.Cond.code (⟨"com/example/inchworm/inchworm/PackedBits", "get", "([JJI)J"⟩ : MethodName) prog_98_method_3_code 8 (some .long) :: ws) ({ frames := 0, cells := 0, slots := 0, locals := 0 } : Room)) (fun a U => a = #[(.ref a1), (.long q2), (.int p3)] ∧ Z.Warmed39 U.vm ∧ U.heap = h0) (fun _ _ _ _ _ => True) (fun _ U o U' => ∃ v L, o = .returned v ∧ Q1_f Z a1 q2 p3 w4 cl_a1 w5 h0 n0 v U'.heap L ∧ FrameEnd U o U' L ({ frames := 0, cells := 0, slots := 0, locals := 0 } : Room).cells ({ frames := 0, cells := 0, slots := 0, locals := 0 } : Room).slots) := by
  refine MetFree.of_bodySF (plainFor_of_name pn_1) hisR ?_
  intro p e s m args below meth c s₁ Bd hml0 hP hK
  obtain ⟨rfl, hZ, hh⟩ := hP
  have hx := Bd.exec
  have hby := Bd.bytes
  have hml : c.maxLocals = 8 := hml0
  have hown : s.vm.findClass "com/example/inchworm/inchworm/PackedBits" = some m.cls := findClass_of_methodNamed Bd.named
  have hnm := (name_of_methodNamed Bd.named Bd.method).1
  have X0 : Stand p l e ({ frames := 0, cells := 0, slots := 0, locals := 0 } : Room) s m #[(.ref a1), (.long q2), (.int p3)] below meth c s₁ [] 0 0 := Stand.of_body Bd
  have e0 : s₁.heap = h0 := by rw [← hh, Bd.state]; rfl
  have N0 := Fr.nil n0
  have pre0 : ∀ t, Steps p.tables e below (s₁.setTop (mkF m 0 #[.val (.ref a1), .val (.long q2), .second, .val (.int p3), .unset, .unset, .unset, .unset] [])) t → Steps p.tables e below (s₁.setTop (entryFrame m #[(.ref a1), (.long q2), (.int p3)] 8)) t := fun t k => castTop (ef_1 m a1 q2 p3) k

  obtain ⟨fs, hr, hrun, hended, hW, hsame⟩ := X0.leave (v := some (.long ((((w4.toUInt64 >>> (((q2.toInt32) &&& (63 : Int32)) &&& 0x3f).toInt64.toUInt64).toInt64) ||| (w5 <<< (((64 : Int32) - ((q2.toInt32) &&& (63 : Int32))) &&& 0x3f).toInt64)) &&& (((-1 : Int64).toUInt64 >>> (((64 : Int32) - p3) &&& 0x3f).toInt64.toUInt64).toInt64)))) (fun h => by rw [Bd.returns] at h; cases h)
  refine ⟨_, _, pre0 _ ?_, hrun, hended, _, _, rfl, ?_, ⟨_, rfl⟩, hW, hsame.mono (by decide) (by decide)⟩
  · show Steps p.tables e below (s₁.setTop (mkF m 0 #[.val (.ref a1), .val (.long q2), .second, .val (.int p3), .unset, .unset, .unset, .unset] [])) _
    refine XS.lloadN X0.here hx rfl (hb hby d1_0) rfl ?_
    show Steps p.tables e below (s₁.setTop (mkF m 1 #[.val (.ref a1), .val (.long q2), .second, .val (.int p3), .unset, .unset, .unset, .unset] [(.long q2)])) _
    refine XS.bipush X0.here hx rfl (hb hby d1_1) ?_
    show Steps p.tables e below (s₁.setTop (mkF m 3 #[.val (.ref a1), .val (.long q2), .second, .val (.int p3), .unset, .unset, .unset, .unset] [(.int (6 : Int32)), (.long q2)])) _
    refine XS.lushr X0.here hx rfl (hb hby d1_3) rfl ?_
    show Steps p.tables e below (s₁.setTop (mkF m 4 #[.val (.ref a1), .val (.long q2), .second, .val (.int p3), .unset, .unset, .unset, .unset] [(.long ((q2.toUInt64 >>> ((6 : Int32) &&& 0x3f).toInt64.toUInt64).toInt64))])) _
    refine XS.l2i X0.here hx rfl (hb hby d1_4) rfl ?_
    show Steps p.tables e below (s₁.setTop (mkF m 5 #[.val (.ref a1), .val (.long q2), .second, .val (.int p3), .unset, .unset, .unset, .unset] [(.int (((q2.toUInt64 >>> ((6 : Int32) &&& 0x3f).toInt64.toUInt64).toInt64).toInt32))])) _
    refine XS.istore X0.here hx rfl (hb hby d1_5) rfl (l' := #[.val (.ref a1), .val (.long q2), .second, .val (.int p3), .val (.int (((q2.toUInt64 >>> ((6 : Int32) &&& 0x3f).toInt64.toUInt64).toInt64).toInt32)), .unset, .unset, .unset]) rfl ?_
    show Steps p.tables e below (s₁.setTop (mkF m 7 #[.val (.ref a1), .val (.long q2), .second, .val (.int p3), .val (.int (((q2.toUInt64 >>> ((6 : Int32) &&& 0x3f).toInt64.toUInt64).toInt64).toInt32)), .unset, .unset, .unset] [])) _
    refine XS.lloadN X0.here hx rfl (hb hby d1_7) rfl ?_
    show Steps p.tables e below (s₁.setTop (mkF m 8 #[.val (.ref a1), .val (.long q2), .second, .val (.int p3), .val (.int (((q2.toUInt64 >>> ((6 : Int32) &&& 0x3f).toInt64.toUInt64).toInt64).toInt32)), .unset, .unset, .unset] [(.long q2)])) _
    refine XS.l2i X0.here hx rfl (hb hby d1_8) rfl ?_
    show Steps p.tables e below (s₁.setTop (mkF m 9 #[.val (.ref a1), .val (.long q2), .second, .val (.int p3), .val (.int (((q2.toUInt64 >>> ((6 : Int32) &&& 0x3f).toInt64.toUInt64).toInt64).toInt32)), .unset, .unset, .unset] [(.int (q2.toInt32))])) _
    refine XS.bipush X0.here hx rfl (hb hby d1_9) ?_
    show Steps p.tables e below (s₁.setTop (mkF m 11 #[.val (.ref a1), .val (.long q2), .second, .val (.int p3), .val (.int (((q2.toUInt64 >>> ((6 : Int32) &&& 0x3f).toInt64.toUInt64).toInt64).toInt32)), .unset, .unset, .unset] [(.int (63 : Int32)), (.int (q2.toInt32))])) _
    refine XS.iand X0.here hx rfl (hb hby d1_11) rfl ?_
    show Steps p.tables e below (s₁.setTop (mkF m 12 #[.val (.ref a1), .val (.long q2), .second, .val (.int p3), .val (.int (((q2.toUInt64 >>> ((6 : Int32) &&& 0x3f).toInt64.toUInt64).toInt64).toInt32)), .unset, .unset, .unset] [(.int ((q2.toInt32) &&& (63 : Int32)))])) _
    refine XS.istore X0.here hx rfl (hb hby d1_12) rfl (l' := #[.val (.ref a1), .val (.long q2), .second, .val (.int p3), .val (.int (((q2.toUInt64 >>> ((6 : Int32) &&& 0x3f).toInt64.toUInt64).toInt64).toInt32)), .val (.int ((q2.toInt32) &&& (63 : Int32))), .unset, .unset]) rfl ?_
    show Steps p.tables e below (s₁.setTop (mkF m 14 #[.val (.ref a1), .val (.long q2), .second, .val (.int p3), .val (.int (((q2.toUInt64 >>> ((6 : Int32) &&& 0x3f).toInt64.toUInt64).toInt64).toInt32)), .val (.int ((q2.toInt32) &&& (63 : Int32))), .unset, .unset] [])) _
    refine XS.aloadN X0.here hx rfl (hb hby d1_14) rfl rfl ?_
    show Steps p.tables e below (s₁.setTop (mkF m 15 #[.val (.ref a1), .val (.long q2), .second, .val (.int p3), .val (.int (((q2.toUInt64 >>> ((6 : Int32) &&& 0x3f).toInt64.toUInt64).toInt64).toInt32)), .val (.int ((q2.toInt32) &&& (63 : Int32))), .unset, .unset] [(.ref a1)])) _
    refine XS.iload X0.here hx rfl (hb hby d1_15) rfl ?_
    show Steps p.tables e below (s₁.setTop (mkF m 17 #[.val (.ref a1), .val (.long q2), .second, .val (.int p3), .val (.int (((q2.toUInt64 >>> ((6 : Int32) &&& 0x3f).toInt64.toUInt64).toInt64).toInt32)), .val (.int ((q2.toInt32) &&& (63 : Int32))), .unset, .unset] [(.int (((q2.toUInt64 >>> ((6 : Int32) &&& 0x3f).toInt64.toUInt64).toInt64).toInt32)), (.ref a1)])) _
    refine X0.laload hx (j := (((q2.toUInt64 >>> ((6 : Int32) &&& 0x3f).toInt64.toUInt64).toInt64).toInt32)) (v := (.long w4)) (by rw [e0]; exact Ar_a1.1) (State.isArrayOf_alike hZ.alike Ar_a1.2.1) Ar_a1.2.2 hin17 hat17 (g := (mkF m 17 #[.val (.ref a1), .val (.long q2), .second, .val (.int p3), .val (.int (((q2.toUInt64 >>> ((6 : Int32) &&& 0x3f).toInt64.toUInt64).toInt64).toInt32)), .val (.int ((q2.toInt32) &&& (63 : Int32))), .unset, .unset] [(.int (((q2.toUInt64 >>> ((6 : Int32) &&& 0x3f).toInt64.toUInt64).toInt64).toInt32)), (.ref a1)])) rfl rfl (hb hby d1_17) _ ?_
    show Steps p.tables e below (s₁.setTop (mkF m 18 #[.val (.ref a1), .val (.long q2), .second, .val (.int p3), .val (.int (((q2.toUInt64 >>> ((6 : Int32) &&& 0x3f).toInt64.toUInt64).toInt64).toInt32)), .val (.int ((q2.toInt32) &&& (63 : Int32))), .unset, .unset] [(.long w4)])) _
    refine XS.iload X0.here hx rfl (hb hby d1_18) rfl ?_
    show Steps p.tables e below (s₁.setTop (mkF m 20 #[.val (.ref a1), .val (.long q2), .second, .val (.int p3), .val (.int (((q2.toUInt64 >>> ((6 : Int32) &&& 0x3f).toInt64.toUInt64).toInt64).toInt32)), .val (.int ((q2.toInt32) &&& (63 : Int32))), .unset, .unset] [(.int ((q2.toInt32) &&& (63 : Int32))), (.long w4)])) _
    refine XS.lushr X0.here hx rfl (hb hby d1_20) rfl ?_
    show Steps p.tables e below (s₁.setTop (mkF m 21 #[.val (.ref a1), .val (.long q2), .second, .val (.int p3), .val (.int (((q2.toUInt64 >>> ((6 : Int32) &&& 0x3f).toInt64.toUInt64).toInt64).toInt32)), .val (.int ((q2.toInt32) &&& (63 : Int32))), .unset, .unset] [(.long ((w4.toUInt64 >>> (((q2.toInt32) &&& (63 : Int32)) &&& 0x3f).toInt64.toUInt64).toInt64))])) _
    refine XS.lstore X0.here hx rfl (hb hby d1_21) rfl (l' := #[.val (.ref a1), .val (.long q2), .second, .val (.int p3), .val (.int (((q2.toUInt64 >>> ((6 : Int32) &&& 0x3f).toInt64.toUInt64).toInt64).toInt32)), .val (.int ((q2.toInt32) &&& (63 : Int32))), .val (.long ((w4.toUInt64 >>> (((q2.toInt32) &&& (63 : Int32)) &&& 0x3f).toInt64.toUInt64).toInt64)), .second]) rfl ?_
    show Steps p.tables e below (s₁.setTop (mkF m 23 #[.val (.ref a1), .val (.long q2), .second, .val (.int p3), .val (.int (((q2.toUInt64 >>> ((6 : Int32) &&& 0x3f).toInt64.toUInt64).toInt64).toInt32)), .val (.int ((q2.toInt32) &&& (63 : Int32))), .val (.long ((w4.toUInt64 >>> (((q2.toInt32) &&& (63 : Int32)) &&& 0x3f).toInt64.toUInt64).toInt64)), .second] [])) _
    refine XS.iload X0.here hx rfl (hb hby d1_23) rfl ?_
    show Steps p.tables e below (s₁.setTop (mkF m 25 #[.val (.ref a1), .val (.long q2), .second, .val (.int p3), .val (.int (((q2.toUInt64 >>> ((6 : Int32) &&& 0x3f).toInt64.toUInt64).toInt64).toInt32)), .val (.int ((q2.toInt32) &&& (63 : Int32))), .val (.long ((w4.toUInt64 >>> (((q2.toInt32) &&& (63 : Int32)) &&& 0x3f).toInt64.toUInt64).toInt64)), .second] [(.int ((q2.toInt32) &&& (63 : Int32)))])) _
    refine XS.iloadN X0.here hx rfl (hb hby d1_25) rfl ?_
    show Steps p.tables e below (s₁.setTop (mkF m 26 #[.val (.ref a1), .val (.long q2), .second, .val (.int p3), .val (.int (((q2.toUInt64 >>> ((6 : Int32) &&& 0x3f).toInt64.toUInt64).toInt64).toInt32)), .val (.int ((q2.toInt32) &&& (63 : Int32))), .val (.long ((w4.toUInt64 >>> (((q2.toInt32) &&& (63 : Int32)) &&& 0x3f).toInt64.toUInt64).toInt64)), .second] [(.int p3), (.int ((q2.toInt32) &&& (63 : Int32)))])) _
    refine XS.iadd X0.here hx rfl (hb hby d1_26) rfl ?_
    show Steps p.tables e below (s₁.setTop (mkF m 27 #[.val (.ref a1), .val (.long q2), .second, .val (.int p3), .val (.int (((q2.toUInt64 >>> ((6 : Int32) &&& 0x3f).toInt64.toUInt64).toInt64).toInt32)), .val (.int ((q2.toInt32) &&& (63 : Int32))), .val (.long ((w4.toUInt64 >>> (((q2.toInt32) &&& (63 : Int32)) &&& 0x3f).toInt64.toUInt64).toInt64)), .second] [(.int (((q2.toInt32) &&& (63 : Int32)) + p3))])) _
    refine XS.bipush X0.here hx rfl (hb hby d1_27) ?_
    show Steps p.tables e below (s₁.setTop (mkF m 29 #[.val (.ref a1), .val (.long q2), .second, .val (.int p3), .val (.int (((q2.toUInt64 >>> ((6 : Int32) &&& 0x3f).toInt64.toUInt64).toInt64).toInt32)), .val (.int ((q2.toInt32) &&& (63 : Int32))), .val (.long ((w4.toUInt64 >>> (((q2.toInt32) &&& (63 : Int32)) &&& 0x3f).toInt64.toUInt64).toInt64)), .second] [(.int (64 : Int32)), (.int (((q2.toInt32) &&& (63 : Int32)) + p3))])) _
    refine XS.icmpNo X0.here hx rfl (hb hby d1_29) rfl (tlt hc29).2.2.2 ?_
    show Steps p.tables e below (s₁.setTop (mkF m 32 #[.val (.ref a1), .val (.long q2), .second, .val (.int p3), .val (.int (((q2.toUInt64 >>> ((6 : Int32) &&& 0x3f).toInt64.toUInt64).toInt64).toInt32)), .val (.int ((q2.toInt32) &&& (63 : Int32))), .val (.long ((w4.toUInt64 >>> (((q2.toInt32) &&& (63 : Int32)) &&& 0x3f).toInt64.toUInt64).toInt64)), .second] [])) _
    refine XS.lload X0.here hx rfl (hb hby d1_32) rfl ?_
    show Steps p.tables e below (s₁.setTop (mkF m 34 #[.val (.ref a1), .val (.long q2), .second, .val (.int p3), .val (.int (((q2.toUInt64 >>> ((6 : Int32) &&& 0x3f).toInt64.toUInt64).toInt64).toInt32)), .val (.int ((q2.toInt32) &&& (63 : Int32))), .val (.long ((w4.toUInt64 >>> (((q2.toInt32) &&& (63 : Int32)) &&& 0x3f).toInt64.toUInt64).toInt64)), .second] [(.long ((w4.toUInt64 >>> (((q2.toInt32) &&& (63 : Int32)) &&& 0x3f).toInt64.toUInt64).toInt64))])) _
    refine XS.aloadN X0.here hx rfl (hb hby d1_34) rfl rfl ?_
    show Steps p.tables e below (s₁.setTop (mkF m 35 #[.val (.ref a1), .val (.long q2), .second, .val (.int p3), .val (.int (((q2.toUInt64 >>> ((6 : Int32) &&& 0x3f).toInt64.toUInt64).toInt64).toInt32)), .val (.int ((q2.toInt32) &&& (63 : Int32))), .val (.long ((w4.toUInt64 >>> (((q2.toInt32) &&& (63 : Int32)) &&& 0x3f).toInt64.toUInt64).toInt64)), .second] [(.ref a1), (.long ((w4.toUInt64 >>> (((q2.toInt32) &&& (63 : Int32)) &&& 0x3f).toInt64.toUInt64).toInt64))])) _
    refine XS.iload X0.here hx rfl (hb hby d1_35) rfl ?_
    show Steps p.tables e below (s₁.setTop (mkF m 37 #[.val (.ref a1), .val (.long q2), .second, .val (.int p3), .val (.int (((q2.toUInt64 >>> ((6 : Int32) &&& 0x3f).toInt64.toUInt64).toInt64).toInt32)), .val (.int ((q2.toInt32) &&& (63 : Int32))), .val (.long ((w4.toUInt64 >>> (((q2.toInt32) &&& (63 : Int32)) &&& 0x3f).toInt64.toUInt64).toInt64)), .second] [(.int (((q2.toUInt64 >>> ((6 : Int32) &&& 0x3f).toInt64.toUInt64).toInt64).toInt32)), (.ref a1), (.long ((w4.toUInt64 >>> (((q2.toInt32) &&& (63 : Int32)) &&& 0x3f).toInt64.toUInt64).toInt64))])) _
    refine XS.iconst X0.here hx rfl (hb hby d1_37) ?_
    show Steps p.tables e below (s₁.setTop (mkF m 38 #[.val (.ref a1), .val (.long q2), .second, .val (.int p3), .val (.int (((q2.toUInt64 >>> ((6 : Int32) &&& 0x3f).toInt64.toUInt64).toInt64).toInt32)), .val (.int ((q2.toInt32) &&& (63 : Int32))), .val (.long ((w4.toUInt64 >>> (((q2.toInt32) &&& (63 : Int32)) &&& 0x3f).toInt64.toUInt64).toInt64)), .second] [(.int (1 : Int32)), (.int (((q2.toUInt64 >>> ((6 : Int32) &&& 0x3f).toInt64.toUInt64).toInt64).toInt32)), (.ref a1), (.long ((w4.toUInt64 >>> (((q2.toInt32) &&& (63 : Int32)) &&& 0x3f).toInt64.toUInt64).toInt64))])) _
    refine XS.iadd X0.here hx rfl (hb hby d1_38) rfl ?_
    show Steps p.tables e below (s₁.setTop (mkF m 39 #[.val (.ref a1), .val (.long q2), .second, .val (.int p3), .val (.int (((q2.toUInt64 >>> ((6 : Int32) &&& 0x3f).toInt64.toUInt64).toInt64).toInt32)), .val (.int ((q2.toInt32) &&& (63 : Int32))), .val (.long ((w4.toUInt64 >>> (((q2.toInt32) &&& (63 : Int32)) &&& 0x3f).toInt64.toUInt64).toInt64)), .second] [(.int ((((q2.toUInt64 >>> ((6 : Int32) &&& 0x3f).toInt64.toUInt64).toInt64).toInt32) + (1 : Int32))), (.ref a1), (.long ((w4.toUInt64 >>> (((q2.toInt32) &&& (63 : Int32)) &&& 0x3f).toInt64.toUInt64).toInt64))])) _
    refine X0.laload hx (j := ((((q2.toUInt64 >>> ((6 : Int32) &&& 0x3f).toInt64.toUInt64).toInt64).toInt32) + (1 : Int32))) (v := (.long w5)) (by rw [e0]; exact Ar_a1.1) (State.isArrayOf_alike hZ.alike Ar_a1.2.1) Ar_a1.2.2 hin39 hat39 (g := (mkF m 39 #[.val (.ref a1), .val (.long q2), .second, .val (.int p3), .val (.int (((q2.toUInt64 >>> ((6 : Int32) &&& 0x3f).toInt64.toUInt64).toInt64).toInt32)), .val (.int ((q2.toInt32) &&& (63 : Int32))), .val (.long ((w4.toUInt64 >>> (((q2.toInt32) &&& (63 : Int32)) &&& 0x3f).toInt64.toUInt64).toInt64)), .second] [(.int ((((q2.toUInt64 >>> ((6 : Int32) &&& 0x3f).toInt64.toUInt64).toInt64).toInt32) + (1 : Int32))), (.ref a1), (.long ((w4.toUInt64 >>> (((q2.toInt32) &&& (63 : Int32)) &&& 0x3f).toInt64.toUInt64).toInt64))])) rfl rfl (hb hby d1_39) _ ?_
    show Steps p.tables e below (s₁.setTop (mkF m 40 #[.val (.ref a1), .val (.long q2), .second, .val (.int p3), .val (.int (((q2.toUInt64 >>> ((6 : Int32) &&& 0x3f).toInt64.toUInt64).toInt64).toInt32)), .val (.int ((q2.toInt32) &&& (63 : Int32))), .val (.long ((w4.toUInt64 >>> (((q2.toInt32) &&& (63 : Int32)) &&& 0x3f).toInt64.toUInt64).toInt64)), .second] [(.long w5), (.long ((w4.toUInt64 >>> (((q2.toInt32) &&& (63 : Int32)) &&& 0x3f).toInt64.toUInt64).toInt64))])) _
    refine XS.bipush X0.here hx rfl (hb hby d1_40) ?_
    show Steps p.tables e below (s₁.setTop (mkF m 42 #[.val (.ref a1), .val (.long q2), .second, .val (.int p3), .val (.int (((q2.toUInt64 >>> ((6 : Int32) &&& 0x3f).toInt64.toUInt64).toInt64).toInt32)), .val (.int ((q2.toInt32) &&& (63 : Int32))), .val (.long ((w4.toUInt64 >>> (((q2.toInt32) &&& (63 : Int32)) &&& 0x3f).toInt64.toUInt64).toInt64)), .second] [(.int (64 : Int32)), (.long w5), (.long ((w4.toUInt64 >>> (((q2.toInt32) &&& (63 : Int32)) &&& 0x3f).toInt64.toUInt64).toInt64))])) _
    refine XS.iload X0.here hx rfl (hb hby d1_42) rfl ?_
    show Steps p.tables e below (s₁.setTop (mkF m 44 #[.val (.ref a1), .val (.long q2), .second, .val (.int p3), .val (.int (((q2.toUInt64 >>> ((6 : Int32) &&& 0x3f).toInt64.toUInt64).toInt64).toInt32)), .val (.int ((q2.toInt32) &&& (63 : Int32))), .val (.long ((w4.toUInt64 >>> (((q2.toInt32) &&& (63 : Int32)) &&& 0x3f).toInt64.toUInt64).toInt64)), .second] [(.int ((q2.toInt32) &&& (63 : Int32))), (.int (64 : Int32)), (.long w5), (.long ((w4.toUInt64 >>> (((q2.toInt32) &&& (63 : Int32)) &&& 0x3f).toInt64.toUInt64).toInt64))])) _
    refine XS.isub X0.here hx rfl (hb hby d1_44) rfl ?_
    show Steps p.tables e below (s₁.setTop (mkF m 45 #[.val (.ref a1), .val (.long q2), .second, .val (.int p3), .val (.int (((q2.toUInt64 >>> ((6 : Int32) &&& 0x3f).toInt64.toUInt64).toInt64).toInt32)), .val (.int ((q2.toInt32) &&& (63 : Int32))), .val (.long ((w4.toUInt64 >>> (((q2.toInt32) &&& (63 : Int32)) &&& 0x3f).toInt64.toUInt64).toInt64)), .second] [(.int ((64 : Int32) - ((q2.toInt32) &&& (63 : Int32)))), (.long w5), (.long ((w4.toUInt64 >>> (((q2.toInt32) &&& (63 : Int32)) &&& 0x3f).toInt64.toUInt64).toInt64))])) _
    refine XS.lshl X0.here hx rfl (hb hby d1_45) rfl ?_
    show Steps p.tables e below (s₁.setTop (mkF m 46 #[.val (.ref a1), .val (.long q2), .second, .val (.int p3), .val (.int (((q2.toUInt64 >>> ((6 : Int32) &&& 0x3f).toInt64.toUInt64).toInt64).toInt32)), .val (.int ((q2.toInt32) &&& (63 : Int32))), .val (.long ((w4.toUInt64 >>> (((q2.toInt32) &&& (63 : Int32)) &&& 0x3f).toInt64.toUInt64).toInt64)), .second] [(.long (w5 <<< (((64 : Int32) - ((q2.toInt32) &&& (63 : Int32))) &&& 0x3f).toInt64)), (.long ((w4.toUInt64 >>> (((q2.toInt32) &&& (63 : Int32)) &&& 0x3f).toInt64.toUInt64).toInt64))])) _
    refine XS.lor X0.here hx rfl (hb hby d1_46) rfl ?_
    show Steps p.tables e below (s₁.setTop (mkF m 47 #[.val (.ref a1), .val (.long q2), .second, .val (.int p3), .val (.int (((q2.toUInt64 >>> ((6 : Int32) &&& 0x3f).toInt64.toUInt64).toInt64).toInt32)), .val (.int ((q2.toInt32) &&& (63 : Int32))), .val (.long ((w4.toUInt64 >>> (((q2.toInt32) &&& (63 : Int32)) &&& 0x3f).toInt64.toUInt64).toInt64)), .second] [(.long (((w4.toUInt64 >>> (((q2.toInt32) &&& (63 : Int32)) &&& 0x3f).toInt64.toUInt64).toInt64) ||| (w5 <<< (((64 : Int32) - ((q2.toInt32) &&& (63 : Int32))) &&& 0x3f).toInt64)))])) _
    refine XS.lstore X0.here hx rfl (hb hby d1_47) rfl (l' := #[.val (.ref a1), .val (.long q2), .second, .val (.int p3), .val (.int (((q2.toUInt64 >>> ((6 : Int32) &&& 0x3f).toInt64.toUInt64).toInt64).toInt32)), .val (.int ((q2.toInt32) &&& (63 : Int32))), .val (.long (((w4.toUInt64 >>> (((q2.toInt32) &&& (63 : Int32)) &&& 0x3f).toInt64.toUInt64).toInt64) ||| (w5 <<< (((64 : Int32) - ((q2.toInt32) &&& (63 : Int32))) &&& 0x3f).toInt64))), .second]) rfl ?_
    show Steps p.tables e below (s₁.setTop (mkF m 49 #[.val (.ref a1), .val (.long q2), .second, .val (.int p3), .val (.int (((q2.toUInt64 >>> ((6 : Int32) &&& 0x3f).toInt64.toUInt64).toInt64).toInt32)), .val (.int ((q2.toInt32) &&& (63 : Int32))), .val (.long (((w4.toUInt64 >>> (((q2.toInt32) &&& (63 : Int32)) &&& 0x3f).toInt64.toUInt64).toInt64) ||| (w5 <<< (((64 : Int32) - ((q2.toInt32) &&& (63 : Int32))) &&& 0x3f).toInt64))), .second] [])) _
    refine XS.lload X0.here hx rfl (hb hby d1_49) rfl ?_
    show Steps p.tables e below (s₁.setTop (mkF m 51 #[.val (.ref a1), .val (.long q2), .second, .val (.int p3), .val (.int (((q2.toUInt64 >>> ((6 : Int32) &&& 0x3f).toInt64.toUInt64).toInt64).toInt32)), .val (.int ((q2.toInt32) &&& (63 : Int32))), .val (.long (((w4.toUInt64 >>> (((q2.toInt32) &&& (63 : Int32)) &&& 0x3f).toInt64.toUInt64).toInt64) ||| (w5 <<< (((64 : Int32) - ((q2.toInt32) &&& (63 : Int32))) &&& 0x3f).toInt64))), .second] [(.long (((w4.toUInt64 >>> (((q2.toInt32) &&& (63 : Int32)) &&& 0x3f).toInt64.toUInt64).toInt64) ||| (w5 <<< (((64 : Int32) - ((q2.toInt32) &&& (63 : Int32))) &&& 0x3f).toInt64)))])) _
    refine X0.ldc2Long hx hown (mvT hZ (hw _ (List.mem_of_getElem? (i := 6) rfl))) (g := (mkF m 51 #[.val (.ref a1), .val (.long q2), .second, .val (.int p3), .val (.int (((q2.toUInt64 >>> ((6 : Int32) &&& 0x3f).toInt64.toUInt64).toInt64).toInt32)), .val (.int ((q2.toInt32) &&& (63 : Int32))), .val (.long (((w4.toUInt64 >>> (((q2.toInt32) &&& (63 : Int32)) &&& 0x3f).toInt64.toUInt64).toInt64) ||| (w5 <<< (((64 : Int32) - ((q2.toInt32) &&& (63 : Int32))) &&& 0x3f).toInt64))), .second] [(.long (((w4.toUInt64 >>> (((q2.toInt32) &&& (63 : Int32)) &&& 0x3f).toInt64.toUInt64).toInt64) ||| (w5 <<< (((64 : Int32) - ((q2.toInt32) &&& (63 : Int32))) &&& 0x3f).toInt64)))])) rfl (hb hby d1_51) _ ?_
    show Steps p.tables e below (s₁.setTop (mkF m 54 #[.val (.ref a1), .val (.long q2), .second, .val (.int p3), .val (.int (((q2.toUInt64 >>> ((6 : Int32) &&& 0x3f).toInt64.toUInt64).toInt64).toInt32)), .val (.int ((q2.toInt32) &&& (63 : Int32))), .val (.long (((w4.toUInt64 >>> (((q2.toInt32) &&& (63 : Int32)) &&& 0x3f).toInt64.toUInt64).toInt64) ||| (w5 <<< (((64 : Int32) - ((q2.toInt32) &&& (63 : Int32))) &&& 0x3f).toInt64))), .second] [(.long (-1 : Int64)), (.long (((w4.toUInt64 >>> (((q2.toInt32) &&& (63 : Int32)) &&& 0x3f).toInt64.toUInt64).toInt64) ||| (w5 <<< (((64 : Int32) - ((q2.toInt32) &&& (63 : Int32))) &&& 0x3f).toInt64)))])) _
    refine XS.bipush X0.here hx rfl (hb hby d1_54) ?_
    show Steps p.tables e below (s₁.setTop (mkF m 56 #[.val (.ref a1), .val (.long q2), .second, .val (.int p3), .val (.int (((q2.toUInt64 >>> ((6 : Int32) &&& 0x3f).toInt64.toUInt64).toInt64).toInt32)), .val (.int ((q2.toInt32) &&& (63 : Int32))), .val (.long (((w4.toUInt64 >>> (((q2.toInt32) &&& (63 : Int32)) &&& 0x3f).toInt64.toUInt64).toInt64) ||| (w5 <<< (((64 : Int32) - ((q2.toInt32) &&& (63 : Int32))) &&& 0x3f).toInt64))), .second] [(.int (64 : Int32)), (.long (-1 : Int64)), (.long (((w4.toUInt64 >>> (((q2.toInt32) &&& (63 : Int32)) &&& 0x3f).toInt64.toUInt64).toInt64) ||| (w5 <<< (((64 : Int32) - ((q2.toInt32) &&& (63 : Int32))) &&& 0x3f).toInt64)))])) _
    refine XS.iloadN X0.here hx rfl (hb hby d1_56) rfl ?_
    show Steps p.tables e below (s₁.setTop (mkF m 57 #[.val (.ref a1), .val (.long q2), .second, .val (.int p3), .val (.int (((q2.toUInt64 >>> ((6 : Int32) &&& 0x3f).toInt64.toUInt64).toInt64).toInt32)), .val (.int ((q2.toInt32) &&& (63 : Int32))), .val (.long (((w4.toUInt64 >>> (((q2.toInt32) &&& (63 : Int32)) &&& 0x3f).toInt64.toUInt64).toInt64) ||| (w5 <<< (((64 : Int32) - ((q2.toInt32) &&& (63 : Int32))) &&& 0x3f).toInt64))), .second] [(.int p3), (.int (64 : Int32)), (.long (-1 : Int64)), (.long (((w4.toUInt64 >>> (((q2.toInt32) &&& (63 : Int32)) &&& 0x3f).toInt64.toUInt64).toInt64) ||| (w5 <<< (((64 : Int32) - ((q2.toInt32) &&& (63 : Int32))) &&& 0x3f).toInt64)))])) _
    refine XS.isub X0.here hx rfl (hb hby d1_57) rfl ?_
    show Steps p.tables e below (s₁.setTop (mkF m 58 #[.val (.ref a1), .val (.long q2), .second, .val (.int p3), .val (.int (((q2.toUInt64 >>> ((6 : Int32) &&& 0x3f).toInt64.toUInt64).toInt64).toInt32)), .val (.int ((q2.toInt32) &&& (63 : Int32))), .val (.long (((w4.toUInt64 >>> (((q2.toInt32) &&& (63 : Int32)) &&& 0x3f).toInt64.toUInt64).toInt64) ||| (w5 <<< (((64 : Int32) - ((q2.toInt32) &&& (63 : Int32))) &&& 0x3f).toInt64))), .second] [(.int ((64 : Int32) - p3)), (.long (-1 : Int64)), (.long (((w4.toUInt64 >>> (((q2.toInt32) &&& (63 : Int32)) &&& 0x3f).toInt64.toUInt64).toInt64) ||| (w5 <<< (((64 : Int32) - ((q2.toInt32) &&& (63 : Int32))) &&& 0x3f).toInt64)))])) _
    refine XS.lushr X0.here hx rfl (hb hby d1_58) rfl ?_
    show Steps p.tables e below (s₁.setTop (mkF m 59 #[.val (.ref a1), .val (.long q2), .second, .val (.int p3), .val (.int (((q2.toUInt64 >>> ((6 : Int32) &&& 0x3f).toInt64.toUInt64).toInt64).toInt32)), .val (.int ((q2.toInt32) &&& (63 : Int32))), .val (.long (((w4.toUInt64 >>> (((q2.toInt32) &&& (63 : Int32)) &&& 0x3f).toInt64.toUInt64).toInt64) ||| (w5 <<< (((64 : Int32) - ((q2.toInt32) &&& (63 : Int32))) &&& 0x3f).toInt64))), .second] [(.long (((-1 : Int64).toUInt64 >>> (((64 : Int32) - p3) &&& 0x3f).toInt64.toUInt64).toInt64)), (.long (((w4.toUInt64 >>> (((q2.toInt32) &&& (63 : Int32)) &&& 0x3f).toInt64.toUInt64).toInt64) ||| (w5 <<< (((64 : Int32) - ((q2.toInt32) &&& (63 : Int32))) &&& 0x3f).toInt64)))])) _
    refine XS.land X0.here hx rfl (hb hby d1_59) rfl ?_
    show Steps p.tables e below (s₁.setTop (mkF m 60 #[.val (.ref a1), .val (.long q2), .second, .val (.int p3), .val (.int (((q2.toUInt64 >>> ((6 : Int32) &&& 0x3f).toInt64.toUInt64).toInt64).toInt32)), .val (.int ((q2.toInt32) &&& (63 : Int32))), .val (.long (((w4.toUInt64 >>> (((q2.toInt32) &&& (63 : Int32)) &&& 0x3f).toInt64.toUInt64).toInt64) ||| (w5 <<< (((64 : Int32) - ((q2.toInt32) &&& (63 : Int32))) &&& 0x3f).toInt64))), .second] [(.long ((((w4.toUInt64 >>> (((q2.toInt32) &&& (63 : Int32)) &&& 0x3f).toInt64.toUInt64).toInt64) ||| (w5 <<< (((64 : Int32) - ((q2.toInt32) &&& (63 : Int32))) &&& 0x3f).toInt64)) &&& (((-1 : Int64).toUInt64 >>> (((64 : Int32) - p3) &&& 0x3f).toInt64.toUInt64).toInt64)))])) _
    exact X0.lreturnOut hx Bd.returns (hb hby d1_60) hr
  · show Q1_f Z a1 q2 p3 w4 cl_a1 w5 h0 n0 _ s₁.heap _
    rw [e0]
    exact ⟨rfl, N0, rfl⟩
theorem d2_0 : decode method_2_code 0 = .ok (.aload_n 0, 1) := by decide +kernel
theorem d2_1 : decode method_2_code 1 = .ok (.lload_n 1, 1) := by decide +kernel
theorem d2_2 : decode method_2_code 2 = .ok (.bipush 6, 2) := by decide +kernel
theorem d2_4 : decode method_2_code 4 = .ok (.lushr, 1) := by decide +kernel
theorem d2_5 : decode method_2_code 5 = .ok (.l2i, 1) := by decide +kernel
theorem d2_6 : decode method_2_code 6 = .ok (.laload, 1) := by decide +kernel
theorem d2_7 : decode method_2_code 7 = .ok (.lload_n 1, 1) := by decide +kernel
theorem d2_8 : decode method_2_code 8 = .ok (.ldc2_w 7, 3) := by decide +kernel
theorem d2_11 : decode method_2_code 11 = .ok (.land, 1) := by decide +kernel
theorem d2_12 : decode method_2_code 12 = .ok (.l2i, 1) := by decide +kernel
theorem d2_13 : decode method_2_code 13 = .ok (.lushr, 1) := by decide +kernel
theorem d2_14 : decode method_2_code 14 = .ok (.lconst 1, 1) := by decide +kernel
theorem d2_15 : decode method_2_code 15 = .ok (.land, 1) := by decide +kernel
theorem d2_16 : decode method_2_code 16 = .ok (.lreturn, 1) := by decide +kernel
theorem pn_2 : plainName "com/example/inchworm/inchworm/PackedBitsGetPinLaw" = true := by first | (simp [plainName, overriddenIn]; done) | decide +kernel
theorem ef_2 (m : MethodId) (x0 : Addr) (x1 : Int64) : entryFrame m #[(.ref x0), (.long x1)] 3 = mkF m 0 #[.val (.ref x0), .val (.long x1), .second] [] := by first | (simp [entryFrame, mkF, argsToLocals, Value.category]; done) | rfl
def Q2 (Z : State) (a1 : Addr) (q2 : Int64) (w3 : Int64) (cl_a1 : Cell) (h0 : Heap) (n0 : Nat) (v : Option Value) (h : Heap) (L : List Loc) : Prop := v = some (.long (((w3.toUInt64 >>> (((q2 &&& (63 : Int64)).toInt32) &&& 0x3f).toInt64.toUInt64).toInt64) &&& (1 : Int64))) ∧ Fr n0 L ∧ h = h0
set_option maxRecDepth 65536 in
set_option maxHeartbeats 40000000 in
theorem rm2 (l : Launch) (Z : State) (a0 : Array Value) (hw : ∀ d ∈ tables_1, d.before a0 Z = true) (ws : List Jvm.Cond) (a1 : Addr) (q2 : Int64) (w3 : Int64) (cl_a1 : Cell) (h0 : Heap) (n0 : Nat) (Z0 : n0 ≤ h0.size) (Ar_a1 : Arr Z h0 a1 cl_a1 .long) (hin6 : ¬ ((((q2.toUInt64 >>> ((6 : Int32) &&& 0x3f).toInt64.toUInt64).toInt64).toInt32) < 0 ∨ cl_a1.slots.size ≤ ((((q2.toUInt64 >>> ((6 : Int32) &&& 0x3f).toInt64.toUInt64).toInt64).toInt32)).toNatClampNeg)) (hat6 : cl_a1.slots[((((q2.toUInt64 >>> ((6 : Int32) &&& 0x3f).toInt64.toUInt64).toInt64).toInt32)).toNatClampNeg]? = some (.long w3)) :
    MetFree l (⟨"com/example/inchworm/inchworm/PackedBitsGetPinLaw", "arrayBit", "([JJ)J"⟩ : MethodName) (head1 (Jvm.Cond.code (⟨"com/example/inchworm/inchworm/PackedBitsGetPinLaw", "arrayBit", "([JJ)J"⟩ : MethodName) method_2_code 3 (some .long) :: ws) ({ frames := 0, cells := 0, slots := 0, locals := 0 } : Room)) (fun a U => a = #[(.ref a1), (.long q2)] ∧ Z.Warmed39 U.vm ∧ U.heap = h0) (fun _ _ _ _ _ => True) (fun _ U o U' => ∃ v L, o = .returned v ∧ Q2 Z a1 q2 w3 cl_a1 h0 n0 v U'.heap L ∧ FrameEnd U o U' L ({ frames := 0, cells := 0, slots := 0, locals := 0 } : Room).cells ({ frames := 0, cells := 0, slots := 0, locals := 0 } : Room).slots) := by
  refine MetFree.of_bodySF (plainFor_of_name pn_2) hisR ?_
  intro p e s m args below meth c s₁ Bd hml0 hP hK
  obtain ⟨rfl, hZ, hh⟩ := hP
  have hx := Bd.exec
  have hby := Bd.bytes
  have hml : c.maxLocals = 3 := hml0
  have hown : s.vm.findClass "com/example/inchworm/inchworm/PackedBitsGetPinLaw" = some m.cls := findClass_of_methodNamed Bd.named
  have hnm := (name_of_methodNamed Bd.named Bd.method).1
  have X0 : Stand p l e ({ frames := 0, cells := 0, slots := 0, locals := 0 } : Room) s m #[(.ref a1), (.long q2)] below meth c s₁ [] 0 0 := Stand.of_body Bd
  have e0 : s₁.heap = h0 := by rw [← hh, Bd.state]; rfl
  have N0 := Fr.nil n0
  have pre0 : ∀ t, Steps p.tables e below (s₁.setTop (mkF m 0 #[.val (.ref a1), .val (.long q2), .second] [])) t → Steps p.tables e below (s₁.setTop (entryFrame m #[(.ref a1), (.long q2)] 3)) t := fun t k => castTop (ef_2 m a1 q2) k

  obtain ⟨fs, hr, hrun, hended, hW, hsame⟩ := X0.leave (v := some (.long (((w3.toUInt64 >>> (((q2 &&& (63 : Int64)).toInt32) &&& 0x3f).toInt64.toUInt64).toInt64) &&& (1 : Int64)))) (fun h => by rw [Bd.returns] at h; cases h)
  refine ⟨_, _, pre0 _ ?_, hrun, hended, _, _, rfl, ?_, ⟨_, rfl⟩, hW, hsame.mono (by decide) (by decide)⟩
  · show Steps p.tables e below (s₁.setTop (mkF m 0 #[.val (.ref a1), .val (.long q2), .second] [])) _
    refine XS.aloadN X0.here hx rfl (hb hby d2_0) rfl rfl ?_
    show Steps p.tables e below (s₁.setTop (mkF m 1 #[.val (.ref a1), .val (.long q2), .second] [(.ref a1)])) _
    refine XS.lloadN X0.here hx rfl (hb hby d2_1) rfl ?_
    show Steps p.tables e below (s₁.setTop (mkF m 2 #[.val (.ref a1), .val (.long q2), .second] [(.long q2), (.ref a1)])) _
    refine XS.bipush X0.here hx rfl (hb hby d2_2) ?_
    show Steps p.tables e below (s₁.setTop (mkF m 4 #[.val (.ref a1), .val (.long q2), .second] [(.int (6 : Int32)), (.long q2), (.ref a1)])) _
    refine XS.lushr X0.here hx rfl (hb hby d2_4) rfl ?_
    show Steps p.tables e below (s₁.setTop (mkF m 5 #[.val (.ref a1), .val (.long q2), .second] [(.long ((q2.toUInt64 >>> ((6 : Int32) &&& 0x3f).toInt64.toUInt64).toInt64)), (.ref a1)])) _
    refine XS.l2i X0.here hx rfl (hb hby d2_5) rfl ?_
    show Steps p.tables e below (s₁.setTop (mkF m 6 #[.val (.ref a1), .val (.long q2), .second] [(.int (((q2.toUInt64 >>> ((6 : Int32) &&& 0x3f).toInt64.toUInt64).toInt64).toInt32)), (.ref a1)])) _
    refine X0.laload hx (j := (((q2.toUInt64 >>> ((6 : Int32) &&& 0x3f).toInt64.toUInt64).toInt64).toInt32)) (v := (.long w3)) (by rw [e0]; exact Ar_a1.1) (State.isArrayOf_alike hZ.alike Ar_a1.2.1) Ar_a1.2.2 hin6 hat6 (g := (mkF m 6 #[.val (.ref a1), .val (.long q2), .second] [(.int (((q2.toUInt64 >>> ((6 : Int32) &&& 0x3f).toInt64.toUInt64).toInt64).toInt32)), (.ref a1)])) rfl rfl (hb hby d2_6) _ ?_
    show Steps p.tables e below (s₁.setTop (mkF m 7 #[.val (.ref a1), .val (.long q2), .second] [(.long w3)])) _
    refine XS.lloadN X0.here hx rfl (hb hby d2_7) rfl ?_
    show Steps p.tables e below (s₁.setTop (mkF m 8 #[.val (.ref a1), .val (.long q2), .second] [(.long q2), (.long w3)])) _
    refine X0.ldc2Long hx hown (mvT hZ (hw _ (List.mem_of_getElem? (i := 11) rfl))) (g := (mkF m 8 #[.val (.ref a1), .val (.long q2), .second] [(.long q2), (.long w3)])) rfl (hb hby d2_8) _ ?_
    show Steps p.tables e below (s₁.setTop (mkF m 11 #[.val (.ref a1), .val (.long q2), .second] [(.long (63 : Int64)), (.long q2), (.long w3)])) _
    refine XS.land X0.here hx rfl (hb hby d2_11) rfl ?_
    show Steps p.tables e below (s₁.setTop (mkF m 12 #[.val (.ref a1), .val (.long q2), .second] [(.long (q2 &&& (63 : Int64))), (.long w3)])) _
    refine XS.l2i X0.here hx rfl (hb hby d2_12) rfl ?_
    show Steps p.tables e below (s₁.setTop (mkF m 13 #[.val (.ref a1), .val (.long q2), .second] [(.int ((q2 &&& (63 : Int64)).toInt32)), (.long w3)])) _
    refine XS.lushr X0.here hx rfl (hb hby d2_13) rfl ?_
    show Steps p.tables e below (s₁.setTop (mkF m 14 #[.val (.ref a1), .val (.long q2), .second] [(.long ((w3.toUInt64 >>> (((q2 &&& (63 : Int64)).toInt32) &&& 0x3f).toInt64.toUInt64).toInt64))])) _
    refine XS.lconst X0.here hx rfl (hb hby d2_14) ?_
    show Steps p.tables e below (s₁.setTop (mkF m 15 #[.val (.ref a1), .val (.long q2), .second] [(.long (1 : Int64)), (.long ((w3.toUInt64 >>> (((q2 &&& (63 : Int64)).toInt32) &&& 0x3f).toInt64.toUInt64).toInt64))])) _
    refine XS.land X0.here hx rfl (hb hby d2_15) rfl ?_
    show Steps p.tables e below (s₁.setTop (mkF m 16 #[.val (.ref a1), .val (.long q2), .second] [(.long (((w3.toUInt64 >>> (((q2 &&& (63 : Int64)).toInt32) &&& 0x3f).toInt64.toUInt64).toInt64) &&& (1 : Int64)))])) _
    exact X0.lreturnOut hx Bd.returns (hb hby d2_16) hr
  · show Q2 Z a1 q2 w3 cl_a1 h0 n0 _ s₁.heap _
    rw [e0]
    exact ⟨rfl, N0, rfl⟩
def own_idx (b : Int64) : Int32 := (((b.toUInt64 >>> ((6 : Int32) &&& 0x3f).toInt64.toUInt64).toInt64).toInt32)
def own_off (b : Int64) : Int32 := ((b.toInt32) &&& (63 : Int32))
def own_mk (p : Int32) : Int64 := (((-1 : Int64).toUInt64 >>> (((64 : Int32) - p) &&& 0x3f).toInt64.toUInt64).toInt64)
def own_sr (u : Int64) (s : Int32) : Int64 := ((u.toUInt64 >>> (s &&& 0x3f).toInt64.toUInt64).toInt64)
def own_get (b : Int64) (p : Int32) (u v : Int64) : Int64 := if (64 : Int32) < own_off b + p then ((own_sr u (own_off b) ||| (v <<< (((64 : Int32) - own_off b) &&& 0x3f).toInt64)) &&& own_mk p) else (own_sr u (own_off b) &&& own_mk p)
def own_arr (p : Int64) (u : Int64) : Int64 := (own_sr u ((p &&& (63 : Int64)).toInt32) &&& (1 : Int64))
def own_el (a b c : Int64) : Nat → Int64
  | 0 => a
  | 1 => b
  | _ => c
theorem own_pick (a b c : Int64) (n : Nat) (h : n < 3) : ([.long a, .long b, .long c] : List Value).getD n (.long (0 : Int64)) = .long (own_el a b c n) := by
  match n, h with
  | 0, _ => rfl
  | 1, _ => rfl
  | 2, _ => rfl
theorem own_fin : ∀ n : Fin 192, own_idx (Int64.ofNat n.val) = Int32.ofNat (n.val / 64) ∧ own_off (Int64.ofNat n.val) = Int32.ofNat (n.val % 64) ∧ ((Int64.ofNat n.val) &&& (63 : Int64)).toInt32 = Int32.ofNat (n.val % 64) := by decide +kernel
theorem own_of64 {b : Int64} (h0 : 0 ≤ b.toInt) : b = Int64.ofNat b.toInt.toNat := by
  apply Int64.toInt_inj.mp
  have := Int64.toInt_lt b
  rw [Int64.toInt_ofNat_of_lt (by omega)]
  omega
theorem own_of32 {b : Int32} (h0 : 0 ≤ b.toInt) : b = Int32.ofNat b.toInt.toNat := by
  apply Int32.toInt_inj.mp
  have := Int32.toInt_lt b
  rw [Int32.toInt_ofNat_of_lt (by omega)]
  omega
theorem own_facts {b : Int64} (h0 : 0 ≤ b.toInt) (h1 : b.toInt < 192) : own_idx b = Int32.ofNat (b.toInt.toNat / 64) ∧ own_off b = Int32.ofNat (b.toInt.toNat % 64) ∧ (b &&& (63 : Int64)).toInt32 = Int32.ofNat (b.toInt.toNat % 64) := by
  have h := own_fin ⟨b.toInt.toNat, by omega⟩
  rw [← own_of64 h0] at h
  exact h
theorem own_n32 {n : Nat} (h : n < 1000) : (Int32.ofNat n).toInt = n := Int32.toInt_ofNat_of_lt (by omega)
theorem own_c32 {n : Nat} (h : n < 1000) : (Int32.ofNat n).toNatClampNeg = n := by
  show (Int32.ofNat n).toInt.toNat = n
  rw [own_n32 h]; rfl
theorem own_shr (u : Int64) (n : Nat) (h : n < 64) : (own_sr u (Int32.ofNat n)).toBitVec = u.toBitVec >>> n := by
  have hq : (Int32.ofNat n).toBitVec.toNat % 64 = n := by
    show (BitVec.ofNat 32 n).toNat % 64 = n
    rw [BitVec.toNat_ofNat]; omega
  show u.toBitVec >>> ((Int32.ofNat n &&& 0x3f).toInt64.toBitVec % 64) = u.toBitVec >>> n
  rw [BitVec.ushiftRight_eq', BitVec.toNat_umod, (sm64 _ n hq).1, BitVec.toNat_ofNat]
  congr 1
  show n % 2 ^ 64 % 64 = n
  omega
theorem own_shl (u : Int64) (n : Nat) (h : n < 64) : (u <<< (Int32.ofNat n &&& 0x3f).toInt64).toBitVec = u.toBitVec <<< n := by
  have hq : (Int32.ofNat n).toBitVec.toNat % 64 = n := by
    show (BitVec.ofNat 32 n).toNat % 64 = n
    rw [BitVec.toNat_ofNat]; omega
  show u.toBitVec <<< ((Int32.ofNat n &&& 0x3f).toInt64.toBitVec.smod 64) = u.toBitVec <<< n
  rw [BitVec.shiftLeft_eq', (sm64 _ n hq).1, smod64 n h]
theorem own_bit (u : Int64) (n : Nat) (h : n < 64) : (own_sr u (Int32.ofNat n) &&& (1 : Int64)) = if u.toBitVec.getLsbD n then (1 : Int64) else 0 := by
  apply Int64.toBitVec_inj.mp
  show (own_sr u (Int32.ofNat n)).toBitVec &&& 1#64 = _
  rw [own_shr u n h]
  apply BitVec.eq_of_getLsbD_eq
  intro i hi
  rw [BitVec.getLsbD_and, BitVec.getLsbD_ushiftRight]
  rcases i with _ | i
  · cases hb : u.toBitVec.getLsbD n <;> simp [hb]
  · cases hb : u.toBitVec.getLsbD n <;> simp
theorem own_64m : ∀ n : Fin 65, (64 : Int32) - Int32.ofNat n.val = Int32.ofNat (64 - n.val) := by decide +kernel
theorem own_mask {n k : Nat} (h1 : 1 ≤ n) (h2 : n ≤ 64) : (own_mk (Int32.ofNat n)).toBitVec.getLsbD k = decide (k < n) := by
  have e : own_mk (Int32.ofNat n) = own_sr (-1 : Int64) (Int32.ofNat (64 - n)) := by rw [← own_64m ⟨n, by omega⟩]; rfl
  rw [e, own_shr _ _ (by omega), BitVec.getLsbD_ushiftRight, show (-1 : Int64).toBitVec = BitVec.allOnes 64 by decide, BitVec.getLsbD_allOnes]
  simp only [decide_eq_decide]; omega
theorem own_i0 : (0 : Int32).toInt = 0 := by decide
theorem own_i3 : (3 : Int32).toInt = 3 := by decide
theorem own_i64 : (64 : Int32).toInt = 64 := by decide
theorem own_bits (q1 q2 q3 b : Int64) (w k : Int32) (hb0 : 0 ≤ b.toInt) (hw1 : 1 ≤ w.toInt) (hw2 : w.toInt ≤ 64) (hbw : b.toInt + w.toInt ≤ 192) (hk0 : 0 ≤ k.toInt) (hk1 : k.toInt ≤ 63) :
    (own_get b w (own_el q1 q2 q3 (own_idx b).toNatClampNeg) (own_el q1 q2 q3 (own_idx b + 1).toNatClampNeg)).toBitVec.getLsbD k.toInt.toNat = if k.toInt < w.toInt then (own_el q1 q2 q3 ((b.toInt.toNat + k.toInt.toNat) / 64)).toBitVec.getLsbD ((b.toInt.toNat + k.toInt.toNat) % 64) else false := by
  obtain ⟨f1, f2, -⟩ := own_facts hb0 (by omega)
  have fw := own_of32 (b := w) (by omega)
  obtain ⟨N, hN⟩ : ∃ N, N = b.toInt.toNat := ⟨_, rfl⟩
  obtain ⟨K, hK⟩ : ∃ K, K = k.toInt.toNat := ⟨_, rfl⟩
  obtain ⟨W, hW⟩ : ∃ W, W = w.toInt.toNat := ⟨_, rfl⟩
  rw [← hN] at f1 f2; rw [← hW] at fw
  have i1 : (own_idx b).toNatClampNeg = N / 64 := by rw [f1, own_c32 (by omega)]
  have i2 : (own_idx b + 1).toNatClampNeg = N / 64 + 1 := by
    rw [f1, show Int32.ofNat (N / 64) + 1 = Int32.ofNat (N / 64 + 1) by
      apply Int32.toInt_inj.mp
      rw [Int32.toInt_add, own_n32 (by omega), own_n32 (by omega), show (1 : Int32).toInt = 1 by decide]
      rw [Int.bmod_eq_of_le_mul_two (by omega) (by omega)]; omega, own_c32 (by omega)]
  rw [i1, i2, ← hN, ← hK]
  have hc : (64 : Int32) < own_off b + w ↔ 64 < N % 64 + W := by
    rw [f2, Int32.lt_iff_toInt_lt, Int32.toInt_add, own_n32 (by omega), own_i64, Int.bmod_eq_of_le_mul_two (by omega) (by omega)]
    omega
  have hkw : k.toInt < w.toInt ↔ K < W := by omega
  have hu : ∀ u : Int64, (own_sr u (own_off b)).toBitVec.getLsbD K = u.toBitVec.getLsbD (N % 64 + K) := fun u => by rw [f2, own_shr u _ (by omega), BitVec.getLsbD_ushiftRight]
  have hm : (own_mk w).toBitVec.getLsbD K = decide (K < W) := by rw [fw]; exact own_mask (by omega) (by omega)
  simp only [hkw]
  by_cases c : 64 < N % 64 + W
  · have hs : ∀ v : Int64, (v <<< (((64 : Int32) - own_off b) &&& 0x3f).toInt64).toBitVec.getLsbD K = (decide (64 - N % 64 ≤ K) && v.toBitVec.getLsbD (K - (64 - N % 64))) := fun v => by
      rw [f2, own_64m ⟨N % 64, by omega⟩]
      show (v <<< (Int32.ofNat (64 - N % 64) &&& 0x3f).toInt64).toBitVec.getLsbD K = _
      rw [own_shl v _ (by omega), BitVec.getLsbD_shiftLeft]
      by_cases q : K < 64 - N % 64
      · simp [q, show ¬ (64 - N % 64 ≤ K) by omega]
      · simp [q, show K < 64 by omega, show 64 - N % 64 ≤ K by omega]
    rw [own_get, if_pos (hc.mpr c)]
    show (((own_sr _ (own_off b)).toBitVec ||| (_ <<< (((64 : Int32) - own_off b) &&& 0x3f).toInt64).toBitVec) &&& (own_mk w).toBitVec).getLsbD K = _
    rw [BitVec.getLsbD_and, BitVec.getLsbD_or, hu, hs, hm]
    by_cases q : K < W
    · rw [if_pos q, decide_eq_true q, Bool.and_true]
      by_cases r : N % 64 + K < 64
      · rw [show (N + K) / 64 = N / 64 by omega, show (N + K) % 64 = N % 64 + K by omega, decide_eq_false (show ¬ (64 - N % 64 ≤ K) by omega), Bool.false_and, Bool.or_false]
      · rw [show (N + K) / 64 = N / 64 + 1 by omega, show (N + K) % 64 = K - (64 - N % 64) by omega, decide_eq_true (show 64 - N % 64 ≤ K by omega), BitVec.getLsbD_of_ge _ _ (by omega), Bool.true_and, Bool.false_or]
    · rw [if_neg q, decide_eq_false q, Bool.and_false]
  · rw [own_get, if_neg (fun h => c (hc.mp h))]
    show ((own_sr _ (own_off b)).toBitVec &&& (own_mk w).toBitVec).getLsbD K = _
    rw [BitVec.getLsbD_and, hu, hm]
    by_cases q : K < W
    · rw [if_pos q, decide_eq_true q, Bool.and_true, show (N + K) / 64 = N / 64 by omega, show (N + K) % 64 = N % 64 + K by omega]
    · rw [if_neg q, decide_eq_false q, Bool.and_false]
theorem own_law (q1 q2 q3 b : Int64) (w k : Int32) (hb0 : 0 ≤ b.toInt) (hw1 : 1 ≤ w.toInt) (hw2 : w.toInt ≤ 64) (hbw : b.toInt + w.toInt ≤ 192) (hk0 : 0 ≤ k.toInt) (hk1 : k.toInt ≤ 63) :
    (¬ own_idx b < 0 ∧ own_idx b < 3) ∧ ((64 : Int32) < own_off b + w → ¬ own_idx b + 1 < 0 ∧ own_idx b + 1 < 3) ∧ (k < w → (¬ own_idx (b + k.toInt64) < 0 ∧ own_idx (b + k.toInt64) < 3) ∧ (own_sr (own_get b w (own_el q1 q2 q3 (own_idx b).toNatClampNeg) (own_el q1 q2 q3 (own_idx b + 1).toNatClampNeg)) k &&& (1 : Int64)) = own_arr (b + k.toInt64) (own_el q1 q2 q3 (own_idx (b + k.toInt64)).toNatClampNeg)) ∧
      (¬ k < w → (own_sr (own_get b w (own_el q1 q2 q3 (own_idx b).toNatClampNeg) (own_el q1 q2 q3 (own_idx b + 1).toNatClampNeg)) k &&& (1 : Int64)) = 0) := by
  have hB := own_bits q1 q2 q3 b w k hb0 hw1 hw2 hbw hk0 hk1
  obtain ⟨f1, f2, -⟩ := own_facts hb0 (by omega)
  have fk := own_of32 (b := k) (by omega)
  have g : ∀ u : Int64, (own_sr u k &&& (1 : Int64)) = if u.toBitVec.getLsbD k.toInt.toNat then (1 : Int64) else 0 := fun u => by
    rw [← own_bit u k.toInt.toNat (by omega), ← fk]
  have one : (1 : Int32).toInt = 1 := by decide
  refine ⟨⟨?_, ?_⟩, fun c => ⟨?_, ?_⟩, fun c => ?_, fun c => ?_⟩
  · rw [f1, Int32.lt_iff_toInt_lt, own_n32 (by omega), own_i0]; omega
  · rw [f1, Int32.lt_iff_toInt_lt, own_n32 (by omega), own_i3]; omega
  · rw [f1, Int32.lt_iff_toInt_lt, Int32.toInt_add, own_n32 (by omega), own_i0, one, Int.bmod_eq_of_le_mul_two (by omega) (by omega)]; omega
  · rw [f2, Int32.lt_iff_toInt_lt, Int32.toInt_add, own_n32 (by omega), own_i64, Int.bmod_eq_of_le_mul_two (by omega) (by omega)] at c
    rw [f1, Int32.lt_iff_toInt_lt, Int32.toInt_add, own_n32 (by omega), own_i3, one, Int.bmod_eq_of_le_mul_two (by omega) (by omega)]; omega
  · rw [Int32.lt_iff_toInt_lt] at c
    have e : (b + k.toInt64).toInt = b.toInt + k.toInt := by rw [Int64.toInt_add, Int32.toInt_toInt64]; exact Int.bmod_eq_of_le_mul_two (by omega) (by omega)
    obtain ⟨j1, -, j3⟩ := own_facts (b := b + k.toInt64) (by omega) (by omega)
    have en : (b + k.toInt64).toInt.toNat = b.toInt.toNat + k.toInt.toNat := by omega
    rw [en] at j1 j3
    refine ⟨⟨?_, ?_⟩, ?_⟩
    · rw [j1, Int32.lt_iff_toInt_lt, own_n32 (by omega), own_i0]; omega
    · rw [j1, Int32.lt_iff_toInt_lt, own_n32 (by omega), own_i3]; omega
    · rw [g, hB, if_pos c, own_arr, j3, own_bit _ _ (by omega), j1, own_c32 (by omega)]
  · rw [Int32.lt_iff_toInt_lt] at c
    rw [g, hB, if_neg c]; rfl
theorem own_w (p : Int32) : 1 ≤ ((p &&& (63 : Int32)) + (1 : Int32)).toInt ∧ ((p &&& (63 : Int32)) + (1 : Int32)).toInt ≤ 64 := by
  have h := c_and p (63 : Int32) (by decide)
  rw [show (63 : Int32).toInt = 63 by decide] at h
  rw [Int32.toInt_add, show (1 : Int32).toInt = 1 by decide, Int.bmod_eq_of_le_mul_two (by omega) (by omega)]
  omega
theorem own_k (p : Int32) : 0 ≤ (p &&& (63 : Int32)).toInt ∧ (p &&& (63 : Int32)).toInt ≤ 63 := by
  have h := c_and p (63 : Int32) (by decide)
  rw [show (63 : Int32).toInt = 63 by decide] at h
  exact h
theorem own_irem (x y : Int32) : x - (x / y) * y = x % y := irem_eq_mod x y
theorem own_193 {w : Int32} (h1 : 1 ≤ w.toInt) (h2 : w.toInt ≤ 64) : ((193 : Int32) - w).toInt = 193 - w.toInt := by
  rw [Int32.toInt_sub, show (193 : Int32).toInt = 193 by decide]
  exact Int.bmod_eq_of_le_mul_two (by omega) (by omega)
theorem own_nz {w : Int32} (h1 : 1 ≤ w.toInt) (h2 : w.toInt ≤ 64) : ¬ (((193 : Int32) - w) = (0 : Int32)) := fun q => by
  have := own_193 h1 h2
  rw [q, own_i0] at this
  omega
theorem own_b (p w : Int32) (h1 : 1 ≤ w.toInt) (h2 : w.toInt ≤ 64) : 0 ≤ (((p &&& (2147483647 : Int32)) - ((p &&& (2147483647 : Int32)) / ((193 : Int32) - w)) * ((193 : Int32) - w)).toInt64).toInt ∧ (((p &&& (2147483647 : Int32)) - ((p &&& (2147483647 : Int32)) / ((193 : Int32) - w)) * ((193 : Int32) - w)).toInt64).toInt + w.toInt ≤ 192 := by
  rw [own_irem, Int32.toInt_toInt64]
  have e := own_193 h1 h2
  have q := (c_iremV (p &&& (2147483647 : Int32)) ((193 : Int32) - w)).1 (c_and p (2147483647 : Int32) (by decide)).1 (by omega)
  omega
def QL (r : Int64) (h0 : Heap) (n0 : Nat) (v : Option Value) (h : Heap) (L : List Loc) : Prop := v = some (.long r) ∧ Fr n0 L ∧ h = h0
theorem rm1 (l : Launch) (Z : State) (a0 : Array Value) (hw : ∀ d ∈ tables_1, d.before a0 Z = true) (ws : List Jvm.Cond) (a1 : Addr) (q2 : Int64) (p3 : Int32) (w4 w5 : Int64) (cl_a1 : Cell) (h0 : Heap) (n0 : Nat) (Z0 : n0 ≤ h0.size) (Ar_a1 : Arr Z h0 a1 cl_a1 .long) (hin17 : ¬ (own_idx q2 < 0 ∨ cl_a1.slots.size ≤ (own_idx q2).toNatClampNeg)) (hat17 : cl_a1.slots[(own_idx q2).toNatClampNeg]? = some (.long w4)) (h39 : (64 : Int32) < own_off q2 + p3 → ¬ (own_idx q2 + 1 < 0 ∨ cl_a1.slots.size ≤ (own_idx q2 + 1).toNatClampNeg) ∧ cl_a1.slots[(own_idx q2 + 1).toNatClampNeg]? = some (.long w5)) :
    MetFree l (⟨"com/example/inchworm/inchworm/PackedBits", "get", "([JJI)J"⟩ : MethodName) (head1 (Jvm.Cond.code (⟨"com/example/inchworm/inchworm/PackedBits", "get", "([JJI)J"⟩ : MethodName) prog_98_method_3_code 8 (some .long) :: ws) ({ frames := 0, cells := 0, slots := 0, locals := 0 } : Room)) (fun a U => a = #[(.ref a1), (.long q2), (.int p3)] ∧ Z.Warmed39 U.vm ∧ U.heap = h0) (fun _ _ _ _ _ => True) (fun _ U o U' => ∃ v L, o = .returned v ∧ QL (own_get q2 p3 w4 w5) h0 n0 v U'.heap L ∧ FrameEnd U o U' L ({ frames := 0, cells := 0, slots := 0, locals := 0 } : Room).cells ({ frames := 0, cells := 0, slots := 0, locals := 0 } : Room).slots) := by
  by_cases c : (64 : Int32) < own_off q2 + p3
  · rw [own_get, if_pos c]
    exact rm1_f l Z a0 hw ws a1 q2 p3 w4 cl_a1 w5 h0 n0 Z0 Ar_a1 hin17 hat17 (h39 c).1 (h39 c).2 c
  · rw [own_get, if_neg c]
    exact rm1_t l Z a0 hw ws a1 q2 p3 w4 cl_a1 h0 n0 Z0 Ar_a1 hin17 hat17 c
theorem pn_0 : plainName "com/example/inchworm/inchworm/PackedBitsGetPinLaw" = true := by first | (simp [plainName, overriddenIn]; done) | decide +kernel
theorem pd_0_0 : parseMethodDescriptor "([JJI)J" = some ⟨[(.array .long), .long, .int], some .long⟩ := by decide +kernel
theorem pd_0_1 : parseMethodDescriptor "([JJ)J" = some ⟨[(.array .long), .long], some .long⟩ := by decide +kernel
theorem ef_0 (m : MethodId) (x0 : Int64) (x1 : Int64) (x2 : Int64) (x3 : Int32) (x4 : Int32) (x5 : Int32) : entryFrame m #[(.long x0), (.long x1), (.long x2), (.int x3), (.int x4), (.int x5)] maxLocals = mkF m 0 #[.val (.long x0), .second, .val (.long x1), .second, .val (.long x2), .second, .val (.int x3), .val (.int x4), .val (.int x5), .unset, .unset, .unset, .unset, .unset, .unset, .unset, .unset, .unset, .unset] [] := by first | (simp [entryFrame, mkF, argsToLocals, Value.category, maxLocals]; done) | rfl
def Q0 (Z : State) (q1 : Int64) (q2 : Int64) (q3 : Int64) (p4 : Int32) (p5 : Int32) (p6 : Int32) (h0 : Heap) (n0 : Nat) (v : Option Value) (h : Heap) (L : List Loc) : Prop := v = some (.int (1 : Int32)) ∧ Fr n0 L
set_option maxRecDepth 65536 in
set_option maxHeartbeats 40000000 in
theorem rm0 (l : Launch) (Z : State) (a0 : Array Value) (hw : ∀ d ∈ tables_1, d.before a0 Z = true) (ws : List Jvm.Cond) (q1 : Int64) (q2 : Int64) (q3 : Int64) (p4 : Int32) (p5 : Int32) (p6 : Int32) (h0 : Heap) (n0 : Nat) (Z0 : n0 ≤ h0.size) :
    MetFree l x (head1 (Jvm.Cond.code x code maxLocals ret :: ws) room_1) (fun a U => a = #[(.long q1), (.long q2), (.long q3), (.int p4), (.int p5), (.int p6)] ∧ Z.Warmed39 U.vm ∧ U.heap = h0) (fun _ _ _ _ _ => True) (fun _ U o U' => ∃ v L, o = .returned v ∧ Q0 Z q1 q2 q3 p4 p5 p6 h0 n0 v U'.heap L ∧ FrameEnd U o U' L room_1.cells room_1.slots) := by
  refine MetFree.of_bodySF (plainFor_of_name pn_0) hisR ?_
  intro p e s m args below meth c s₁ Bd hml0 hP hK
  obtain ⟨rfl, hZ, hh⟩ := hP
  have hx := Bd.exec
  have hby := Bd.bytes
  have hml : c.maxLocals = 19 := hml0
  have hown : s.vm.findClass "com/example/inchworm/inchworm/PackedBitsGetPinLaw" = some m.cls := findClass_of_methodNamed Bd.named
  have hnm := (name_of_methodNamed Bd.named Bd.method).1
  have X0 : Stand p l e room_1 s m #[(.long q1), (.long q2), (.long q3), (.int p4), (.int p5), (.int p6)] below meth c s₁ [] 0 0 := Stand.of_body Bd
  have e0 : s₁.heap = h0 := by rw [← hh, Bd.state]; rfl
  have N0 := Fr.nil n0
  have pre0 : ∀ t, Steps p.tables e below (s₁.setTop (mkF m 0 #[.val (.long q1), .second, .val (.long q2), .second, .val (.long q3), .second, .val (.int p4), .val (.int p5), .val (.int p6), .unset, .unset, .unset, .unset, .unset, .unset, .unset, .unset, .unset, .unset] [])) t → Steps p.tables e below (s₁.setTop (entryFrame m #[(.long q1), (.long q2), (.long q3), (.int p4), (.int p5), (.int p6)] maxLocals)) t := fun t k => castTop (ef_0 m q1 q2 q3 p4 p5 p6) k
  obtain ⟨T7, h7, k7, X7, e7, E7, A7, st7⟩ := newP X0 hx hZ (hw _ (List.mem_of_getElem? (i := 0) rfl)) e0 (g := (mkF m 1 #[.val (.long q1), .second, .val (.long q2), .second, .val (.long q3), .second, .val (.int p4), .val (.int p5), .val (.int p6), .unset, .unset, .unset, .unset, .unset, .unset, .unset, .unset, .unset, .unset] [(.int (3 : Int32))])) rfl (hb hby at_1) rfl (by decide) (cap := 3) (by decide) (by decide) (by decide) (by decide)
  obtain ⟨b7, g7⟩ : ∃ z, z = h0.size := ⟨_, rfl⟩
  rw [← g7] at A7 st7
  have V_b7 : Arv Z h7 b7 k7 .long (3 : Int32) [(.long (0 : Int64)), (.long (0 : Int64)), (.long (0 : Int64))] (.long (0 : Int64)) := (Arv.new A7 (by decide)).pad (pad_rep [] (.long (0 : Int64)) 3)
  have g_b7 : n0 ≤ b7 := Nat.le_trans Z0 (Nat.le_of_eq g7.symm)
  have sz_b7 : h0.size ≤ b7 := (Nat.le_trans (Keep.refl h0 []).1 (Nat.le_of_eq g7.symm))
  have K7 : Keep h0 h7 [] := (Keep.refl h0 []).ext E7
  obtain ⟨cl_b7_9, Ar_b7, q_b7, S_b7, N_b7, H_b7, G_b7⟩ := V_b7
  have hin9 : ¬ ((0 : Int32) < 0 ∨ cl_b7_9.slots.size ≤ ((0 : Int32)).toNatClampNeg) := inb_of S_b7 ⟨by decide, by decide⟩
  obtain ⟨T8, h8, X8, e8, W8, st8⟩ := stJ X7 hx hZ e7 Ar_b7 (j := (0 : Int32)) hin9 (g := (mkF m 9 #[.val (.long q1), .second, .val (.long q2), .second, .val (.long q3), .second, .val (.int p4), .val (.int p5), .val (.int p6), .val (.ref b7), .unset, .unset, .unset, .unset, .unset, .unset, .unset, .unset, .unset] [(.long q1), (.int (0 : Int32)), (.ref b7)])) rfl rfl (hb hby at_9)
  have V_b7_8 := Arv.set Ar_b7 q_b7 S_b7 N_b7 H_b7 G_b7 rfl W8 0 rfl (Nat.le_of_ble_eq_true rfl)
  have K8 : Keep h0 h8 [] := K7.wr W8 (Or.inr sz_b7)
  have N8 := Fr.snoc X8 N0 g_b7
  obtain ⟨cl_b7_14, Ar_b7, q_b7, S_b7, N_b7, H_b7, G_b7⟩ := V_b7_8
  have hin14 : ¬ ((1 : Int32) < 0 ∨ cl_b7_14.slots.size ≤ ((1 : Int32)).toNatClampNeg) := inb_of S_b7 ⟨by decide, by decide⟩
  obtain ⟨T9, h9, X9, e9, W9, st9⟩ := stJ X8 hx hZ e8 Ar_b7 (j := (1 : Int32)) hin14 (g := (mkF m 14 #[.val (.long q1), .second, .val (.long q2), .second, .val (.long q3), .second, .val (.int p4), .val (.int p5), .val (.int p6), .val (.ref b7), .unset, .unset, .unset, .unset, .unset, .unset, .unset, .unset, .unset] [(.long q2), (.int (1 : Int32)), (.ref b7)])) rfl rfl (hb hby at_14)
  have V_b7_9 := Arv.set Ar_b7 q_b7 S_b7 N_b7 H_b7 G_b7 rfl W9 1 rfl (Nat.le_of_ble_eq_true rfl)
  have K9 : Keep h0 h9 [] := K8.wr W9 (Or.inr sz_b7)
  have N9 := Fr.snoc X9 N8 g_b7
  obtain ⟨cl_b7_20, Ar_b7, q_b7, S_b7, N_b7, H_b7, G_b7⟩ := V_b7_9
  have hin20 : ¬ ((2 : Int32) < 0 ∨ cl_b7_20.slots.size ≤ ((2 : Int32)).toNatClampNeg) := inb_of S_b7 ⟨by decide, by decide⟩
  obtain ⟨T10, h10, X10, e10, W10, st10⟩ := stJ X9 hx hZ e9 Ar_b7 (j := (2 : Int32)) hin20 (g := (mkF m 20 #[.val (.long q1), .second, .val (.long q2), .second, .val (.long q3), .second, .val (.int p4), .val (.int p5), .val (.int p6), .val (.ref b7), .unset, .unset, .unset, .unset, .unset, .unset, .unset, .unset, .unset] [(.long q3), (.int (2 : Int32)), (.ref b7)])) rfl rfl (hb hby at_20)
  have V_b7_10 := Arv.set Ar_b7 q_b7 S_b7 N_b7 H_b7 G_b7 rfl W10 2 rfl (Nat.le_of_ble_eq_true rfl)
  have K10 : Keep h0 h10 [] := K9.wr W10 (Or.inr sz_b7)
  have N10 := Fr.snoc X10 N9 g_b7
  obtain ⟨cl, Ar_b7, q_b7, S_b7, N_b7, H_b7, G_b7⟩ := V_b7_10
  have Z10 : n0 ≤ h10.size := Nat.le_trans Z0 K10.1
  have hin128 : ¬ ((0 : Int32) < 0 ∨ cl.slots.size ≤ ((0 : Int32)).toNatClampNeg) := inb_of S_b7 ⟨by decide, by decide⟩
  have hin137 : ¬ ((1 : Int32) < 0 ∨ cl.slots.size ≤ ((1 : Int32)).toNatClampNeg) := inb_of S_b7 ⟨by decide, by decide⟩
  have hin146 : ¬ ((2 : Int32) < 0 ∨ cl.slots.size ≤ ((2 : Int32)).toNatClampNeg) := inb_of S_b7 ⟨by decide, by decide⟩
  have hat128 : cl.slots[((0 : Int32)).toNatClampNeg]? = some (.long q1) := H_b7.at hin128 rfl
  have hat137 : cl.slots[((1 : Int32)).toNatClampNeg]? = some (.long q2) := H_b7.at hin137 rfl
  have hat146 : cl.slots[((2 : Int32)).toNatClampNeg]? = some (.long q3) := H_b7.at hin146 rfl
  have hc122 : ¬ ((1 : Int32) = (0 : Int32)) := by decide
  have hc131 : (lcmpW q1 q1) = (0 : Int32) := (lw_eq _ _).mpr rfl
  have hc140 : (lcmpW q2 q2) = (0 : Int32) := (lw_eq _ _).mpr rfl
  have hc150 : (lcmpW q3 q3) = (0 : Int32) := (lw_eq _ _).mpr rfl
  obtain ⟨wv, h_wv, p_wv⟩ : ∃ wv : Int32, (1 ≤ wv.toInt ∧ wv.toInt ≤ 64) ∧ ∀ t, Steps p.tables e below (T10.setTop (mkF m 30 #[.val (.long q1), .second, .val (.long q2), .second, .val (.long q3), .second, .val (.int p4), .val (.int p5), .val (.int p6), .val (.ref b7), .val (.int wv), .unset, .unset, .unset, .unset, .unset, .unset, .unset, .unset] [])) t → Steps p.tables e below (s₁.setTop (mkF m 0 #[.val (.long q1), .second, .val (.long q2), .second, .val (.long q3), .second, .val (.int p4), .val (.int p5), .val (.int p6), .unset, .unset, .unset, .unset, .unset, .unset, .unset, .unset, .unset, .unset] [])) t := by
    refine ⟨_, own_w p5, fun t kt => ?_⟩
    show Steps p.tables e below (s₁.setTop (mkF m 0 #[.val (.long q1), .second, .val (.long q2), .second, .val (.long q3), .second, .val (.int p4), .val (.int p5), .val (.int p6), .unset, .unset, .unset, .unset, .unset, .unset, .unset, .unset, .unset, .unset] [])) _
    refine XS.iconst X0.here hx rfl (hb hby at_0) ?_
    show Steps p.tables e below (s₁.setTop (mkF m 1 #[.val (.long q1), .second, .val (.long q2), .second, .val (.long q3), .second, .val (.int p4), .val (.int p5), .val (.int p6), .unset, .unset, .unset, .unset, .unset, .unset, .unset, .unset, .unset, .unset] [(.int (3 : Int32))])) _
    refine st7 _ ?_
    show Steps p.tables e below (T7.setTop (mkF m 3 #[.val (.long q1), .second, .val (.long q2), .second, .val (.long q3), .second, .val (.int p4), .val (.int p5), .val (.int p6), .unset, .unset, .unset, .unset, .unset, .unset, .unset, .unset, .unset, .unset] [(.ref b7)])) _
    refine XS.astore X7.here hx rfl (hb hby at_3) rfl rfl (l' := #[.val (.long q1), .second, .val (.long q2), .second, .val (.long q3), .second, .val (.int p4), .val (.int p5), .val (.int p6), .val (.ref b7), .unset, .unset, .unset, .unset, .unset, .unset, .unset, .unset, .unset]) rfl ?_
    show Steps p.tables e below (T7.setTop (mkF m 5 #[.val (.long q1), .second, .val (.long q2), .second, .val (.long q3), .second, .val (.int p4), .val (.int p5), .val (.int p6), .val (.ref b7), .unset, .unset, .unset, .unset, .unset, .unset, .unset, .unset, .unset] [])) _
    refine XS.aload X7.here hx rfl (hb hby at_5) rfl rfl ?_
    show Steps p.tables e below (T7.setTop (mkF m 7 #[.val (.long q1), .second, .val (.long q2), .second, .val (.long q3), .second, .val (.int p4), .val (.int p5), .val (.int p6), .val (.ref b7), .unset, .unset, .unset, .unset, .unset, .unset, .unset, .unset, .unset] [(.ref b7)])) _
    refine XS.iconst X7.here hx rfl (hb hby at_7) ?_
    show Steps p.tables e below (T7.setTop (mkF m 8 #[.val (.long q1), .second, .val (.long q2), .second, .val (.long q3), .second, .val (.int p4), .val (.int p5), .val (.int p6), .val (.ref b7), .unset, .unset, .unset, .unset, .unset, .unset, .unset, .unset, .unset] [(.int (0 : Int32)), (.ref b7)])) _
    refine XS.lloadN X7.here hx rfl (hb hby at_8) rfl ?_
    show Steps p.tables e below (T7.setTop (mkF m 9 #[.val (.long q1), .second, .val (.long q2), .second, .val (.long q3), .second, .val (.int p4), .val (.int p5), .val (.int p6), .val (.ref b7), .unset, .unset, .unset, .unset, .unset, .unset, .unset, .unset, .unset] [(.long q1), (.int (0 : Int32)), (.ref b7)])) _
    refine st8 _ ?_
    show Steps p.tables e below (T8.setTop (mkF m 10 #[.val (.long q1), .second, .val (.long q2), .second, .val (.long q3), .second, .val (.int p4), .val (.int p5), .val (.int p6), .val (.ref b7), .unset, .unset, .unset, .unset, .unset, .unset, .unset, .unset, .unset] [])) _
    refine XS.aload X8.here hx rfl (hb hby at_10) rfl rfl ?_
    show Steps p.tables e below (T8.setTop (mkF m 12 #[.val (.long q1), .second, .val (.long q2), .second, .val (.long q3), .second, .val (.int p4), .val (.int p5), .val (.int p6), .val (.ref b7), .unset, .unset, .unset, .unset, .unset, .unset, .unset, .unset, .unset] [(.ref b7)])) _
    refine XS.iconst X8.here hx rfl (hb hby at_12) ?_
    show Steps p.tables e below (T8.setTop (mkF m 13 #[.val (.long q1), .second, .val (.long q2), .second, .val (.long q3), .second, .val (.int p4), .val (.int p5), .val (.int p6), .val (.ref b7), .unset, .unset, .unset, .unset, .unset, .unset, .unset, .unset, .unset] [(.int (1 : Int32)), (.ref b7)])) _
    refine XS.lloadN X8.here hx rfl (hb hby at_13) rfl ?_
    show Steps p.tables e below (T8.setTop (mkF m 14 #[.val (.long q1), .second, .val (.long q2), .second, .val (.long q3), .second, .val (.int p4), .val (.int p5), .val (.int p6), .val (.ref b7), .unset, .unset, .unset, .unset, .unset, .unset, .unset, .unset, .unset] [(.long q2), (.int (1 : Int32)), (.ref b7)])) _
    refine st9 _ ?_
    show Steps p.tables e below (T9.setTop (mkF m 15 #[.val (.long q1), .second, .val (.long q2), .second, .val (.long q3), .second, .val (.int p4), .val (.int p5), .val (.int p6), .val (.ref b7), .unset, .unset, .unset, .unset, .unset, .unset, .unset, .unset, .unset] [])) _
    refine XS.aload X9.here hx rfl (hb hby at_15) rfl rfl ?_
    show Steps p.tables e below (T9.setTop (mkF m 17 #[.val (.long q1), .second, .val (.long q2), .second, .val (.long q3), .second, .val (.int p4), .val (.int p5), .val (.int p6), .val (.ref b7), .unset, .unset, .unset, .unset, .unset, .unset, .unset, .unset, .unset] [(.ref b7)])) _
    refine XS.iconst X9.here hx rfl (hb hby at_17) ?_
    show Steps p.tables e below (T9.setTop (mkF m 18 #[.val (.long q1), .second, .val (.long q2), .second, .val (.long q3), .second, .val (.int p4), .val (.int p5), .val (.int p6), .val (.ref b7), .unset, .unset, .unset, .unset, .unset, .unset, .unset, .unset, .unset] [(.int (2 : Int32)), (.ref b7)])) _
    refine XS.lload X9.here hx rfl (hb hby at_18) rfl ?_
    show Steps p.tables e below (T9.setTop (mkF m 20 #[.val (.long q1), .second, .val (.long q2), .second, .val (.long q3), .second, .val (.int p4), .val (.int p5), .val (.int p6), .val (.ref b7), .unset, .unset, .unset, .unset, .unset, .unset, .unset, .unset, .unset] [(.long q3), (.int (2 : Int32)), (.ref b7)])) _
    refine st10 _ ?_
    show Steps p.tables e below (T10.setTop (mkF m 21 #[.val (.long q1), .second, .val (.long q2), .second, .val (.long q3), .second, .val (.int p4), .val (.int p5), .val (.int p6), .val (.ref b7), .unset, .unset, .unset, .unset, .unset, .unset, .unset, .unset, .unset] [])) _
    refine XS.iload X10.here hx rfl (hb hby at_21) rfl ?_
    show Steps p.tables e below (T10.setTop (mkF m 23 #[.val (.long q1), .second, .val (.long q2), .second, .val (.long q3), .second, .val (.int p4), .val (.int p5), .val (.int p6), .val (.ref b7), .unset, .unset, .unset, .unset, .unset, .unset, .unset, .unset, .unset] [(.int p5)])) _
    refine XS.bipush X10.here hx rfl (hb hby at_23) ?_
    show Steps p.tables e below (T10.setTop (mkF m 25 #[.val (.long q1), .second, .val (.long q2), .second, .val (.long q3), .second, .val (.int p4), .val (.int p5), .val (.int p6), .val (.ref b7), .unset, .unset, .unset, .unset, .unset, .unset, .unset, .unset, .unset] [(.int (63 : Int32)), (.int p5)])) _
    refine XS.iand X10.here hx rfl (hb hby at_25) rfl ?_
    show Steps p.tables e below (T10.setTop (mkF m 26 #[.val (.long q1), .second, .val (.long q2), .second, .val (.long q3), .second, .val (.int p4), .val (.int p5), .val (.int p6), .val (.ref b7), .unset, .unset, .unset, .unset, .unset, .unset, .unset, .unset, .unset] [(.int (p5 &&& (63 : Int32)))])) _
    refine XS.iconst X10.here hx rfl (hb hby at_26) ?_
    show Steps p.tables e below (T10.setTop (mkF m 27 #[.val (.long q1), .second, .val (.long q2), .second, .val (.long q3), .second, .val (.int p4), .val (.int p5), .val (.int p6), .val (.ref b7), .unset, .unset, .unset, .unset, .unset, .unset, .unset, .unset, .unset] [(.int (1 : Int32)), (.int (p5 &&& (63 : Int32)))])) _
    refine XS.iadd X10.here hx rfl (hb hby at_27) rfl ?_
    show Steps p.tables e below (T10.setTop (mkF m 28 #[.val (.long q1), .second, .val (.long q2), .second, .val (.long q3), .second, .val (.int p4), .val (.int p5), .val (.int p6), .val (.ref b7), .unset, .unset, .unset, .unset, .unset, .unset, .unset, .unset, .unset] [(.int ((p5 &&& (63 : Int32)) + (1 : Int32)))])) _
    refine XS.istore X10.here hx rfl (hb hby at_28) rfl (l' := #[.val (.long q1), .second, .val (.long q2), .second, .val (.long q3), .second, .val (.int p4), .val (.int p5), .val (.int p6), .val (.ref b7), .val (.int ((p5 &&& (63 : Int32)) + (1 : Int32))), .unset, .unset, .unset, .unset, .unset, .unset, .unset, .unset]) rfl ?_
    exact kt
  have hnz41 := own_nz h_wv.1 h_wv.2
  obtain ⟨bv, h_bv, p_bv⟩ : ∃ bv : Int64, (0 ≤ bv.toInt ∧ bv.toInt + wv.toInt ≤ 192) ∧ ∀ t, Steps p.tables e below (T10.setTop (mkF m 45 #[.val (.long q1), .second, .val (.long q2), .second, .val (.long q3), .second, .val (.int p4), .val (.int p5), .val (.int p6), .val (.ref b7), .val (.int wv), .val (.long bv), .second, .unset, .unset, .unset, .unset, .unset, .unset] [])) t → Steps p.tables e below (T10.setTop (mkF m 30 #[.val (.long q1), .second, .val (.long q2), .second, .val (.long q3), .second, .val (.int p4), .val (.int p5), .val (.int p6), .val (.ref b7), .val (.int wv), .unset, .unset, .unset, .unset, .unset, .unset, .unset, .unset] [])) t := by
    refine ⟨_, own_b p4 wv h_wv.1 h_wv.2, fun t kt => ?_⟩
    show Steps p.tables e below (T10.setTop (mkF m 30 #[.val (.long q1), .second, .val (.long q2), .second, .val (.long q3), .second, .val (.int p4), .val (.int p5), .val (.int p6), .val (.ref b7), .val (.int wv), .unset, .unset, .unset, .unset, .unset, .unset, .unset, .unset] [])) _
    refine XS.iload X10.here hx rfl (hb hby at_30) rfl ?_
    show Steps p.tables e below (T10.setTop (mkF m 32 #[.val (.long q1), .second, .val (.long q2), .second, .val (.long q3), .second, .val (.int p4), .val (.int p5), .val (.int p6), .val (.ref b7), .val (.int wv), .unset, .unset, .unset, .unset, .unset, .unset, .unset, .unset] [(.int p4)])) _
    refine X10.ldcInt hx hown (mvT hZ (hw _ (List.mem_of_getElem? (i := 1) rfl))) (g := (mkF m 32 #[.val (.long q1), .second, .val (.long q2), .second, .val (.long q3), .second, .val (.int p4), .val (.int p5), .val (.int p6), .val (.ref b7), .val (.int wv), .unset, .unset, .unset, .unset, .unset, .unset, .unset, .unset] [(.int p4)])) rfl (hb hby at_32) _ ?_
    show Steps p.tables e below (T10.setTop (mkF m 34 #[.val (.long q1), .second, .val (.long q2), .second, .val (.long q3), .second, .val (.int p4), .val (.int p5), .val (.int p6), .val (.ref b7), .val (.int wv), .unset, .unset, .unset, .unset, .unset, .unset, .unset, .unset] [(.int (2147483647 : Int32)), (.int p4)])) _
    refine XS.iand X10.here hx rfl (hb hby at_34) rfl ?_
    show Steps p.tables e below (T10.setTop (mkF m 35 #[.val (.long q1), .second, .val (.long q2), .second, .val (.long q3), .second, .val (.int p4), .val (.int p5), .val (.int p6), .val (.ref b7), .val (.int wv), .unset, .unset, .unset, .unset, .unset, .unset, .unset, .unset] [(.int (p4 &&& (2147483647 : Int32)))])) _
    refine XS.sipush X10.here hx rfl (hb hby at_35) ?_
    show Steps p.tables e below (T10.setTop (mkF m 38 #[.val (.long q1), .second, .val (.long q2), .second, .val (.long q3), .second, .val (.int p4), .val (.int p5), .val (.int p6), .val (.ref b7), .val (.int wv), .unset, .unset, .unset, .unset, .unset, .unset, .unset, .unset] [(.int (193 : Int32)), (.int (p4 &&& (2147483647 : Int32)))])) _
    refine XS.iload X10.here hx rfl (hb hby at_38) rfl ?_
    show Steps p.tables e below (T10.setTop (mkF m 40 #[.val (.long q1), .second, .val (.long q2), .second, .val (.long q3), .second, .val (.int p4), .val (.int p5), .val (.int p6), .val (.ref b7), .val (.int wv), .unset, .unset, .unset, .unset, .unset, .unset, .unset, .unset] [(.int wv), (.int (193 : Int32)), (.int (p4 &&& (2147483647 : Int32)))])) _
    refine XS.isub X10.here hx rfl (hb hby at_40) rfl ?_
    show Steps p.tables e below (T10.setTop (mkF m 41 #[.val (.long q1), .second, .val (.long q2), .second, .val (.long q3), .second, .val (.int p4), .val (.int p5), .val (.int p6), .val (.ref b7), .val (.int wv), .unset, .unset, .unset, .unset, .unset, .unset, .unset, .unset] [(.int ((193 : Int32) - wv)), (.int (p4 &&& (2147483647 : Int32)))])) _
    refine XS.irem X10.here hx rfl (hb hby at_41) rfl hnz41 ?_
    show Steps p.tables e below (T10.setTop (mkF m 42 #[.val (.long q1), .second, .val (.long q2), .second, .val (.long q3), .second, .val (.int p4), .val (.int p5), .val (.int p6), .val (.ref b7), .val (.int wv), .unset, .unset, .unset, .unset, .unset, .unset, .unset, .unset] [(.int ((p4 &&& (2147483647 : Int32)) - ((p4 &&& (2147483647 : Int32)) / ((193 : Int32) - wv)) * ((193 : Int32) - wv)))])) _
    refine XS.i2l X10.here hx rfl (hb hby at_42) rfl ?_
    show Steps p.tables e below (T10.setTop (mkF m 43 #[.val (.long q1), .second, .val (.long q2), .second, .val (.long q3), .second, .val (.int p4), .val (.int p5), .val (.int p6), .val (.ref b7), .val (.int wv), .unset, .unset, .unset, .unset, .unset, .unset, .unset, .unset] [(.long (((p4 &&& (2147483647 : Int32)) - ((p4 &&& (2147483647 : Int32)) / ((193 : Int32) - wv)) * ((193 : Int32) - wv)).toInt64))])) _
    refine XS.lstore X10.here hx rfl (hb hby at_43) rfl (l' := #[.val (.long q1), .second, .val (.long q2), .second, .val (.long q3), .second, .val (.int p4), .val (.int p5), .val (.int p6), .val (.ref b7), .val (.int wv), .val (.long (((p4 &&& (2147483647 : Int32)) - ((p4 &&& (2147483647 : Int32)) / ((193 : Int32) - wv)) * ((193 : Int32) - wv)).toInt64)), .second, .unset, .unset, .unset, .unset, .unset, .unset]) rfl ?_
    exact kt
  obtain ⟨kv, h_kv, p_kv⟩ : ∃ kv : Int32, (0 ≤ kv.toInt ∧ kv.toInt ≤ 63) ∧ ∀ t, Steps p.tables e below (T10.setTop (mkF m 52 #[.val (.long q1), .second, .val (.long q2), .second, .val (.long q3), .second, .val (.int p4), .val (.int p5), .val (.int p6), .val (.ref b7), .val (.int wv), .val (.long bv), .second, .val (.int kv), .unset, .unset, .unset, .unset, .unset] [])) t → Steps p.tables e below (T10.setTop (mkF m 45 #[.val (.long q1), .second, .val (.long q2), .second, .val (.long q3), .second, .val (.int p4), .val (.int p5), .val (.int p6), .val (.ref b7), .val (.int wv), .val (.long bv), .second, .unset, .unset, .unset, .unset, .unset, .unset] [])) t := by
    refine ⟨_, own_k p6, fun t kt => ?_⟩
    show Steps p.tables e below (T10.setTop (mkF m 45 #[.val (.long q1), .second, .val (.long q2), .second, .val (.long q3), .second, .val (.int p4), .val (.int p5), .val (.int p6), .val (.ref b7), .val (.int wv), .val (.long bv), .second, .unset, .unset, .unset, .unset, .unset, .unset] [])) _
    refine XS.iload X10.here hx rfl (hb hby at_45) rfl ?_
    show Steps p.tables e below (T10.setTop (mkF m 47 #[.val (.long q1), .second, .val (.long q2), .second, .val (.long q3), .second, .val (.int p4), .val (.int p5), .val (.int p6), .val (.ref b7), .val (.int wv), .val (.long bv), .second, .unset, .unset, .unset, .unset, .unset, .unset] [(.int p6)])) _
    refine XS.bipush X10.here hx rfl (hb hby at_47) ?_
    show Steps p.tables e below (T10.setTop (mkF m 49 #[.val (.long q1), .second, .val (.long q2), .second, .val (.long q3), .second, .val (.int p4), .val (.int p5), .val (.int p6), .val (.ref b7), .val (.int wv), .val (.long bv), .second, .unset, .unset, .unset, .unset, .unset, .unset] [(.int (63 : Int32)), (.int p6)])) _
    refine XS.iand X10.here hx rfl (hb hby at_49) rfl ?_
    show Steps p.tables e below (T10.setTop (mkF m 50 #[.val (.long q1), .second, .val (.long q2), .second, .val (.long q3), .second, .val (.int p4), .val (.int p5), .val (.int p6), .val (.ref b7), .val (.int wv), .val (.long bv), .second, .unset, .unset, .unset, .unset, .unset, .unset] [(.int (p6 &&& (63 : Int32)))])) _
    refine XS.istore X10.here hx rfl (hb hby at_50) rfl (l' := #[.val (.long q1), .second, .val (.long q2), .second, .val (.long q3), .second, .val (.int p4), .val (.int p5), .val (.int p6), .val (.ref b7), .val (.int wv), .val (.long bv), .second, .val (.int (p6 &&& (63 : Int32))), .unset, .unset, .unset, .unset, .unset]) rfl ?_
    exact kt
  obtain ⟨hI1, hI2, hA, hB⟩ := own_law q1 q2 q3 bv wv kv h_bv.1 h_wv.1 h_wv.2 h_bv.2 h_kv.1 h_kv.2
  have pick : ∀ {j : Int32}, ¬ j < 0 ∧ j < 3 → ¬ (j < 0 ∨ cl.slots.size ≤ j.toNatClampNeg) ∧ cl.slots[j.toNatClampNeg]? = some (.long (own_el q1 q2 q3 j.toNatClampNeg)) := fun {j} hj => by
    have h := inb_of S_b7 hj
    refine ⟨h, H_b7.at h (own_pick q1 q2 q3 _ ?_)⟩
    obtain ⟨r1, r2⟩ := hj
    rw [Int32.lt_iff_toInt_lt] at r1 r2
    rw [own_i0] at r1
    rw [own_i3] at r2
    show j.toInt.toNat < 3
    omega
  obtain ⟨u4, hu4⟩ : ∃ z, z = own_el q1 q2 q3 (own_idx bv).toNatClampNeg := ⟨_, rfl⟩
  obtain ⟨u5, hu5⟩ : ∃ z, z = own_el q1 q2 q3 (own_idx bv + 1).toNatClampNeg := ⟨_, rfl⟩
  obtain ⟨u3, hu3⟩ : ∃ z, z = own_el q1 q2 q3 (own_idx (bv + kv.toInt64)).toNatClampNeg := ⟨_, rfl⟩
  obtain ⟨hin17, hat17⟩ := pick hI1
  have h39 := fun h => pick (hI2 h)
  rw [← hu4] at hat17
  simp only [← hu4, ← hu5, ← hu3] at hA hB h39
  obtain ⟨_, _, ⟨T11, L11, k11, n11⟩, -, X11, ⟨Lc11, hQ11, l11, y11, z11⟩, st11⟩ := Jvm.LawKit.callS X10 hx (y := (⟨"com/example/inchworm/inchworm/PackedBits", "get", "([JJI)J"⟩ : MethodName)) hown (mvT hZ (hw _ (List.mem_of_getElem? (i := 2) rfl))) (mvT hZ (hw _ (List.mem_of_getElem? (i := 3) rfl))) (mvT hZ (hw _ (List.mem_of_getElem? (i := 4) rfl))) (mvT hZ (hw _ (List.mem_of_getElem? (i := 5) rfl))) (by decide) (backOf (W := 0) (rm1 l Z a0 hw [] b7 bv wv u4 u5 cl h10 n0 Z10 Ar_b7 hin17 hat17 h39) hZ (hw _ (List.mem_of_getElem? (i := 5) rfl)) (hw _ (List.mem_of_getElem? (i := 4) rfl)) (by decide) (by decide)) (g := (mkF m 58 #[.val (.long q1), .second, .val (.long q2), .second, .val (.long q3), .second, .val (.int p4), .val (.int p5), .val (.int p6), .val (.ref b7), .val (.int wv), .val (.long bv), .second, .val (.int kv), .unset, .unset, .unset, .unset, .unset] [(.int wv), (.long bv), (.ref b7)])) rfl (by rw [hml]; rfl) (argsL := [(.ref b7), (.long bv), (.int wv)]) (rest := []) (lenOf pd_0_0 rfl) rfl (by show 2 * 0 + _ ≤ _; exact Nat.le_of_eq rfl) (hb hby at_58) (fun _ _ => ⟨rfl, e10, (by decide : 1 + 0 ≤ _), (by decide : 3 + 0 ≤ _)⟩)
  dsimp only [Pt.U, Pt.locs, Pt.cells, Pt.slots] at X11 l11 y11 z11 st11 hQ11
  subst l11 y11 z11
  obtain ⟨rfl, N11q, e11⟩ := hQ11
  have N11 := Fr.app N10 N11q
  by_cases hc76 : kv < wv
  · obtain ⟨hI3, hE⟩ := hA hc76
    obtain ⟨hin6, hat6⟩ := pick hI3
    rw [← hu3] at hat6
    have hc93 := (lw_eq _ _).mpr hE
    obtain ⟨_, _, ⟨T12, L12, k12, n12⟩, -, X12, ⟨Lc12, hQ12, l12, y12, z12⟩, st12⟩ := Jvm.LawKit.callS X11 hx (y := (⟨"com/example/inchworm/inchworm/PackedBitsGetPinLaw", "arrayBit", "([JJ)J"⟩ : MethodName)) hown (mvT hZ (hw _ (List.mem_of_getElem? (i := 7) rfl))) (mvT hZ (hw _ (List.mem_of_getElem? (i := 8) rfl))) (mvT hZ (hw _ (List.mem_of_getElem? (i := 9) rfl))) (mvT hZ (hw _ (List.mem_of_getElem? (i := 10) rfl))) (by decide) (backOf (W := 2) (rm2 l Z a0 hw [] b7 (bv + (kv.toInt64)) u3 cl h10 n0 Z10 Ar_b7 hin6 hat6) hZ (hw _ (List.mem_of_getElem? (i := 10) rfl)) (hw _ (List.mem_of_getElem? (i := 9) rfl)) (by decide) (by decide)) (g := (mkF m 89 #[.val (.long q1), .second, .val (.long q2), .second, .val (.long q3), .second, .val (.int p4), .val (.int p5), .val (.int p6), .val (.ref b7), .val (.int wv), .val (.long bv), .second, .val (.int kv), .val (.long (own_get bv wv u4 u5)), .second, .val (.long ((((own_get bv wv u4 u5).toUInt64 >>> (kv &&& 0x3f).toInt64.toUInt64).toInt64) &&& (1 : Int64))), .second, .unset] [(.long (bv + (kv.toInt64))), (.ref b7), (.long ((((own_get bv wv u4 u5).toUInt64 >>> (kv &&& 0x3f).toInt64.toUInt64).toInt64) &&& (1 : Int64)))])) rfl (by rw [hml]; rfl) (argsL := [(.ref b7), (.long (bv + (kv.toInt64)))]) (rest := [(.long ((((own_get bv wv u4 u5).toUInt64 >>> (kv &&& 0x3f).toInt64.toUInt64).toInt64) &&& (1 : Int64)))]) (lenOf pd_0_1 rfl) rfl (by show 2 * 0 + _ ≤ _; exact Nat.le_of_eq rfl) (hb hby at_89) (fun _ _ => ⟨rfl, e11, (by decide : 1 + 0 ≤ _), (by decide : 3 + 0 ≤ _)⟩)
    dsimp only [Pt.U, Pt.locs, Pt.cells, Pt.slots] at X12 l12 y12 z12 st12 hQ12
    subst l12 y12 z12
    obtain ⟨rfl, N12q, e12⟩ := hQ12
    have N12 := Fr.app N11 N12q
    obtain ⟨fs, hr, hrun, hended, hW, hsame⟩ := X12.leave (v := some (.int (1 : Int32))) (fun h => by rw [Bd.returns] at h; cases h)
    refine ⟨_, _, pre0 _ ?_, hrun, hended, _, _, rfl, ?_, ⟨_, rfl⟩, hW, hsame.mono (by decide) (by decide)⟩
    · refine p_wv _ (p_bv _ (p_kv _ ?_))
      show Steps p.tables e below (T10.setTop (mkF m 52 #[.val (.long q1), .second, .val (.long q2), .second, .val (.long q3), .second, .val (.int p4), .val (.int p5), .val (.int p6), .val (.ref b7), .val (.int wv), .val (.long bv), .second, .val (.int kv), .unset, .unset, .unset, .unset, .unset] [])) _
      refine XS.aload X10.here hx rfl (hb hby at_52) rfl rfl ?_
      show Steps p.tables e below (T10.setTop (mkF m 54 #[.val (.long q1), .second, .val (.long q2), .second, .val (.long q3), .second, .val (.int p4), .val (.int p5), .val (.int p6), .val (.ref b7), .val (.int wv), .val (.long bv), .second, .val (.int kv), .unset, .unset, .unset, .unset, .unset] [(.ref b7)])) _
      refine XS.lload X10.here hx rfl (hb hby at_54) rfl ?_
      show Steps p.tables e below (T10.setTop (mkF m 56 #[.val (.long q1), .second, .val (.long q2), .second, .val (.long q3), .second, .val (.int p4), .val (.int p5), .val (.int p6), .val (.ref b7), .val (.int wv), .val (.long bv), .second, .val (.int kv), .unset, .unset, .unset, .unset, .unset] [(.long bv), (.ref b7)])) _
      refine XS.iload X10.here hx rfl (hb hby at_56) rfl ?_
      show Steps p.tables e below (T10.setTop (mkF m 58 #[.val (.long q1), .second, .val (.long q2), .second, .val (.long q3), .second, .val (.int p4), .val (.int p5), .val (.int p6), .val (.ref b7), .val (.int wv), .val (.long bv), .second, .val (.int kv), .unset, .unset, .unset, .unset, .unset] [(.int wv), (.long bv), (.ref b7)])) _
      refine st11 _ ?_
      show Steps p.tables e below (T11.setTop (mkF m 61 #[.val (.long q1), .second, .val (.long q2), .second, .val (.long q3), .second, .val (.int p4), .val (.int p5), .val (.int p6), .val (.ref b7), .val (.int wv), .val (.long bv), .second, .val (.int kv), .unset, .unset, .unset, .unset, .unset] [(.long (own_get bv wv u4 u5))])) _
      refine XS.lstore X11.here hx rfl (hb hby at_61) rfl (l' := #[.val (.long q1), .second, .val (.long q2), .second, .val (.long q3), .second, .val (.int p4), .val (.int p5), .val (.int p6), .val (.ref b7), .val (.int wv), .val (.long bv), .second, .val (.int kv), .val (.long (own_get bv wv u4 u5)), .second, .unset, .unset, .unset]) rfl ?_
      show Steps p.tables e below (T11.setTop (mkF m 63 #[.val (.long q1), .second, .val (.long q2), .second, .val (.long q3), .second, .val (.int p4), .val (.int p5), .val (.int p6), .val (.ref b7), .val (.int wv), .val (.long bv), .second, .val (.int kv), .val (.long (own_get bv wv u4 u5)), .second, .unset, .unset, .unset] [])) _
      refine XS.lload X11.here hx rfl (hb hby at_63) rfl ?_
      show Steps p.tables e below (T11.setTop (mkF m 65 #[.val (.long q1), .second, .val (.long q2), .second, .val (.long q3), .second, .val (.int p4), .val (.int p5), .val (.int p6), .val (.ref b7), .val (.int wv), .val (.long bv), .second, .val (.int kv), .val (.long (own_get bv wv u4 u5)), .second, .unset, .unset, .unset] [(.long (own_get bv wv u4 u5))])) _
      refine XS.iload X11.here hx rfl (hb hby at_65) rfl ?_
      show Steps p.tables e below (T11.setTop (mkF m 67 #[.val (.long q1), .second, .val (.long q2), .second, .val (.long q3), .second, .val (.int p4), .val (.int p5), .val (.int p6), .val (.ref b7), .val (.int wv), .val (.long bv), .second, .val (.int kv), .val (.long (own_get bv wv u4 u5)), .second, .unset, .unset, .unset] [(.int kv), (.long (own_get bv wv u4 u5))])) _
      refine XS.lushr X11.here hx rfl (hb hby at_67) rfl ?_
      show Steps p.tables e below (T11.setTop (mkF m 68 #[.val (.long q1), .second, .val (.long q2), .second, .val (.long q3), .second, .val (.int p4), .val (.int p5), .val (.int p6), .val (.ref b7), .val (.int wv), .val (.long bv), .second, .val (.int kv), .val (.long (own_get bv wv u4 u5)), .second, .unset, .unset, .unset] [(.long (((own_get bv wv u4 u5).toUInt64 >>> (kv &&& 0x3f).toInt64.toUInt64).toInt64))])) _
      refine XS.lconst X11.here hx rfl (hb hby at_68) ?_
      show Steps p.tables e below (T11.setTop (mkF m 69 #[.val (.long q1), .second, .val (.long q2), .second, .val (.long q3), .second, .val (.int p4), .val (.int p5), .val (.int p6), .val (.ref b7), .val (.int wv), .val (.long bv), .second, .val (.int kv), .val (.long (own_get bv wv u4 u5)), .second, .unset, .unset, .unset] [(.long (1 : Int64)), (.long (((own_get bv wv u4 u5).toUInt64 >>> (kv &&& 0x3f).toInt64.toUInt64).toInt64))])) _
      refine XS.land X11.here hx rfl (hb hby at_69) rfl ?_
      show Steps p.tables e below (T11.setTop (mkF m 70 #[.val (.long q1), .second, .val (.long q2), .second, .val (.long q3), .second, .val (.int p4), .val (.int p5), .val (.int p6), .val (.ref b7), .val (.int wv), .val (.long bv), .second, .val (.int kv), .val (.long (own_get bv wv u4 u5)), .second, .unset, .unset, .unset] [(.long ((((own_get bv wv u4 u5).toUInt64 >>> (kv &&& 0x3f).toInt64.toUInt64).toInt64) &&& (1 : Int64)))])) _
      refine XS.lstore X11.here hx rfl (hb hby at_70) rfl (l' := #[.val (.long q1), .second, .val (.long q2), .second, .val (.long q3), .second, .val (.int p4), .val (.int p5), .val (.int p6), .val (.ref b7), .val (.int wv), .val (.long bv), .second, .val (.int kv), .val (.long (own_get bv wv u4 u5)), .second, .val (.long ((((own_get bv wv u4 u5).toUInt64 >>> (kv &&& 0x3f).toInt64.toUInt64).toInt64) &&& (1 : Int64))), .second, .unset]) rfl ?_
      show Steps p.tables e below (T11.setTop (mkF m 72 #[.val (.long q1), .second, .val (.long q2), .second, .val (.long q3), .second, .val (.int p4), .val (.int p5), .val (.int p6), .val (.ref b7), .val (.int wv), .val (.long bv), .second, .val (.int kv), .val (.long (own_get bv wv u4 u5)), .second, .val (.long ((((own_get bv wv u4 u5).toUInt64 >>> (kv &&& 0x3f).toInt64.toUInt64).toInt64) &&& (1 : Int64))), .second, .unset] [])) _
      refine XS.iload X11.here hx rfl (hb hby at_72) rfl ?_
      show Steps p.tables e below (T11.setTop (mkF m 74 #[.val (.long q1), .second, .val (.long q2), .second, .val (.long q3), .second, .val (.int p4), .val (.int p5), .val (.int p6), .val (.ref b7), .val (.int wv), .val (.long bv), .second, .val (.int kv), .val (.long (own_get bv wv u4 u5)), .second, .val (.long ((((own_get bv wv u4 u5).toUInt64 >>> (kv &&& 0x3f).toInt64.toUInt64).toInt64) &&& (1 : Int64))), .second, .unset] [(.int kv)])) _
      refine XS.iload X11.here hx rfl (hb hby at_74) rfl ?_
      show Steps p.tables e below (T11.setTop (mkF m 76 #[.val (.long q1), .second, .val (.long q2), .second, .val (.long q3), .second, .val (.int p4), .val (.int p5), .val (.int p6), .val (.ref b7), .val (.int wv), .val (.long bv), .second, .val (.int kv), .val (.long (own_get bv wv u4 u5)), .second, .val (.long ((((own_get bv wv u4 u5).toUInt64 >>> (kv &&& 0x3f).toInt64.toUInt64).toInt64) &&& (1 : Int64))), .second, .unset] [(.int wv), (.int kv)])) _
      refine XS.icmpNo X11.here hx rfl (hb hby at_76) rfl (tlt hc76).2.1 ?_
      show Steps p.tables e below (T11.setTop (mkF m 79 #[.val (.long q1), .second, .val (.long q2), .second, .val (.long q3), .second, .val (.int p4), .val (.int p5), .val (.int p6), .val (.ref b7), .val (.int wv), .val (.long bv), .second, .val (.int kv), .val (.long (own_get bv wv u4 u5)), .second, .val (.long ((((own_get bv wv u4 u5).toUInt64 >>> (kv &&& 0x3f).toInt64.toUInt64).toInt64) &&& (1 : Int64))), .second, .unset] [])) _
      refine XS.lload X11.here hx rfl (hb hby at_79) rfl ?_
      show Steps p.tables e below (T11.setTop (mkF m 81 #[.val (.long q1), .second, .val (.long q2), .second, .val (.long q3), .second, .val (.int p4), .val (.int p5), .val (.int p6), .val (.ref b7), .val (.int wv), .val (.long bv), .second, .val (.int kv), .val (.long (own_get bv wv u4 u5)), .second, .val (.long ((((own_get bv wv u4 u5).toUInt64 >>> (kv &&& 0x3f).toInt64.toUInt64).toInt64) &&& (1 : Int64))), .second, .unset] [(.long ((((own_get bv wv u4 u5).toUInt64 >>> (kv &&& 0x3f).toInt64.toUInt64).toInt64) &&& (1 : Int64)))])) _
      refine XS.aload X11.here hx rfl (hb hby at_81) rfl rfl ?_
      show Steps p.tables e below (T11.setTop (mkF m 83 #[.val (.long q1), .second, .val (.long q2), .second, .val (.long q3), .second, .val (.int p4), .val (.int p5), .val (.int p6), .val (.ref b7), .val (.int wv), .val (.long bv), .second, .val (.int kv), .val (.long (own_get bv wv u4 u5)), .second, .val (.long ((((own_get bv wv u4 u5).toUInt64 >>> (kv &&& 0x3f).toInt64.toUInt64).toInt64) &&& (1 : Int64))), .second, .unset] [(.ref b7), (.long ((((own_get bv wv u4 u5).toUInt64 >>> (kv &&& 0x3f).toInt64.toUInt64).toInt64) &&& (1 : Int64)))])) _
      refine XS.lload X11.here hx rfl (hb hby at_83) rfl ?_
      show Steps p.tables e below (T11.setTop (mkF m 85 #[.val (.long q1), .second, .val (.long q2), .second, .val (.long q3), .second, .val (.int p4), .val (.int p5), .val (.int p6), .val (.ref b7), .val (.int wv), .val (.long bv), .second, .val (.int kv), .val (.long (own_get bv wv u4 u5)), .second, .val (.long ((((own_get bv wv u4 u5).toUInt64 >>> (kv &&& 0x3f).toInt64.toUInt64).toInt64) &&& (1 : Int64))), .second, .unset] [(.long bv), (.ref b7), (.long ((((own_get bv wv u4 u5).toUInt64 >>> (kv &&& 0x3f).toInt64.toUInt64).toInt64) &&& (1 : Int64)))])) _
      refine XS.iload X11.here hx rfl (hb hby at_85) rfl ?_
      show Steps p.tables e below (T11.setTop (mkF m 87 #[.val (.long q1), .second, .val (.long q2), .second, .val (.long q3), .second, .val (.int p4), .val (.int p5), .val (.int p6), .val (.ref b7), .val (.int wv), .val (.long bv), .second, .val (.int kv), .val (.long (own_get bv wv u4 u5)), .second, .val (.long ((((own_get bv wv u4 u5).toUInt64 >>> (kv &&& 0x3f).toInt64.toUInt64).toInt64) &&& (1 : Int64))), .second, .unset] [(.int kv), (.long bv), (.ref b7), (.long ((((own_get bv wv u4 u5).toUInt64 >>> (kv &&& 0x3f).toInt64.toUInt64).toInt64) &&& (1 : Int64)))])) _
      refine XS.i2l X11.here hx rfl (hb hby at_87) rfl ?_
      show Steps p.tables e below (T11.setTop (mkF m 88 #[.val (.long q1), .second, .val (.long q2), .second, .val (.long q3), .second, .val (.int p4), .val (.int p5), .val (.int p6), .val (.ref b7), .val (.int wv), .val (.long bv), .second, .val (.int kv), .val (.long (own_get bv wv u4 u5)), .second, .val (.long ((((own_get bv wv u4 u5).toUInt64 >>> (kv &&& 0x3f).toInt64.toUInt64).toInt64) &&& (1 : Int64))), .second, .unset] [(.long (kv.toInt64)), (.long bv), (.ref b7), (.long ((((own_get bv wv u4 u5).toUInt64 >>> (kv &&& 0x3f).toInt64.toUInt64).toInt64) &&& (1 : Int64)))])) _
      refine XS.ladd X11.here hx rfl (hb hby at_88) rfl ?_
      show Steps p.tables e below (T11.setTop (mkF m 89 #[.val (.long q1), .second, .val (.long q2), .second, .val (.long q3), .second, .val (.int p4), .val (.int p5), .val (.int p6), .val (.ref b7), .val (.int wv), .val (.long bv), .second, .val (.int kv), .val (.long (own_get bv wv u4 u5)), .second, .val (.long ((((own_get bv wv u4 u5).toUInt64 >>> (kv &&& 0x3f).toInt64.toUInt64).toInt64) &&& (1 : Int64))), .second, .unset] [(.long (bv + (kv.toInt64))), (.ref b7), (.long ((((own_get bv wv u4 u5).toUInt64 >>> (kv &&& 0x3f).toInt64.toUInt64).toInt64) &&& (1 : Int64)))])) _
      refine st12 _ ?_
      show Steps p.tables e below (T12.setTop (mkF m 92 #[.val (.long q1), .second, .val (.long q2), .second, .val (.long q3), .second, .val (.int p4), .val (.int p5), .val (.int p6), .val (.ref b7), .val (.int wv), .val (.long bv), .second, .val (.int kv), .val (.long (own_get bv wv u4 u5)), .second, .val (.long ((((own_get bv wv u4 u5).toUInt64 >>> (kv &&& 0x3f).toInt64.toUInt64).toInt64) &&& (1 : Int64))), .second, .unset] [(.long (own_arr (bv + (kv.toInt64)) u3)), (.long ((((own_get bv wv u4 u5).toUInt64 >>> (kv &&& 0x3f).toInt64.toUInt64).toInt64) &&& (1 : Int64)))])) _
      refine XS.lcmp X12.here hx rfl (hb hby at_92) rfl ?_
      show Steps p.tables e below (T12.setTop (mkF m 93 #[.val (.long q1), .second, .val (.long q2), .second, .val (.long q3), .second, .val (.int p4), .val (.int p5), .val (.int p6), .val (.ref b7), .val (.int wv), .val (.long bv), .second, .val (.int kv), .val (.long (own_get bv wv u4 u5)), .second, .val (.long ((((own_get bv wv u4 u5).toUInt64 >>> (kv &&& 0x3f).toInt64.toUInt64).toInt64) &&& (1 : Int64))), .second, .unset] [(.int (lcmpW ((((own_get bv wv u4 u5).toUInt64 >>> (kv &&& 0x3f).toInt64.toUInt64).toInt64) &&& (1 : Int64)) (own_arr (bv + (kv.toInt64)) u3)))])) _
      refine XS.ifNo X12.here hx rfl (hb hby at_93) rfl ((if0 _ _).trans (teq hc93).2) ?_
      show Steps p.tables e below (T12.setTop (mkF m 96 #[.val (.long q1), .second, .val (.long q2), .second, .val (.long q3), .second, .val (.int p4), .val (.int p5), .val (.int p6), .val (.ref b7), .val (.int wv), .val (.long bv), .second, .val (.int kv), .val (.long (own_get bv wv u4 u5)), .second, .val (.long ((((own_get bv wv u4 u5).toUInt64 >>> (kv &&& 0x3f).toInt64.toUInt64).toInt64) &&& (1 : Int64))), .second, .unset] [])) _
      refine XS.iconst X12.here hx rfl (hb hby at_96) ?_
      show Steps p.tables e below (T12.setTop (mkF m 97 #[.val (.long q1), .second, .val (.long q2), .second, .val (.long q3), .second, .val (.int p4), .val (.int p5), .val (.int p6), .val (.ref b7), .val (.int wv), .val (.long bv), .second, .val (.int kv), .val (.long (own_get bv wv u4 u5)), .second, .val (.long ((((own_get bv wv u4 u5).toUInt64 >>> (kv &&& 0x3f).toInt64.toUInt64).toInt64) &&& (1 : Int64))), .second, .unset] [(.int (1 : Int32))])) _
      refine XS.goto X12.here hx rfl (pc0 := 97) (pc' := 101) rfl (hb hby at_97) (by decide) (by decide) ?_
      show Steps p.tables e below (T12.setTop (mkF m 101 #[.val (.long q1), .second, .val (.long q2), .second, .val (.long q3), .second, .val (.int p4), .val (.int p5), .val (.int p6), .val (.ref b7), .val (.int wv), .val (.long bv), .second, .val (.int kv), .val (.long (own_get bv wv u4 u5)), .second, .val (.long ((((own_get bv wv u4 u5).toUInt64 >>> (kv &&& 0x3f).toInt64.toUInt64).toInt64) &&& (1 : Int64))), .second, .unset] [(.int (1 : Int32))])) _
      refine XS.istore X12.here hx rfl (hb hby at_101) rfl (l' := #[.val (.long q1), .second, .val (.long q2), .second, .val (.long q3), .second, .val (.int p4), .val (.int p5), .val (.int p6), .val (.ref b7), .val (.int wv), .val (.long bv), .second, .val (.int kv), .val (.long (own_get bv wv u4 u5)), .second, .val (.long ((((own_get bv wv u4 u5).toUInt64 >>> (kv &&& 0x3f).toInt64.toUInt64).toInt64) &&& (1 : Int64))), .second, .val (.int (1 : Int32))]) rfl ?_
      show Steps p.tables e below (T12.setTop (mkF m 103 #[.val (.long q1), .second, .val (.long q2), .second, .val (.long q3), .second, .val (.int p4), .val (.int p5), .val (.int p6), .val (.ref b7), .val (.int wv), .val (.long bv), .second, .val (.int kv), .val (.long (own_get bv wv u4 u5)), .second, .val (.long ((((own_get bv wv u4 u5).toUInt64 >>> (kv &&& 0x3f).toInt64.toUInt64).toInt64) &&& (1 : Int64))), .second, .val (.int (1 : Int32))] [])) _
      refine XS.goto X12.here hx rfl (pc0 := 103) (pc' := 120) rfl (hb hby at_103) (by decide) (by decide) ?_
      show Steps p.tables e below (T12.setTop (mkF m 120 #[.val (.long q1), .second, .val (.long q2), .second, .val (.long q3), .second, .val (.int p4), .val (.int p5), .val (.int p6), .val (.ref b7), .val (.int wv), .val (.long bv), .second, .val (.int kv), .val (.long (own_get bv wv u4 u5)), .second, .val (.long ((((own_get bv wv u4 u5).toUInt64 >>> (kv &&& 0x3f).toInt64.toUInt64).toInt64) &&& (1 : Int64))), .second, .val (.int (1 : Int32))] [])) _
      refine XS.iload X12.here hx rfl (hb hby at_120) rfl ?_
      show Steps p.tables e below (T12.setTop (mkF m 122 #[.val (.long q1), .second, .val (.long q2), .second, .val (.long q3), .second, .val (.int p4), .val (.int p5), .val (.int p6), .val (.ref b7), .val (.int wv), .val (.long bv), .second, .val (.int kv), .val (.long (own_get bv wv u4 u5)), .second, .val (.long ((((own_get bv wv u4 u5).toUInt64 >>> (kv &&& 0x3f).toInt64.toUInt64).toInt64) &&& (1 : Int64))), .second, .val (.int (1 : Int32))] [(.int (1 : Int32))])) _
      refine XS.ifNo X12.here hx rfl (hb hby at_122) rfl ((if0 _ _).trans (feq hc122).1) ?_
      show Steps p.tables e below (T12.setTop (mkF m 125 #[.val (.long q1), .second, .val (.long q2), .second, .val (.long q3), .second, .val (.int p4), .val (.int p5), .val (.int p6), .val (.ref b7), .val (.int wv), .val (.long bv), .second, .val (.int kv), .val (.long (own_get bv wv u4 u5)), .second, .val (.long ((((own_get bv wv u4 u5).toUInt64 >>> (kv &&& 0x3f).toInt64.toUInt64).toInt64) &&& (1 : Int64))), .second, .val (.int (1 : Int32))] [])) _
      refine XS.aload X12.here hx rfl (hb hby at_125) rfl rfl ?_
      show Steps p.tables e below (T12.setTop (mkF m 127 #[.val (.long q1), .second, .val (.long q2), .second, .val (.long q3), .second, .val (.int p4), .val (.int p5), .val (.int p6), .val (.ref b7), .val (.int wv), .val (.long bv), .second, .val (.int kv), .val (.long (own_get bv wv u4 u5)), .second, .val (.long ((((own_get bv wv u4 u5).toUInt64 >>> (kv &&& 0x3f).toInt64.toUInt64).toInt64) &&& (1 : Int64))), .second, .val (.int (1 : Int32))] [(.ref b7)])) _
      refine XS.iconst X12.here hx rfl (hb hby at_127) ?_
      show Steps p.tables e below (T12.setTop (mkF m 128 #[.val (.long q1), .second, .val (.long q2), .second, .val (.long q3), .second, .val (.int p4), .val (.int p5), .val (.int p6), .val (.ref b7), .val (.int wv), .val (.long bv), .second, .val (.int kv), .val (.long (own_get bv wv u4 u5)), .second, .val (.long ((((own_get bv wv u4 u5).toUInt64 >>> (kv &&& 0x3f).toInt64.toUInt64).toInt64) &&& (1 : Int64))), .second, .val (.int (1 : Int32))] [(.int (0 : Int32)), (.ref b7)])) _
      refine X12.laload hx (j := (0 : Int32)) (v := (.long q1)) (by rw [e12]; exact Ar_b7.1) (State.isArrayOf_alike hZ.alike Ar_b7.2.1) Ar_b7.2.2 hin128 hat128 (g := (mkF m 128 #[.val (.long q1), .second, .val (.long q2), .second, .val (.long q3), .second, .val (.int p4), .val (.int p5), .val (.int p6), .val (.ref b7), .val (.int wv), .val (.long bv), .second, .val (.int kv), .val (.long (own_get bv wv u4 u5)), .second, .val (.long ((((own_get bv wv u4 u5).toUInt64 >>> (kv &&& 0x3f).toInt64.toUInt64).toInt64) &&& (1 : Int64))), .second, .val (.int (1 : Int32))] [(.int (0 : Int32)), (.ref b7)])) rfl rfl (hb hby at_128) _ ?_
      show Steps p.tables e below (T12.setTop (mkF m 129 #[.val (.long q1), .second, .val (.long q2), .second, .val (.long q3), .second, .val (.int p4), .val (.int p5), .val (.int p6), .val (.ref b7), .val (.int wv), .val (.long bv), .second, .val (.int kv), .val (.long (own_get bv wv u4 u5)), .second, .val (.long ((((own_get bv wv u4 u5).toUInt64 >>> (kv &&& 0x3f).toInt64.toUInt64).toInt64) &&& (1 : Int64))), .second, .val (.int (1 : Int32))] [(.long q1)])) _
      refine XS.lloadN X12.here hx rfl (hb hby at_129) rfl ?_
      show Steps p.tables e below (T12.setTop (mkF m 130 #[.val (.long q1), .second, .val (.long q2), .second, .val (.long q3), .second, .val (.int p4), .val (.int p5), .val (.int p6), .val (.ref b7), .val (.int wv), .val (.long bv), .second, .val (.int kv), .val (.long (own_get bv wv u4 u5)), .second, .val (.long ((((own_get bv wv u4 u5).toUInt64 >>> (kv &&& 0x3f).toInt64.toUInt64).toInt64) &&& (1 : Int64))), .second, .val (.int (1 : Int32))] [(.long q1), (.long q1)])) _
      refine XS.lcmp X12.here hx rfl (hb hby at_130) rfl ?_
      show Steps p.tables e below (T12.setTop (mkF m 131 #[.val (.long q1), .second, .val (.long q2), .second, .val (.long q3), .second, .val (.int p4), .val (.int p5), .val (.int p6), .val (.ref b7), .val (.int wv), .val (.long bv), .second, .val (.int kv), .val (.long (own_get bv wv u4 u5)), .second, .val (.long ((((own_get bv wv u4 u5).toUInt64 >>> (kv &&& 0x3f).toInt64.toUInt64).toInt64) &&& (1 : Int64))), .second, .val (.int (1 : Int32))] [(.int (lcmpW q1 q1))])) _
      refine XS.ifNo X12.here hx rfl (hb hby at_131) rfl ((if0 _ _).trans (teq hc131).2) ?_
      show Steps p.tables e below (T12.setTop (mkF m 134 #[.val (.long q1), .second, .val (.long q2), .second, .val (.long q3), .second, .val (.int p4), .val (.int p5), .val (.int p6), .val (.ref b7), .val (.int wv), .val (.long bv), .second, .val (.int kv), .val (.long (own_get bv wv u4 u5)), .second, .val (.long ((((own_get bv wv u4 u5).toUInt64 >>> (kv &&& 0x3f).toInt64.toUInt64).toInt64) &&& (1 : Int64))), .second, .val (.int (1 : Int32))] [])) _
      refine XS.aload X12.here hx rfl (hb hby at_134) rfl rfl ?_
      show Steps p.tables e below (T12.setTop (mkF m 136 #[.val (.long q1), .second, .val (.long q2), .second, .val (.long q3), .second, .val (.int p4), .val (.int p5), .val (.int p6), .val (.ref b7), .val (.int wv), .val (.long bv), .second, .val (.int kv), .val (.long (own_get bv wv u4 u5)), .second, .val (.long ((((own_get bv wv u4 u5).toUInt64 >>> (kv &&& 0x3f).toInt64.toUInt64).toInt64) &&& (1 : Int64))), .second, .val (.int (1 : Int32))] [(.ref b7)])) _
      refine XS.iconst X12.here hx rfl (hb hby at_136) ?_
      show Steps p.tables e below (T12.setTop (mkF m 137 #[.val (.long q1), .second, .val (.long q2), .second, .val (.long q3), .second, .val (.int p4), .val (.int p5), .val (.int p6), .val (.ref b7), .val (.int wv), .val (.long bv), .second, .val (.int kv), .val (.long (own_get bv wv u4 u5)), .second, .val (.long ((((own_get bv wv u4 u5).toUInt64 >>> (kv &&& 0x3f).toInt64.toUInt64).toInt64) &&& (1 : Int64))), .second, .val (.int (1 : Int32))] [(.int (1 : Int32)), (.ref b7)])) _
      refine X12.laload hx (j := (1 : Int32)) (v := (.long q2)) (by rw [e12]; exact Ar_b7.1) (State.isArrayOf_alike hZ.alike Ar_b7.2.1) Ar_b7.2.2 hin137 hat137 (g := (mkF m 137 #[.val (.long q1), .second, .val (.long q2), .second, .val (.long q3), .second, .val (.int p4), .val (.int p5), .val (.int p6), .val (.ref b7), .val (.int wv), .val (.long bv), .second, .val (.int kv), .val (.long (own_get bv wv u4 u5)), .second, .val (.long ((((own_get bv wv u4 u5).toUInt64 >>> (kv &&& 0x3f).toInt64.toUInt64).toInt64) &&& (1 : Int64))), .second, .val (.int (1 : Int32))] [(.int (1 : Int32)), (.ref b7)])) rfl rfl (hb hby at_137) _ ?_
      show Steps p.tables e below (T12.setTop (mkF m 138 #[.val (.long q1), .second, .val (.long q2), .second, .val (.long q3), .second, .val (.int p4), .val (.int p5), .val (.int p6), .val (.ref b7), .val (.int wv), .val (.long bv), .second, .val (.int kv), .val (.long (own_get bv wv u4 u5)), .second, .val (.long ((((own_get bv wv u4 u5).toUInt64 >>> (kv &&& 0x3f).toInt64.toUInt64).toInt64) &&& (1 : Int64))), .second, .val (.int (1 : Int32))] [(.long q2)])) _
      refine XS.lloadN X12.here hx rfl (hb hby at_138) rfl ?_
      show Steps p.tables e below (T12.setTop (mkF m 139 #[.val (.long q1), .second, .val (.long q2), .second, .val (.long q3), .second, .val (.int p4), .val (.int p5), .val (.int p6), .val (.ref b7), .val (.int wv), .val (.long bv), .second, .val (.int kv), .val (.long (own_get bv wv u4 u5)), .second, .val (.long ((((own_get bv wv u4 u5).toUInt64 >>> (kv &&& 0x3f).toInt64.toUInt64).toInt64) &&& (1 : Int64))), .second, .val (.int (1 : Int32))] [(.long q2), (.long q2)])) _
      refine XS.lcmp X12.here hx rfl (hb hby at_139) rfl ?_
      show Steps p.tables e below (T12.setTop (mkF m 140 #[.val (.long q1), .second, .val (.long q2), .second, .val (.long q3), .second, .val (.int p4), .val (.int p5), .val (.int p6), .val (.ref b7), .val (.int wv), .val (.long bv), .second, .val (.int kv), .val (.long (own_get bv wv u4 u5)), .second, .val (.long ((((own_get bv wv u4 u5).toUInt64 >>> (kv &&& 0x3f).toInt64.toUInt64).toInt64) &&& (1 : Int64))), .second, .val (.int (1 : Int32))] [(.int (lcmpW q2 q2))])) _
      refine XS.ifNo X12.here hx rfl (hb hby at_140) rfl ((if0 _ _).trans (teq hc140).2) ?_
      show Steps p.tables e below (T12.setTop (mkF m 143 #[.val (.long q1), .second, .val (.long q2), .second, .val (.long q3), .second, .val (.int p4), .val (.int p5), .val (.int p6), .val (.ref b7), .val (.int wv), .val (.long bv), .second, .val (.int kv), .val (.long (own_get bv wv u4 u5)), .second, .val (.long ((((own_get bv wv u4 u5).toUInt64 >>> (kv &&& 0x3f).toInt64.toUInt64).toInt64) &&& (1 : Int64))), .second, .val (.int (1 : Int32))] [])) _
      refine XS.aload X12.here hx rfl (hb hby at_143) rfl rfl ?_
      show Steps p.tables e below (T12.setTop (mkF m 145 #[.val (.long q1), .second, .val (.long q2), .second, .val (.long q3), .second, .val (.int p4), .val (.int p5), .val (.int p6), .val (.ref b7), .val (.int wv), .val (.long bv), .second, .val (.int kv), .val (.long (own_get bv wv u4 u5)), .second, .val (.long ((((own_get bv wv u4 u5).toUInt64 >>> (kv &&& 0x3f).toInt64.toUInt64).toInt64) &&& (1 : Int64))), .second, .val (.int (1 : Int32))] [(.ref b7)])) _
      refine XS.iconst X12.here hx rfl (hb hby at_145) ?_
      show Steps p.tables e below (T12.setTop (mkF m 146 #[.val (.long q1), .second, .val (.long q2), .second, .val (.long q3), .second, .val (.int p4), .val (.int p5), .val (.int p6), .val (.ref b7), .val (.int wv), .val (.long bv), .second, .val (.int kv), .val (.long (own_get bv wv u4 u5)), .second, .val (.long ((((own_get bv wv u4 u5).toUInt64 >>> (kv &&& 0x3f).toInt64.toUInt64).toInt64) &&& (1 : Int64))), .second, .val (.int (1 : Int32))] [(.int (2 : Int32)), (.ref b7)])) _
      refine X12.laload hx (j := (2 : Int32)) (v := (.long q3)) (by rw [e12]; exact Ar_b7.1) (State.isArrayOf_alike hZ.alike Ar_b7.2.1) Ar_b7.2.2 hin146 hat146 (g := (mkF m 146 #[.val (.long q1), .second, .val (.long q2), .second, .val (.long q3), .second, .val (.int p4), .val (.int p5), .val (.int p6), .val (.ref b7), .val (.int wv), .val (.long bv), .second, .val (.int kv), .val (.long (own_get bv wv u4 u5)), .second, .val (.long ((((own_get bv wv u4 u5).toUInt64 >>> (kv &&& 0x3f).toInt64.toUInt64).toInt64) &&& (1 : Int64))), .second, .val (.int (1 : Int32))] [(.int (2 : Int32)), (.ref b7)])) rfl rfl (hb hby at_146) _ ?_
      show Steps p.tables e below (T12.setTop (mkF m 147 #[.val (.long q1), .second, .val (.long q2), .second, .val (.long q3), .second, .val (.int p4), .val (.int p5), .val (.int p6), .val (.ref b7), .val (.int wv), .val (.long bv), .second, .val (.int kv), .val (.long (own_get bv wv u4 u5)), .second, .val (.long ((((own_get bv wv u4 u5).toUInt64 >>> (kv &&& 0x3f).toInt64.toUInt64).toInt64) &&& (1 : Int64))), .second, .val (.int (1 : Int32))] [(.long q3)])) _
      refine XS.lload X12.here hx rfl (hb hby at_147) rfl ?_
      show Steps p.tables e below (T12.setTop (mkF m 149 #[.val (.long q1), .second, .val (.long q2), .second, .val (.long q3), .second, .val (.int p4), .val (.int p5), .val (.int p6), .val (.ref b7), .val (.int wv), .val (.long bv), .second, .val (.int kv), .val (.long (own_get bv wv u4 u5)), .second, .val (.long ((((own_get bv wv u4 u5).toUInt64 >>> (kv &&& 0x3f).toInt64.toUInt64).toInt64) &&& (1 : Int64))), .second, .val (.int (1 : Int32))] [(.long q3), (.long q3)])) _
      refine XS.lcmp X12.here hx rfl (hb hby at_149) rfl ?_
      show Steps p.tables e below (T12.setTop (mkF m 150 #[.val (.long q1), .second, .val (.long q2), .second, .val (.long q3), .second, .val (.int p4), .val (.int p5), .val (.int p6), .val (.ref b7), .val (.int wv), .val (.long bv), .second, .val (.int kv), .val (.long (own_get bv wv u4 u5)), .second, .val (.long ((((own_get bv wv u4 u5).toUInt64 >>> (kv &&& 0x3f).toInt64.toUInt64).toInt64) &&& (1 : Int64))), .second, .val (.int (1 : Int32))] [(.int (lcmpW q3 q3))])) _
      refine XS.ifNo X12.here hx rfl (hb hby at_150) rfl ((if0 _ _).trans (teq hc150).2) ?_
      show Steps p.tables e below (T12.setTop (mkF m 153 #[.val (.long q1), .second, .val (.long q2), .second, .val (.long q3), .second, .val (.int p4), .val (.int p5), .val (.int p6), .val (.ref b7), .val (.int wv), .val (.long bv), .second, .val (.int kv), .val (.long (own_get bv wv u4 u5)), .second, .val (.long ((((own_get bv wv u4 u5).toUInt64 >>> (kv &&& 0x3f).toInt64.toUInt64).toInt64) &&& (1 : Int64))), .second, .val (.int (1 : Int32))] [])) _
      refine XS.iconst X12.here hx rfl (hb hby at_153) ?_
      show Steps p.tables e below (T12.setTop (mkF m 154 #[.val (.long q1), .second, .val (.long q2), .second, .val (.long q3), .second, .val (.int p4), .val (.int p5), .val (.int p6), .val (.ref b7), .val (.int wv), .val (.long bv), .second, .val (.int kv), .val (.long (own_get bv wv u4 u5)), .second, .val (.long ((((own_get bv wv u4 u5).toUInt64 >>> (kv &&& 0x3f).toInt64.toUInt64).toInt64) &&& (1 : Int64))), .second, .val (.int (1 : Int32))] [(.int (1 : Int32))])) _
      refine XS.goto X12.here hx rfl (pc0 := 154) (pc' := 158) rfl (hb hby at_154) (by decide) (by decide) ?_
      show Steps p.tables e below (T12.setTop (mkF m 158 #[.val (.long q1), .second, .val (.long q2), .second, .val (.long q3), .second, .val (.int p4), .val (.int p5), .val (.int p6), .val (.ref b7), .val (.int wv), .val (.long bv), .second, .val (.int kv), .val (.long (own_get bv wv u4 u5)), .second, .val (.long ((((own_get bv wv u4 u5).toUInt64 >>> (kv &&& 0x3f).toInt64.toUInt64).toInt64) &&& (1 : Int64))), .second, .val (.int (1 : Int32))] [(.int (1 : Int32))])) _
      exact retN X12 hx (t := .boolean) Bd.returns (by simp) (hb hby at_158) hr
    · show Q0 Z q1 q2 q3 p4 p5 p6 h0 n0 _ T12.heap _
      rw [e12]
      exact ⟨rfl, N12⟩

  · have hc110 := (lw_eq _ _).mpr (hB hc76)
    obtain ⟨fs, hr, hrun, hended, hW, hsame⟩ := X11.leave (v := some (.int (1 : Int32))) (fun h => by rw [Bd.returns] at h; cases h)
    refine ⟨_, _, pre0 _ ?_, hrun, hended, _, _, rfl, ?_, ⟨_, rfl⟩, hW, hsame.mono (by decide) (by decide)⟩
    · refine p_wv _ (p_bv _ (p_kv _ ?_))
      show Steps p.tables e below (T10.setTop (mkF m 52 #[.val (.long q1), .second, .val (.long q2), .second, .val (.long q3), .second, .val (.int p4), .val (.int p5), .val (.int p6), .val (.ref b7), .val (.int wv), .val (.long bv), .second, .val (.int kv), .unset, .unset, .unset, .unset, .unset] [])) _
      refine XS.aload X10.here hx rfl (hb hby at_52) rfl rfl ?_
      show Steps p.tables e below (T10.setTop (mkF m 54 #[.val (.long q1), .second, .val (.long q2), .second, .val (.long q3), .second, .val (.int p4), .val (.int p5), .val (.int p6), .val (.ref b7), .val (.int wv), .val (.long bv), .second, .val (.int kv), .unset, .unset, .unset, .unset, .unset] [(.ref b7)])) _
      refine XS.lload X10.here hx rfl (hb hby at_54) rfl ?_
      show Steps p.tables e below (T10.setTop (mkF m 56 #[.val (.long q1), .second, .val (.long q2), .second, .val (.long q3), .second, .val (.int p4), .val (.int p5), .val (.int p6), .val (.ref b7), .val (.int wv), .val (.long bv), .second, .val (.int kv), .unset, .unset, .unset, .unset, .unset] [(.long bv), (.ref b7)])) _
      refine XS.iload X10.here hx rfl (hb hby at_56) rfl ?_
      show Steps p.tables e below (T10.setTop (mkF m 58 #[.val (.long q1), .second, .val (.long q2), .second, .val (.long q3), .second, .val (.int p4), .val (.int p5), .val (.int p6), .val (.ref b7), .val (.int wv), .val (.long bv), .second, .val (.int kv), .unset, .unset, .unset, .unset, .unset] [(.int wv), (.long bv), (.ref b7)])) _
      refine st11 _ ?_
      show Steps p.tables e below (T11.setTop (mkF m 61 #[.val (.long q1), .second, .val (.long q2), .second, .val (.long q3), .second, .val (.int p4), .val (.int p5), .val (.int p6), .val (.ref b7), .val (.int wv), .val (.long bv), .second, .val (.int kv), .unset, .unset, .unset, .unset, .unset] [(.long (own_get bv wv u4 u5))])) _
      refine XS.lstore X11.here hx rfl (hb hby at_61) rfl (l' := #[.val (.long q1), .second, .val (.long q2), .second, .val (.long q3), .second, .val (.int p4), .val (.int p5), .val (.int p6), .val (.ref b7), .val (.int wv), .val (.long bv), .second, .val (.int kv), .val (.long (own_get bv wv u4 u5)), .second, .unset, .unset, .unset]) rfl ?_
      show Steps p.tables e below (T11.setTop (mkF m 63 #[.val (.long q1), .second, .val (.long q2), .second, .val (.long q3), .second, .val (.int p4), .val (.int p5), .val (.int p6), .val (.ref b7), .val (.int wv), .val (.long bv), .second, .val (.int kv), .val (.long (own_get bv wv u4 u5)), .second, .unset, .unset, .unset] [])) _
      refine XS.lload X11.here hx rfl (hb hby at_63) rfl ?_
      show Steps p.tables e below (T11.setTop (mkF m 65 #[.val (.long q1), .second, .val (.long q2), .second, .val (.long q3), .second, .val (.int p4), .val (.int p5), .val (.int p6), .val (.ref b7), .val (.int wv), .val (.long bv), .second, .val (.int kv), .val (.long (own_get bv wv u4 u5)), .second, .unset, .unset, .unset] [(.long (own_get bv wv u4 u5))])) _
      refine XS.iload X11.here hx rfl (hb hby at_65) rfl ?_
      show Steps p.tables e below (T11.setTop (mkF m 67 #[.val (.long q1), .second, .val (.long q2), .second, .val (.long q3), .second, .val (.int p4), .val (.int p5), .val (.int p6), .val (.ref b7), .val (.int wv), .val (.long bv), .second, .val (.int kv), .val (.long (own_get bv wv u4 u5)), .second, .unset, .unset, .unset] [(.int kv), (.long (own_get bv wv u4 u5))])) _
      refine XS.lushr X11.here hx rfl (hb hby at_67) rfl ?_
      show Steps p.tables e below (T11.setTop (mkF m 68 #[.val (.long q1), .second, .val (.long q2), .second, .val (.long q3), .second, .val (.int p4), .val (.int p5), .val (.int p6), .val (.ref b7), .val (.int wv), .val (.long bv), .second, .val (.int kv), .val (.long (own_get bv wv u4 u5)), .second, .unset, .unset, .unset] [(.long (((own_get bv wv u4 u5).toUInt64 >>> (kv &&& 0x3f).toInt64.toUInt64).toInt64))])) _
      refine XS.lconst X11.here hx rfl (hb hby at_68) ?_
      show Steps p.tables e below (T11.setTop (mkF m 69 #[.val (.long q1), .second, .val (.long q2), .second, .val (.long q3), .second, .val (.int p4), .val (.int p5), .val (.int p6), .val (.ref b7), .val (.int wv), .val (.long bv), .second, .val (.int kv), .val (.long (own_get bv wv u4 u5)), .second, .unset, .unset, .unset] [(.long (1 : Int64)), (.long (((own_get bv wv u4 u5).toUInt64 >>> (kv &&& 0x3f).toInt64.toUInt64).toInt64))])) _
      refine XS.land X11.here hx rfl (hb hby at_69) rfl ?_
      show Steps p.tables e below (T11.setTop (mkF m 70 #[.val (.long q1), .second, .val (.long q2), .second, .val (.long q3), .second, .val (.int p4), .val (.int p5), .val (.int p6), .val (.ref b7), .val (.int wv), .val (.long bv), .second, .val (.int kv), .val (.long (own_get bv wv u4 u5)), .second, .unset, .unset, .unset] [(.long ((((own_get bv wv u4 u5).toUInt64 >>> (kv &&& 0x3f).toInt64.toUInt64).toInt64) &&& (1 : Int64)))])) _
      refine XS.lstore X11.here hx rfl (hb hby at_70) rfl (l' := #[.val (.long q1), .second, .val (.long q2), .second, .val (.long q3), .second, .val (.int p4), .val (.int p5), .val (.int p6), .val (.ref b7), .val (.int wv), .val (.long bv), .second, .val (.int kv), .val (.long (own_get bv wv u4 u5)), .second, .val (.long ((((own_get bv wv u4 u5).toUInt64 >>> (kv &&& 0x3f).toInt64.toUInt64).toInt64) &&& (1 : Int64))), .second, .unset]) rfl ?_
      show Steps p.tables e below (T11.setTop (mkF m 72 #[.val (.long q1), .second, .val (.long q2), .second, .val (.long q3), .second, .val (.int p4), .val (.int p5), .val (.int p6), .val (.ref b7), .val (.int wv), .val (.long bv), .second, .val (.int kv), .val (.long (own_get bv wv u4 u5)), .second, .val (.long ((((own_get bv wv u4 u5).toUInt64 >>> (kv &&& 0x3f).toInt64.toUInt64).toInt64) &&& (1 : Int64))), .second, .unset] [])) _
      refine XS.iload X11.here hx rfl (hb hby at_72) rfl ?_
      show Steps p.tables e below (T11.setTop (mkF m 74 #[.val (.long q1), .second, .val (.long q2), .second, .val (.long q3), .second, .val (.int p4), .val (.int p5), .val (.int p6), .val (.ref b7), .val (.int wv), .val (.long bv), .second, .val (.int kv), .val (.long (own_get bv wv u4 u5)), .second, .val (.long ((((own_get bv wv u4 u5).toUInt64 >>> (kv &&& 0x3f).toInt64.toUInt64).toInt64) &&& (1 : Int64))), .second, .unset] [(.int kv)])) _
      refine XS.iload X11.here hx rfl (hb hby at_74) rfl ?_
      show Steps p.tables e below (T11.setTop (mkF m 76 #[.val (.long q1), .second, .val (.long q2), .second, .val (.long q3), .second, .val (.int p4), .val (.int p5), .val (.int p6), .val (.ref b7), .val (.int wv), .val (.long bv), .second, .val (.int kv), .val (.long (own_get bv wv u4 u5)), .second, .val (.long ((((own_get bv wv u4 u5).toUInt64 >>> (kv &&& 0x3f).toInt64.toUInt64).toInt64) &&& (1 : Int64))), .second, .unset] [(.int wv), (.int kv)])) _
      refine XS.icmpYes X11.here hx rfl (pc0 := 76) (pc' := 106) rfl (hb hby at_76) rfl (flt hc76).2.1 (by decide) (by decide) ?_
      show Steps p.tables e below (T11.setTop (mkF m 106 #[.val (.long q1), .second, .val (.long q2), .second, .val (.long q3), .second, .val (.int p4), .val (.int p5), .val (.int p6), .val (.ref b7), .val (.int wv), .val (.long bv), .second, .val (.int kv), .val (.long (own_get bv wv u4 u5)), .second, .val (.long ((((own_get bv wv u4 u5).toUInt64 >>> (kv &&& 0x3f).toInt64.toUInt64).toInt64) &&& (1 : Int64))), .second, .unset] [])) _
      refine XS.lload X11.here hx rfl (hb hby at_106) rfl ?_
      show Steps p.tables e below (T11.setTop (mkF m 108 #[.val (.long q1), .second, .val (.long q2), .second, .val (.long q3), .second, .val (.int p4), .val (.int p5), .val (.int p6), .val (.ref b7), .val (.int wv), .val (.long bv), .second, .val (.int kv), .val (.long (own_get bv wv u4 u5)), .second, .val (.long ((((own_get bv wv u4 u5).toUInt64 >>> (kv &&& 0x3f).toInt64.toUInt64).toInt64) &&& (1 : Int64))), .second, .unset] [(.long ((((own_get bv wv u4 u5).toUInt64 >>> (kv &&& 0x3f).toInt64.toUInt64).toInt64) &&& (1 : Int64)))])) _
      refine XS.lconst X11.here hx rfl (hb hby at_108) ?_
      show Steps p.tables e below (T11.setTop (mkF m 109 #[.val (.long q1), .second, .val (.long q2), .second, .val (.long q3), .second, .val (.int p4), .val (.int p5), .val (.int p6), .val (.ref b7), .val (.int wv), .val (.long bv), .second, .val (.int kv), .val (.long (own_get bv wv u4 u5)), .second, .val (.long ((((own_get bv wv u4 u5).toUInt64 >>> (kv &&& 0x3f).toInt64.toUInt64).toInt64) &&& (1 : Int64))), .second, .unset] [(.long (0 : Int64)), (.long ((((own_get bv wv u4 u5).toUInt64 >>> (kv &&& 0x3f).toInt64.toUInt64).toInt64) &&& (1 : Int64)))])) _
      refine XS.lcmp X11.here hx rfl (hb hby at_109) rfl ?_
      show Steps p.tables e below (T11.setTop (mkF m 110 #[.val (.long q1), .second, .val (.long q2), .second, .val (.long q3), .second, .val (.int p4), .val (.int p5), .val (.int p6), .val (.ref b7), .val (.int wv), .val (.long bv), .second, .val (.int kv), .val (.long (own_get bv wv u4 u5)), .second, .val (.long ((((own_get bv wv u4 u5).toUInt64 >>> (kv &&& 0x3f).toInt64.toUInt64).toInt64) &&& (1 : Int64))), .second, .unset] [(.int (lcmpW ((((own_get bv wv u4 u5).toUInt64 >>> (kv &&& 0x3f).toInt64.toUInt64).toInt64) &&& (1 : Int64)) (0 : Int64)))])) _
      refine XS.ifNo X11.here hx rfl (hb hby at_110) rfl ((if0 _ _).trans (teq hc110).2) ?_
      show Steps p.tables e below (T11.setTop (mkF m 113 #[.val (.long q1), .second, .val (.long q2), .second, .val (.long q3), .second, .val (.int p4), .val (.int p5), .val (.int p6), .val (.ref b7), .val (.int wv), .val (.long bv), .second, .val (.int kv), .val (.long (own_get bv wv u4 u5)), .second, .val (.long ((((own_get bv wv u4 u5).toUInt64 >>> (kv &&& 0x3f).toInt64.toUInt64).toInt64) &&& (1 : Int64))), .second, .unset] [])) _
      refine XS.iconst X11.here hx rfl (hb hby at_113) ?_
      show Steps p.tables e below (T11.setTop (mkF m 114 #[.val (.long q1), .second, .val (.long q2), .second, .val (.long q3), .second, .val (.int p4), .val (.int p5), .val (.int p6), .val (.ref b7), .val (.int wv), .val (.long bv), .second, .val (.int kv), .val (.long (own_get bv wv u4 u5)), .second, .val (.long ((((own_get bv wv u4 u5).toUInt64 >>> (kv &&& 0x3f).toInt64.toUInt64).toInt64) &&& (1 : Int64))), .second, .unset] [(.int (1 : Int32))])) _
      refine XS.goto X11.here hx rfl (pc0 := 114) (pc' := 118) rfl (hb hby at_114) (by decide) (by decide) ?_
      show Steps p.tables e below (T11.setTop (mkF m 118 #[.val (.long q1), .second, .val (.long q2), .second, .val (.long q3), .second, .val (.int p4), .val (.int p5), .val (.int p6), .val (.ref b7), .val (.int wv), .val (.long bv), .second, .val (.int kv), .val (.long (own_get bv wv u4 u5)), .second, .val (.long ((((own_get bv wv u4 u5).toUInt64 >>> (kv &&& 0x3f).toInt64.toUInt64).toInt64) &&& (1 : Int64))), .second, .unset] [(.int (1 : Int32))])) _
      refine XS.istore X11.here hx rfl (hb hby at_118) rfl (l' := #[.val (.long q1), .second, .val (.long q2), .second, .val (.long q3), .second, .val (.int p4), .val (.int p5), .val (.int p6), .val (.ref b7), .val (.int wv), .val (.long bv), .second, .val (.int kv), .val (.long (own_get bv wv u4 u5)), .second, .val (.long ((((own_get bv wv u4 u5).toUInt64 >>> (kv &&& 0x3f).toInt64.toUInt64).toInt64) &&& (1 : Int64))), .second, .val (.int (1 : Int32))]) rfl ?_
      show Steps p.tables e below (T11.setTop (mkF m 120 #[.val (.long q1), .second, .val (.long q2), .second, .val (.long q3), .second, .val (.int p4), .val (.int p5), .val (.int p6), .val (.ref b7), .val (.int wv), .val (.long bv), .second, .val (.int kv), .val (.long (own_get bv wv u4 u5)), .second, .val (.long ((((own_get bv wv u4 u5).toUInt64 >>> (kv &&& 0x3f).toInt64.toUInt64).toInt64) &&& (1 : Int64))), .second, .val (.int (1 : Int32))] [])) _
      refine XS.iload X11.here hx rfl (hb hby at_120) rfl ?_
      show Steps p.tables e below (T11.setTop (mkF m 122 #[.val (.long q1), .second, .val (.long q2), .second, .val (.long q3), .second, .val (.int p4), .val (.int p5), .val (.int p6), .val (.ref b7), .val (.int wv), .val (.long bv), .second, .val (.int kv), .val (.long (own_get bv wv u4 u5)), .second, .val (.long ((((own_get bv wv u4 u5).toUInt64 >>> (kv &&& 0x3f).toInt64.toUInt64).toInt64) &&& (1 : Int64))), .second, .val (.int (1 : Int32))] [(.int (1 : Int32))])) _
      refine XS.ifNo X11.here hx rfl (hb hby at_122) rfl ((if0 _ _).trans (feq hc122).1) ?_
      show Steps p.tables e below (T11.setTop (mkF m 125 #[.val (.long q1), .second, .val (.long q2), .second, .val (.long q3), .second, .val (.int p4), .val (.int p5), .val (.int p6), .val (.ref b7), .val (.int wv), .val (.long bv), .second, .val (.int kv), .val (.long (own_get bv wv u4 u5)), .second, .val (.long ((((own_get bv wv u4 u5).toUInt64 >>> (kv &&& 0x3f).toInt64.toUInt64).toInt64) &&& (1 : Int64))), .second, .val (.int (1 : Int32))] [])) _
      refine XS.aload X11.here hx rfl (hb hby at_125) rfl rfl ?_
      show Steps p.tables e below (T11.setTop (mkF m 127 #[.val (.long q1), .second, .val (.long q2), .second, .val (.long q3), .second, .val (.int p4), .val (.int p5), .val (.int p6), .val (.ref b7), .val (.int wv), .val (.long bv), .second, .val (.int kv), .val (.long (own_get bv wv u4 u5)), .second, .val (.long ((((own_get bv wv u4 u5).toUInt64 >>> (kv &&& 0x3f).toInt64.toUInt64).toInt64) &&& (1 : Int64))), .second, .val (.int (1 : Int32))] [(.ref b7)])) _
      refine XS.iconst X11.here hx rfl (hb hby at_127) ?_
      show Steps p.tables e below (T11.setTop (mkF m 128 #[.val (.long q1), .second, .val (.long q2), .second, .val (.long q3), .second, .val (.int p4), .val (.int p5), .val (.int p6), .val (.ref b7), .val (.int wv), .val (.long bv), .second, .val (.int kv), .val (.long (own_get bv wv u4 u5)), .second, .val (.long ((((own_get bv wv u4 u5).toUInt64 >>> (kv &&& 0x3f).toInt64.toUInt64).toInt64) &&& (1 : Int64))), .second, .val (.int (1 : Int32))] [(.int (0 : Int32)), (.ref b7)])) _
      refine X11.laload hx (j := (0 : Int32)) (v := (.long q1)) (by rw [e11]; exact Ar_b7.1) (State.isArrayOf_alike hZ.alike Ar_b7.2.1) Ar_b7.2.2 hin128 hat128 (g := (mkF m 128 #[.val (.long q1), .second, .val (.long q2), .second, .val (.long q3), .second, .val (.int p4), .val (.int p5), .val (.int p6), .val (.ref b7), .val (.int wv), .val (.long bv), .second, .val (.int kv), .val (.long (own_get bv wv u4 u5)), .second, .val (.long ((((own_get bv wv u4 u5).toUInt64 >>> (kv &&& 0x3f).toInt64.toUInt64).toInt64) &&& (1 : Int64))), .second, .val (.int (1 : Int32))] [(.int (0 : Int32)), (.ref b7)])) rfl rfl (hb hby at_128) _ ?_
      show Steps p.tables e below (T11.setTop (mkF m 129 #[.val (.long q1), .second, .val (.long q2), .second, .val (.long q3), .second, .val (.int p4), .val (.int p5), .val (.int p6), .val (.ref b7), .val (.int wv), .val (.long bv), .second, .val (.int kv), .val (.long (own_get bv wv u4 u5)), .second, .val (.long ((((own_get bv wv u4 u5).toUInt64 >>> (kv &&& 0x3f).toInt64.toUInt64).toInt64) &&& (1 : Int64))), .second, .val (.int (1 : Int32))] [(.long q1)])) _
      refine XS.lloadN X11.here hx rfl (hb hby at_129) rfl ?_
      show Steps p.tables e below (T11.setTop (mkF m 130 #[.val (.long q1), .second, .val (.long q2), .second, .val (.long q3), .second, .val (.int p4), .val (.int p5), .val (.int p6), .val (.ref b7), .val (.int wv), .val (.long bv), .second, .val (.int kv), .val (.long (own_get bv wv u4 u5)), .second, .val (.long ((((own_get bv wv u4 u5).toUInt64 >>> (kv &&& 0x3f).toInt64.toUInt64).toInt64) &&& (1 : Int64))), .second, .val (.int (1 : Int32))] [(.long q1), (.long q1)])) _
      refine XS.lcmp X11.here hx rfl (hb hby at_130) rfl ?_
      show Steps p.tables e below (T11.setTop (mkF m 131 #[.val (.long q1), .second, .val (.long q2), .second, .val (.long q3), .second, .val (.int p4), .val (.int p5), .val (.int p6), .val (.ref b7), .val (.int wv), .val (.long bv), .second, .val (.int kv), .val (.long (own_get bv wv u4 u5)), .second, .val (.long ((((own_get bv wv u4 u5).toUInt64 >>> (kv &&& 0x3f).toInt64.toUInt64).toInt64) &&& (1 : Int64))), .second, .val (.int (1 : Int32))] [(.int (lcmpW q1 q1))])) _
      refine XS.ifNo X11.here hx rfl (hb hby at_131) rfl ((if0 _ _).trans (teq hc131).2) ?_
      show Steps p.tables e below (T11.setTop (mkF m 134 #[.val (.long q1), .second, .val (.long q2), .second, .val (.long q3), .second, .val (.int p4), .val (.int p5), .val (.int p6), .val (.ref b7), .val (.int wv), .val (.long bv), .second, .val (.int kv), .val (.long (own_get bv wv u4 u5)), .second, .val (.long ((((own_get bv wv u4 u5).toUInt64 >>> (kv &&& 0x3f).toInt64.toUInt64).toInt64) &&& (1 : Int64))), .second, .val (.int (1 : Int32))] [])) _
      refine XS.aload X11.here hx rfl (hb hby at_134) rfl rfl ?_
      show Steps p.tables e below (T11.setTop (mkF m 136 #[.val (.long q1), .second, .val (.long q2), .second, .val (.long q3), .second, .val (.int p4), .val (.int p5), .val (.int p6), .val (.ref b7), .val (.int wv), .val (.long bv), .second, .val (.int kv), .val (.long (own_get bv wv u4 u5)), .second, .val (.long ((((own_get bv wv u4 u5).toUInt64 >>> (kv &&& 0x3f).toInt64.toUInt64).toInt64) &&& (1 : Int64))), .second, .val (.int (1 : Int32))] [(.ref b7)])) _
      refine XS.iconst X11.here hx rfl (hb hby at_136) ?_
      show Steps p.tables e below (T11.setTop (mkF m 137 #[.val (.long q1), .second, .val (.long q2), .second, .val (.long q3), .second, .val (.int p4), .val (.int p5), .val (.int p6), .val (.ref b7), .val (.int wv), .val (.long bv), .second, .val (.int kv), .val (.long (own_get bv wv u4 u5)), .second, .val (.long ((((own_get bv wv u4 u5).toUInt64 >>> (kv &&& 0x3f).toInt64.toUInt64).toInt64) &&& (1 : Int64))), .second, .val (.int (1 : Int32))] [(.int (1 : Int32)), (.ref b7)])) _
      refine X11.laload hx (j := (1 : Int32)) (v := (.long q2)) (by rw [e11]; exact Ar_b7.1) (State.isArrayOf_alike hZ.alike Ar_b7.2.1) Ar_b7.2.2 hin137 hat137 (g := (mkF m 137 #[.val (.long q1), .second, .val (.long q2), .second, .val (.long q3), .second, .val (.int p4), .val (.int p5), .val (.int p6), .val (.ref b7), .val (.int wv), .val (.long bv), .second, .val (.int kv), .val (.long (own_get bv wv u4 u5)), .second, .val (.long ((((own_get bv wv u4 u5).toUInt64 >>> (kv &&& 0x3f).toInt64.toUInt64).toInt64) &&& (1 : Int64))), .second, .val (.int (1 : Int32))] [(.int (1 : Int32)), (.ref b7)])) rfl rfl (hb hby at_137) _ ?_
      show Steps p.tables e below (T11.setTop (mkF m 138 #[.val (.long q1), .second, .val (.long q2), .second, .val (.long q3), .second, .val (.int p4), .val (.int p5), .val (.int p6), .val (.ref b7), .val (.int wv), .val (.long bv), .second, .val (.int kv), .val (.long (own_get bv wv u4 u5)), .second, .val (.long ((((own_get bv wv u4 u5).toUInt64 >>> (kv &&& 0x3f).toInt64.toUInt64).toInt64) &&& (1 : Int64))), .second, .val (.int (1 : Int32))] [(.long q2)])) _
      refine XS.lloadN X11.here hx rfl (hb hby at_138) rfl ?_
      show Steps p.tables e below (T11.setTop (mkF m 139 #[.val (.long q1), .second, .val (.long q2), .second, .val (.long q3), .second, .val (.int p4), .val (.int p5), .val (.int p6), .val (.ref b7), .val (.int wv), .val (.long bv), .second, .val (.int kv), .val (.long (own_get bv wv u4 u5)), .second, .val (.long ((((own_get bv wv u4 u5).toUInt64 >>> (kv &&& 0x3f).toInt64.toUInt64).toInt64) &&& (1 : Int64))), .second, .val (.int (1 : Int32))] [(.long q2), (.long q2)])) _
      refine XS.lcmp X11.here hx rfl (hb hby at_139) rfl ?_
      show Steps p.tables e below (T11.setTop (mkF m 140 #[.val (.long q1), .second, .val (.long q2), .second, .val (.long q3), .second, .val (.int p4), .val (.int p5), .val (.int p6), .val (.ref b7), .val (.int wv), .val (.long bv), .second, .val (.int kv), .val (.long (own_get bv wv u4 u5)), .second, .val (.long ((((own_get bv wv u4 u5).toUInt64 >>> (kv &&& 0x3f).toInt64.toUInt64).toInt64) &&& (1 : Int64))), .second, .val (.int (1 : Int32))] [(.int (lcmpW q2 q2))])) _
      refine XS.ifNo X11.here hx rfl (hb hby at_140) rfl ((if0 _ _).trans (teq hc140).2) ?_
      show Steps p.tables e below (T11.setTop (mkF m 143 #[.val (.long q1), .second, .val (.long q2), .second, .val (.long q3), .second, .val (.int p4), .val (.int p5), .val (.int p6), .val (.ref b7), .val (.int wv), .val (.long bv), .second, .val (.int kv), .val (.long (own_get bv wv u4 u5)), .second, .val (.long ((((own_get bv wv u4 u5).toUInt64 >>> (kv &&& 0x3f).toInt64.toUInt64).toInt64) &&& (1 : Int64))), .second, .val (.int (1 : Int32))] [])) _
      refine XS.aload X11.here hx rfl (hb hby at_143) rfl rfl ?_
      show Steps p.tables e below (T11.setTop (mkF m 145 #[.val (.long q1), .second, .val (.long q2), .second, .val (.long q3), .second, .val (.int p4), .val (.int p5), .val (.int p6), .val (.ref b7), .val (.int wv), .val (.long bv), .second, .val (.int kv), .val (.long (own_get bv wv u4 u5)), .second, .val (.long ((((own_get bv wv u4 u5).toUInt64 >>> (kv &&& 0x3f).toInt64.toUInt64).toInt64) &&& (1 : Int64))), .second, .val (.int (1 : Int32))] [(.ref b7)])) _
      refine XS.iconst X11.here hx rfl (hb hby at_145) ?_
      show Steps p.tables e below (T11.setTop (mkF m 146 #[.val (.long q1), .second, .val (.long q2), .second, .val (.long q3), .second, .val (.int p4), .val (.int p5), .val (.int p6), .val (.ref b7), .val (.int wv), .val (.long bv), .second, .val (.int kv), .val (.long (own_get bv wv u4 u5)), .second, .val (.long ((((own_get bv wv u4 u5).toUInt64 >>> (kv &&& 0x3f).toInt64.toUInt64).toInt64) &&& (1 : Int64))), .second, .val (.int (1 : Int32))] [(.int (2 : Int32)), (.ref b7)])) _
      refine X11.laload hx (j := (2 : Int32)) (v := (.long q3)) (by rw [e11]; exact Ar_b7.1) (State.isArrayOf_alike hZ.alike Ar_b7.2.1) Ar_b7.2.2 hin146 hat146 (g := (mkF m 146 #[.val (.long q1), .second, .val (.long q2), .second, .val (.long q3), .second, .val (.int p4), .val (.int p5), .val (.int p6), .val (.ref b7), .val (.int wv), .val (.long bv), .second, .val (.int kv), .val (.long (own_get bv wv u4 u5)), .second, .val (.long ((((own_get bv wv u4 u5).toUInt64 >>> (kv &&& 0x3f).toInt64.toUInt64).toInt64) &&& (1 : Int64))), .second, .val (.int (1 : Int32))] [(.int (2 : Int32)), (.ref b7)])) rfl rfl (hb hby at_146) _ ?_
      show Steps p.tables e below (T11.setTop (mkF m 147 #[.val (.long q1), .second, .val (.long q2), .second, .val (.long q3), .second, .val (.int p4), .val (.int p5), .val (.int p6), .val (.ref b7), .val (.int wv), .val (.long bv), .second, .val (.int kv), .val (.long (own_get bv wv u4 u5)), .second, .val (.long ((((own_get bv wv u4 u5).toUInt64 >>> (kv &&& 0x3f).toInt64.toUInt64).toInt64) &&& (1 : Int64))), .second, .val (.int (1 : Int32))] [(.long q3)])) _
      refine XS.lload X11.here hx rfl (hb hby at_147) rfl ?_
      show Steps p.tables e below (T11.setTop (mkF m 149 #[.val (.long q1), .second, .val (.long q2), .second, .val (.long q3), .second, .val (.int p4), .val (.int p5), .val (.int p6), .val (.ref b7), .val (.int wv), .val (.long bv), .second, .val (.int kv), .val (.long (own_get bv wv u4 u5)), .second, .val (.long ((((own_get bv wv u4 u5).toUInt64 >>> (kv &&& 0x3f).toInt64.toUInt64).toInt64) &&& (1 : Int64))), .second, .val (.int (1 : Int32))] [(.long q3), (.long q3)])) _
      refine XS.lcmp X11.here hx rfl (hb hby at_149) rfl ?_
      show Steps p.tables e below (T11.setTop (mkF m 150 #[.val (.long q1), .second, .val (.long q2), .second, .val (.long q3), .second, .val (.int p4), .val (.int p5), .val (.int p6), .val (.ref b7), .val (.int wv), .val (.long bv), .second, .val (.int kv), .val (.long (own_get bv wv u4 u5)), .second, .val (.long ((((own_get bv wv u4 u5).toUInt64 >>> (kv &&& 0x3f).toInt64.toUInt64).toInt64) &&& (1 : Int64))), .second, .val (.int (1 : Int32))] [(.int (lcmpW q3 q3))])) _
      refine XS.ifNo X11.here hx rfl (hb hby at_150) rfl ((if0 _ _).trans (teq hc150).2) ?_
      show Steps p.tables e below (T11.setTop (mkF m 153 #[.val (.long q1), .second, .val (.long q2), .second, .val (.long q3), .second, .val (.int p4), .val (.int p5), .val (.int p6), .val (.ref b7), .val (.int wv), .val (.long bv), .second, .val (.int kv), .val (.long (own_get bv wv u4 u5)), .second, .val (.long ((((own_get bv wv u4 u5).toUInt64 >>> (kv &&& 0x3f).toInt64.toUInt64).toInt64) &&& (1 : Int64))), .second, .val (.int (1 : Int32))] [])) _
      refine XS.iconst X11.here hx rfl (hb hby at_153) ?_
      show Steps p.tables e below (T11.setTop (mkF m 154 #[.val (.long q1), .second, .val (.long q2), .second, .val (.long q3), .second, .val (.int p4), .val (.int p5), .val (.int p6), .val (.ref b7), .val (.int wv), .val (.long bv), .second, .val (.int kv), .val (.long (own_get bv wv u4 u5)), .second, .val (.long ((((own_get bv wv u4 u5).toUInt64 >>> (kv &&& 0x3f).toInt64.toUInt64).toInt64) &&& (1 : Int64))), .second, .val (.int (1 : Int32))] [(.int (1 : Int32))])) _
      refine XS.goto X11.here hx rfl (pc0 := 154) (pc' := 158) rfl (hb hby at_154) (by decide) (by decide) ?_
      show Steps p.tables e below (T11.setTop (mkF m 158 #[.val (.long q1), .second, .val (.long q2), .second, .val (.long q3), .second, .val (.int p4), .val (.int p5), .val (.int p6), .val (.ref b7), .val (.int wv), .val (.long bv), .second, .val (.int kv), .val (.long (own_get bv wv u4 u5)), .second, .val (.long ((((own_get bv wv u4 u5).toUInt64 >>> (kv &&& 0x3f).toInt64.toUInt64).toInt64) &&& (1 : Int64))), .second, .val (.int (1 : Int32))] [(.int (1 : Int32))])) _
      exact retN X11 hx (t := .boolean) Bd.returns (by simp) (hb hby at_158) hr
    · show Q0 Z q1 q2 q3 p4 p5 p6 h0 n0 _ T11.heap _
      rw [e11]
      exact ⟨rfl, N11⟩

set_option maxRecDepth 65536 in
set_option maxHeartbeats 40000000 in
theorem comes_1 {Post : Tables → Env → Array Value → State → Outcome → State → Prop} (hpost : ∀ tb e args s v u, (limb_1_1.after args s (.returned v) u = true ∧ limb_1_2.after args s (.returned v) u = true ∧ True) → FrameEnd s (.returned v) u (Jvm.fieldLocs frame_1_writes args s ++ Jvm.arrayLocs frame_1_arrays args s ++ Jvm.staticLocs frame_1_statics s) 16 128 → Post tb e args s (.returned v) u) :
    ArmFor flags0 classFile x code maxLocals ret World_1 tables_1 room_1 Calls_1 rest_1 Pre_1 Post := by
  intro l hfl _ _ p e ha hc hk s m args below hf hA hF happ hP
  obtain ⟨hcalls, hrest, hpre⟩ := hP
  obtain ⟨-, -, -, hnamed, -, -, -, hat⟩ := (Spec.applies_iff hf).mp happ
  obtain ⟨hg, hn⟩ := and_e (Cond.before_iff.mp (show (Jvm.Cond.and given_1 narrow_1).before args s = true from hpre))
  obtain ⟨g16, g17⟩ := and_e hg
  obtain ⟨g18, g19⟩ := and_e g17
  obtain ⟨g20, g21⟩ := and_e g19
  obtain ⟨g22, g23⟩ := and_e g21
  obtain ⟨g24, g25⟩ := and_e g23
  obtain ⟨g26, g27⟩ := and_e g25
  obtain ⟨w0, w1, w2, w3, w4, w5, rfl⟩ : ∃ w0 w1 w2 w3 w4 w5 : Value, args = #[w0, w1, w2, w3, w4, w5] := by
    have hs : args.size = 6 := by simpa [Cond.value, given_1] using g16
    obtain ⟨L⟩ := args
    match L, hs with
    | [w0, w1, w2, w3, w4, w5], _ => exact ⟨w0, w1, w2, w3, w4, w5, rfl⟩
  have hw := fun d (hd : d ∈ tables_1) => atoms_spec (ws := Jvm.Cond.code x code maxLocals ret :: tables_1) hat d (List.mem_cons_of_mem _ hd)
  have hfit : Fit s := fun {y c} hc i hi => by
    obtain ⟨ha, rfl⟩ := Array.getElem?_eq_some_iff.mp hc
    have q := List.all_eq_true.mp ((Array.all_eq_true_iff_forall_mem.mp hF) _ (Array.getElem_mem ha)) i (List.mem_range.mpr hi)
    simpa [Array.getElem?_eq_getElem hi] using q
  obtain ⟨i0, ei0⟩ := isL_v g18
  obtain rfl : w0 = (.long i0) := Option.some.inj ei0
  obtain ⟨i1, ei1⟩ := isL_v g20
  obtain rfl : w1 = (.long i1) := Option.some.inj ei1
  obtain ⟨i2, ei2⟩ := isL_v g22
  obtain rfl : w2 = (.long i2) := Option.some.inj ei2
  obtain ⟨i3, ei3⟩ := is_v g24
  obtain rfl : w3 = (.int i3) := Option.some.inj ei3
  obtain ⟨i4, ei4⟩ := is_v g26
  obtain rfl : w4 = (.int i4) := Option.some.inj ei4
  obtain ⟨i5, ei5⟩ := is_v g27
  obtain rfl : w5 = (.int i5) := Option.some.inj ei5
  obtain ⟨n, o, h1, h2, h3, _, L, rfl, ⟨rfl, N⟩, hq⟩ := rm0 l s _ hw tables_1 i0 i1 i2 i3 i4 i5 s.heap s.heap.size (Nat.le_refl _) p e ha hc hk s m _ below hf ((Spec.applies_iff_loose hf).mp happ).1 ⟨rfl, State.Warmed39.refl s, rfl⟩ trivial
  refine ⟨n, _, h1, h2, h3, hpost _ _ _ _ _ _ ⟨Cond.after_iff.mpr rfl, Cond.after_iff.mpr (eq_i res_at (Term.int_eval (1)) rfl), trivial⟩ ⟨hq.1, hq.2.1, (hq.2.2.sift fun y hy => Or.inr (N y hy)).mono (by decide) (by decide)⟩⟩
theorem main_1_1 : Claimed_1_1 := comes_1 fun _ _ _ _ _ _ h hF => ⟨h.1, hF⟩
theorem main_1_2 : Claimed_1_2 := comes_1 fun _ _ _ _ _ _ h hF => ⟨h.2.1, hF⟩
end Jvm.Pilot.@@N@@
namespace Jvm.Pilot.@@N@@
open Jvm Jvm.ClassFile Sem Op Lib Jvm.Free Jvm.Stand Jvm.Pilot.@@N@@.Jvm.D
/-! MADE BY PROGRAM (witnessworld.py) out of the Statement's table words and the real class files: 11 classes; the members and pool entries that the words name. The judged class is class 1, her method 2. -/
namespace start1
open Jvm.ClassFile
def u (s : String) : CpInfo := .utf8 (stringToUtf16 s)
/-- a pool by its gaps: so many unusable entries, then the entry; so many at the end -/
def gap : Nat → List CpInfo → List CpInfo
  | 0, r => r
  | n + 1, r => .unusable :: gap n r
def poolList (es : List (Nat × CpInfo)) (last : Nat) : List CpInfo := es.foldr (fun e r => gap e.1 (e.2 :: r)) (gap last [])
def pool (es : List (Nat × CpInfo)) (last : Nat) : Array CpInfo := ⟨poolList es last⟩
def fileOf (pool : Array CpInfo) (this : Nat) (attrs : Array Attribute := #[]) (ms : Array MethodInfo := #[]) (fl : Nat := 33) (sup : Nat := 0) (ifs : Array Nat := #[]) (fds : Array FieldInfo := #[]) : ClassFile where
  minorVersion := 0
  majorVersion := 65
  constantPool := pool
  accessFlags := fl
  thisClass := this
  superClass := sup
  interfaces := ifs
  fields := fds
  methods := ms
  attributes := attrs
def plain (name : String) (sup : Option ClassId) : Class where
  name := name
  kind := .ordinary
  loader := none
  accessFlags := 33
  super := sup
  interfaces := #[]
  cf := none
  fields := #[]
  methods := #[]
  instanceTypes := #[]
  staticTypes := #[]
  resolved := #[]
  callSites := []
  init := .initialized
  statics := none
  mirror := none

def pool0 : Array CpInfo := pool [(5, u "<init>"), (0, u "()V"), (1, .class_ 10), (1, u "java/lang/Object")] 113

def k0m0 : Method := { name := "<init>", desc := "()V", sig := { parameters := [], returnType := none }, accessFlags := 1, code := none }
/-- java/lang/Object -/
def k0 : Class := { plain "java/lang/Object" none with
  accessFlags := 33
  interfaces := #[]
  cf := some (fileOf pool0 8 #[] #[{ accessFlags := 1, nameIndex := 5, descriptorIndex := 6, attributes := #[] }] 33 0 #[] #[])
  fields := #[]
  methods := #[k0m0]
  instanceTypes := #[]
  staticTypes := #[]
  resolved := Array.replicate 124 none
  statics := none }

def pool1 : Array CpInfo := pool [(2, .class_ 4), (1, u "java/lang/Object"), (0, u "<init>"), (0, u "()V"), (0, .long 63), (1, .integer 2147483647), (0, .methodref 11 12), (0, .class_ 13), (0, .nameAndType 14 15), (0, u "com/example/inchworm/inchworm/PackedBits"), (0, u "get"), (0, u "([JJI)J"), (0, .methodref 17 18), (0, .class_ 19), (0, .nameAndType 20 21), (0, u "com/example/inchworm/inchworm/PackedBitsGetPinLaw"), (0, u "arrayBit"), (0, u "([JJ)J"), (2, u "law"), (0, u "(JJJIII)Z")] 5

def k1m0 : Method := { name := "<init>", desc := "()V", sig := { parameters := [], returnType := none }, accessFlags := 2, code := none }
def k1c1 : Code := { maxStack := 6, maxLocals := 3, code := method_2_code, exceptionTable := #[], attributes := #[] }
def k1m1 : Method := { name := "arrayBit", desc := "([JJ)J", sig := { parameters := [(.array .long), .long], returnType := some .long }, accessFlags := 10, code := some k1c1 }
def k1c2 : Code := { maxStack := 7, maxLocals := 19, code := code, exceptionTable := #[], attributes := #[] }
def k1m2 : Method := { name := "law", desc := "(JJJIII)Z", sig := { parameters := [.long, .long, .long, .int, .int, .int], returnType := some .boolean }, accessFlags := 9, code := some k1c2 }
/-- com/example/inchworm/inchworm/PackedBitsGetPinLaw -/
def k1 : Class := { plain "com/example/inchworm/inchworm/PackedBitsGetPinLaw" (some 0) with
  accessFlags := 49
  interfaces := #[]
  cf := some (fileOf pool1 17 #[] #[{ accessFlags := 2, nameIndex := 5, descriptorIndex := 6, attributes := #[] }, { accessFlags := 10, nameIndex := 20, descriptorIndex := 21, attributes := #[] }, { accessFlags := 9, nameIndex := 24, descriptorIndex := 25, attributes := #[] }] 49 2 #[] #[])
  fields := #[]
  methods := #[k1m0, k1m1, k1m2]
  instanceTypes := #[]
  staticTypes := #[]
  resolved := Array.replicate 31 none
  statics := none }

def pool2 : Array CpInfo := pool [(2, .class_ 4), (1, u "java/lang/Object"), (0, u "<init>"), (0, u "()V"), (8, .long 18446744073709551615), (1, .class_ 18), (0, u "com/example/inchworm/inchworm/PackedBits"), (4, u "get"), (0, u "([JJI)J")] 5

def k2m0 : Method := { name := "<init>", desc := "()V", sig := { parameters := [], returnType := none }, accessFlags := 2, code := none }
def k2c1 : Code := { maxStack := 6, maxLocals := 8, code := prog_98_method_3_code, exceptionTable := #[], attributes := #[] }
def k2m1 : Method := { name := "get", desc := "([JJI)J", sig := { parameters := [(.array .long), .long, .int], returnType := some .long }, accessFlags := 8, code := some k2c1 }
/-- com/example/inchworm/inchworm/PackedBits -/
def k2 : Class := { plain "com/example/inchworm/inchworm/PackedBits" (some 0) with
  accessFlags := 48
  interfaces := #[]
  cf := some (fileOf pool2 17 #[] #[{ accessFlags := 2, nameIndex := 5, descriptorIndex := 6, attributes := #[] }, { accessFlags := 8, nameIndex := 23, descriptorIndex := 24, attributes := #[] }] 48 2 #[] #[])
  fields := #[]
  methods := #[k2m0, k2m1]
  instanceTypes := #[]
  staticTypes := #[]
  resolved := Array.replicate 30 none
  statics := none }

def pool3 : Array CpInfo := pool [(1, u "java/lang/Cloneable"), (0, .class_ 1), (0, u "java/lang/Object"), (0, .class_ 3)] 3

/-- java/lang/Cloneable -/
def k3 : Class := { plain "java/lang/Cloneable" (some 0) with
  accessFlags := 1537
  interfaces := #[]
  cf := some (fileOf pool3 2 #[] #[] 1537 4 #[] #[])
  fields := #[]
  methods := #[]
  instanceTypes := #[]
  staticTypes := #[]
  resolved := Array.replicate 8 none
  statics := none }

def pool4 : Array CpInfo := pool [(1, u "java/io/Serializable"), (0, .class_ 1), (0, u "java/lang/Object"), (0, .class_ 3)] 3

/-- java/io/Serializable -/
def k4 : Class := { plain "java/io/Serializable" (some 0) with
  accessFlags := 1537
  interfaces := #[]
  cf := some (fileOf pool4 2 #[] #[] 1537 4 #[] #[])
  fields := #[]
  methods := #[]
  instanceTypes := #[]
  staticTypes := #[]
  resolved := Array.replicate 8 none
  statics := none }

/-- the primitive byte -/
def k5 : Class := { plain "byte" none with kind := .primitive 'B', accessFlags := 0x411 }
/-- [B -/
def k6 : Class := { plain "[B" (some 0) with kind := .array 5 .byte, interfaces := #[3, 4], accessFlags := 1041 }

/-- the primitive int -/
def k7 : Class := { plain "int" none with kind := .primitive 'I', accessFlags := 0x411 }
/-- [I -/
def k8 : Class := { plain "[I" (some 0) with kind := .array 7 .int, interfaces := #[3, 4], accessFlags := 1041 }

/-- the primitive long -/
def k9 : Class := { plain "long" none with kind := .primitive 'J', accessFlags := 0x411 }
/-- [J -/
def k10 : Class := { plain "[J" (some 0) with kind := .array 9 .long, interfaces := #[3, 4], accessFlags := 1041 }

def heap : Heap := #[]
def classes : Array Class := #[k0, k1, k2, k3, k4, k5, k6, k7, k8, k9, k10]
def interned : List (Array UInt16 × Addr) := []
def slotsUsed : Nat := 0
def theMethod : MethodId := ⟨1, 2⟩
def args0 : Array Value := #[.long 5, .long 6, .long 7, .int 3, .int 4, .int 2]
def aboutOver (below : List Frame) : State where
  vm := { classes := classes, interned := interned.toArray }
  heap := heap
  slotsUsed := slotsUsed
  threads := #[{ frames := .invoking theMethod args0 :: below }]
def below0 : List Frame := [.native { method := ⟨0, 0⟩, args := #[] }]
def about1 : State := aboutOver below0
def p0 : Program := .bare "" "" ""
def e0 : Env := launch0.env 0 0 0
theorem w_frames : about1.frames = Frame.invoking theMethod args0 :: below0 := rfl
set_option maxRecDepth 65536 in
theorem w_args : argsFit about1.vm theMethod args0 = true := by decide +kernel
set_option maxRecDepth 65536 in
theorem w_heap : heapFits about1 = true := by decide +kernel
set_option maxRecDepth 65536 in
theorem w_runnable : about1.curStatus? = some .runnable := by decide +kernel
set_option maxRecDepth 65536 in
theorem w_alone : about1.alone = true := by decide +kernel
set_option maxRecDepth 65536 in
theorem w_named : about1.methodNamed? x = some theMethod := by decide +kernel
set_option maxRecDepth 65536 in
theorem w_hears : about1.hears theMethod below0 = true := by decide +kernel
set_option maxRecDepth 65536 in
theorem w_ripe : about1.ripe theMethod args0 below0 = true := by decide +kernel
theorem w_running : about1.status = .running := rfl
set_option maxRecDepth 65536 in
theorem w_room : about1.hasRoom e0.platform room_1 = true :=
  launch0.hasRoom_least _ room_1 (by decide +kernel) (by decide +kernel) (by decide +kernel) (by decide +kernel) (by decide +kernel) (by decide +kernel)
theorem allAtoms_all (ts : List Jvm.Cond) (a : Array Jvm.Value) (st : Jvm.State) : (allAtoms ts).before a st = ts.all (fun c => c.before a st) := by
  induction ts with
  | nil => rfl
  | cons c t ih =>
    show (Jvm.Cond.and c (allAtoms t)).before a st = _
    rw [Jvm.Cond.before_and, ih, List.all_cons]
def words1 : List Jvm.Cond := Jvm.Cond.code x code maxLocals ret :: tables_1
/-- a 'code' word, met by the world's own term for the bytes: nothing is compared byte by byte -/
theorem code_word {y : MethodName} {bytes : ByteArray} {mx : Nat} {rt : Option FieldType} {a : Array Value} {s : State} {m : MethodId} {meth : Method} {c : Code} (h1 : s.methodNamed? y = some m) (h2 : s.vm.method? m = some meth) (h3 : meth.code = some c) (h4 : c.code = bytes)
    (h5 : (c.maxLocals == mx && c.exceptionTable.isEmpty && decide (c.maxStack ≤ mostOperands) && decide (meth.sig.returnType = rt) && !meth.locks && decide (parseMethodDescriptor y.desc = some meth.sig)) = true) : (Jvm.Cond.code y bytes mx rt).before a s = true := by
  simp only [Bool.and_eq_true, beq_iff_eq, Bool.not_eq_true', decide_eq_true_eq] at h5
  obtain ⟨⟨⟨⟨⟨g1, g2⟩, g3⟩, g4⟩, g5⟩, g6⟩ := h5
  simp [Cond.before, Cond.holds, Cond.value, h1, h2, h3, h4, g1, g2, g3, g4, g5, g6]
def isCode : Jvm.Cond → Bool
  | .code _ _ _ _ => true
  | _ => false
theorem all_split {L : List Jvm.Cond} {P : Jvm.Cond → Bool} (h1 : L.all (fun c => isCode c || P c) = true) (h2 : ∀ c ∈ L.filter isCode, P c = true) : L.all P = true := by
  refine List.all_eq_true.mpr fun c hc => ?_
  have h := List.all_eq_true.mp h1 c hc
  rcases Bool.eq_false_or_eq_true (isCode c) with hi | hi
  · exact h2 c (List.mem_filter.mpr ⟨hc, hi⟩)
  · simpa [hi] using h
set_option maxRecDepth 65536 in
theorem w_c0 : (Jvm.Cond.code x code maxLocals ret).before args0 about1 = true := code_word (m := ⟨1, 2⟩) (meth := k1m2) (c := k1c2) (by decide +kernel) rfl rfl rfl (by decide +kernel)
set_option maxRecDepth 65536 in
theorem w_c1 : (Jvm.Cond.code ({ cls := "com/example/inchworm/inchworm/PackedBits", name := "get", desc := "([JJI)J" } : Jvm.MethodName) prog_98_method_3_code (8 : Nat) (Option.some Jvm.ClassFile.FieldType.long)).before args0 about1 = true := code_word (m := ⟨2, 1⟩) (meth := k2m1) (c := k2c1) (by decide +kernel) rfl rfl rfl (by decide +kernel)
set_option maxRecDepth 65536 in
theorem w_c2 : (Jvm.Cond.code ({ cls := "com/example/inchworm/inchworm/PackedBitsGetPinLaw", name := "arrayBit", desc := "([JJ)J" } : Jvm.MethodName) method_2_code (3 : Nat) (Option.some Jvm.ClassFile.FieldType.long)).before args0 about1 = true := code_word (m := ⟨1, 1⟩) (meth := k1m1) (c := k1c1) (by decide +kernel) rfl rfl rfl (by decide +kernel)
def codes1 : List Jvm.Cond := [Jvm.Cond.code x code maxLocals ret, Jvm.Cond.code ({ cls := "com/example/inchworm/inchworm/PackedBits", name := "get", desc := "([JJI)J" } : Jvm.MethodName) prog_98_method_3_code (8 : Nat) (Option.some Jvm.ClassFile.FieldType.long), Jvm.Cond.code ({ cls := "com/example/inchworm/inchworm/PackedBitsGetPinLaw", name := "arrayBit", desc := "([JJ)J" } : Jvm.MethodName) method_2_code (3 : Nat) (Option.some Jvm.ClassFile.FieldType.long)]
set_option maxRecDepth 65536 in
theorem codes_eq : words1.filter isCode = codes1 := rfl
theorem w_codes : ∀ c ∈ words1.filter isCode, c.before args0 about1 = true := by
  rw [codes_eq]
  intro c hc
  simp only [codes1, List.mem_cons, List.not_mem_nil, or_false] at hc
  rcases hc with rfl | rfl | rfl
  · exact w_c0
  · exact w_c1
  · exact w_c2
set_option maxRecDepth 65536 in
theorem w_t1 : words1.all (fun c => isCode c || c.before args0 about1) = true := by decide +kernel
theorem w_tables : (allAtoms (Jvm.Cond.code x code maxLocals ret :: tables_1)).before args0 about1 = true := by
  rw [allAtoms_all]
  show words1.all (fun c => c.before args0 about1) = true
  refine all_split ?_ w_codes
  rw [w_t1]
set_option maxRecDepth 65536 in
theorem w_case : (Jvm.Cond.and given_1 narrow_1).before args0 about1 = true := by decide +kernel
theorem w_applies : (headSpec (Jvm.Cond.code x code maxLocals ret :: tables_1) room_1).applies x e0.platform about1 = true :=
  (Spec.applies_iff w_frames).mpr ⟨w_running, w_runnable, w_alone, w_named, w_hears, w_ripe, w_room, w_tables⟩
theorem atStart : AtStart classFile x code maxLocals ret World_1 tables_1 room_1 Calls_1 rest_1 Pre_1 launch0 p0 e0 about1 theMethod args0 below0 :=
  ⟨lists_1, trivial, launch0.admits_env _ _ _, launch0.least_env, fairChoices_fair.cas, fairChoices_fair.clock, w_frames, w_args, w_heap, w_applies, trivial, trivial, w_case⟩
end start1
theorem witness_1 : WitnessClaimed_1 := ⟨start1.p0, start1.e0, start1.about1, start1.theMethod, start1.args0, start1.below0, start1.atStart⟩
end Jvm.Pilot.@@N@@
