import JvmDerived
import JvmDerived.Pilot.@@N@@Statement
import JvmDerived.Pilot.@@N@@Code
set_option linter.unusedVariables false
set_option linter.unusedSimpArgs false
namespace Jvm.RoadKit
open Sem ClassFile Op Lib Jvm.Stand Jvm.Free Jvm.LawKit
section New
variable {p : Program} {l : Launch} {e : Env} {R : Room} {s : State} {m : MethodId} {args : Array Value} {below : List Frame} {meth : Method} {c : Code} {T : State} {locs : List Loc} {cells slots : Nat}
theorem retI (X : Stand p l e R s m args below meth c T locs cells slots) (hx : p.tables.exec = Jvm.exec) {pc : Nat} {Ls : Array Slot} {z : Int32} {rest : List Value} (hret : meth.sig.returnType = some .int) (hd : decode c.code pc = .ok (.ireturn, 1)) {fs : List Frame}
    (hl : ∀ (f : JFrame) (acts : List Action), f.method = m → f.locked = none → f.entered = [] → (doReturn e (T.setTop f) acts (some (.int z))).1 = T.setFrames fs) : Steps p.tables e below (T.setTop (mkF m pc Ls (.int z :: rest))) (T.setFrames fs) := by
  have hm' : T.vm.method? m = some meth := X.method'
  have hn : narrow .int (.int z) = .int z := rfl
  show Steps p.tables e below (T.setTop { method := m, pc := pc, locals := Ls, stack := _ :: rest, locked := none }) _
  jvm_step X.here [X.here.top, hx, hd, hm', hret, hn]
  first | (intro acts; rw [hl _ acts rfl rfl rfl]) | rw [hl _ _ rfl rfl rfl]
  exact Steps.refl _
end New
end Jvm.RoadKit
namespace Jvm.Pilot.@@N@@
open Jvm Jvm.ClassFile Sem Op Lib Jvm.Free Jvm.Stand Jvm.LawKit Jvm.RoadKit Bundle Jvm.Pilot.@@N@@.Jvm.D
theorem d1_0 : decode prog_33_method_3_code 0 = .ok (.lload_n 0, 1) := by decide +kernel
theorem d1_1 : decode prog_33_method_3_code 1 = .ok (.ldc2_w 29, 3) := by decide +kernel
theorem d1_4 : decode prog_33_method_3_code 4 = .ok (.land, 1) := by decide +kernel
theorem d1_5 : decode prog_33_method_3_code 5 = .ok (.ldc2_w 31, 3) := by decide +kernel
theorem d1_8 : decode prog_33_method_3_code 8 = .ok (.lcmp, 1) := by decide +kernel
theorem d1_9 : decode prog_33_method_3_code 9 = .ok (.ifCond .ne 7, 3) := by decide +kernel
theorem d1_16 : decode prog_33_method_3_code 16 = .ok (.iconst 0, 1) := by decide +kernel
theorem d1_17 : decode prog_33_method_3_code 17 = .ok (.ireturn, 1) := by decide +kernel
theorem pn_1 : plainName "com/example/isolyne/isolyne/LockWords" = true := by first | (simp [plainName, overriddenIn]; done) | decide +kernel
theorem ef_1 (m : MethodId) (x0 : Int64) : entryFrame m #[(.long x0)] 2 = mkF m 0 #[.val (.long x0), .second] [] := by first | (simp [entryFrame, mkF, argsToLocals, Value.category]; done) | rfl
def Q1_t (Z : State) (q1 : Int64) (h0 : Heap) (n0 : Nat) (v : Option Value) (h : Heap) (L : List Loc) : Prop := v = some (.int (0 : Int32)) ∧ Fr n0 L ∧ h = h0
set_option maxRecDepth 65536 in
set_option maxHeartbeats 40000000 in
theorem rm1_t (l : Launch) (Z : State) (a0 : Array Value) (hw : ∀ d ∈ tables_1, d.before a0 Z = true) (ws : List Jvm.Cond) (q1 : Int64) (h0 : Heap) (n0 : Nat) (Z0 : n0 ≤ h0.size) (hc9 : ¬ ((lcmpW (q1 &&& (12582912 : Int64)) (4194304 : Int64)) = (0 : Int32))) :
    MetFree l (⟨"com/example/isolyne/isolyne/LockWords", "namesTableState", "(J)Z"⟩ : MethodName) (head1 (Jvm.Cond.code (⟨"com/example/isolyne/isolyne/LockWords", "namesTableState", "(J)Z"⟩ : MethodName) prog_33_method_3_code 2 (some .boolean) :: ws) ({ frames := 0, cells := 0, slots := 0, locals := 0 } : Room)) (fun a U => a = #[(.long q1)] ∧ Z.Warmed39 U.vm ∧ U.heap = h0) (fun _ _ _ _ _ => True) (fun _ U o U' => ∃ v L, o = .returned v ∧ Q1_t Z q1 h0 n0 v U'.heap L ∧ FrameEnd U o U' L ({ frames := 0, cells := 0, slots := 0, locals := 0 } : Room).cells ({ frames := 0, cells := 0, slots := 0, locals := 0 } : Room).slots) := by
  refine MetFree.of_bodySF (plainFor_of_name pn_1) hisR ?_
  intro p e s m args below meth c s₁ Bd hml0 hP hK
  obtain ⟨rfl, hZ, hh⟩ := hP
  have hx := Bd.exec
  have hby := Bd.bytes
  have hml : c.maxLocals = 2 := hml0
  have hown : s.vm.findClass "com/example/isolyne/isolyne/LockWords" = some m.cls := findClass_of_methodNamed Bd.named
  have hnm := (name_of_methodNamed Bd.named Bd.method).1
  have X0 : Stand p l e ({ frames := 0, cells := 0, slots := 0, locals := 0 } : Room) s m #[(.long q1)] below meth c s₁ [] 0 0 := Stand.of_body Bd
  have e0 : s₁.heap = h0 := by rw [← hh, Bd.state]; rfl
  have N0 := Fr.nil n0
  have pre0 : ∀ t, Steps p.tables e below (s₁.setTop (mkF m 0 #[.val (.long q1), .second] [])) t → Steps p.tables e below (s₁.setTop (entryFrame m #[(.long q1)] 2)) t := fun t k => castTop (ef_1 m q1) k

  obtain ⟨fs, hr, hrun, hended, hW, hsame⟩ := X0.leave (v := some (.int (0 : Int32))) (fun h => by rw [Bd.returns] at h; cases h)
  refine ⟨_, _, pre0 _ ?_, hrun, hended, _, _, rfl, ?_, ⟨_, rfl⟩, hW, hsame.mono (by decide) (by decide)⟩
  · show Steps p.tables e below (s₁.setTop (mkF m 0 #[.val (.long q1), .second] [])) _
    refine XS.lloadN X0.here hx rfl (hb hby d1_0) rfl ?_
    show Steps p.tables e below (s₁.setTop (mkF m 1 #[.val (.long q1), .second] [(.long q1)])) _
    refine X0.ldc2Long hx hown (mvT hZ (hw _ (List.mem_of_getElem? (i := 5) rfl))) (g := (mkF m 1 #[.val (.long q1), .second] [(.long q1)])) rfl (hb hby d1_1) _ ?_
    show Steps p.tables e below (s₁.setTop (mkF m 4 #[.val (.long q1), .second] [(.long (12582912 : Int64)), (.long q1)])) _
    refine XS.land X0.here hx rfl (hb hby d1_4) rfl ?_
    show Steps p.tables e below (s₁.setTop (mkF m 5 #[.val (.long q1), .second] [(.long (q1 &&& (12582912 : Int64)))])) _
    refine X0.ldc2Long hx hown (mvT hZ (hw _ (List.mem_of_getElem? (i := 6) rfl))) (g := (mkF m 5 #[.val (.long q1), .second] [(.long (q1 &&& (12582912 : Int64)))])) rfl (hb hby d1_5) _ ?_
    show Steps p.tables e below (s₁.setTop (mkF m 8 #[.val (.long q1), .second] [(.long (4194304 : Int64)), (.long (q1 &&& (12582912 : Int64)))])) _
    refine XS.lcmp X0.here hx rfl (hb hby d1_8) rfl ?_
    show Steps p.tables e below (s₁.setTop (mkF m 9 #[.val (.long q1), .second] [(.int (lcmpW (q1 &&& (12582912 : Int64)) (4194304 : Int64)))])) _
    refine XS.ifYes X0.here hx rfl (pc0 := 9) (pc' := 16) rfl (hb hby d1_9) rfl ((if0 _ _).trans (feq hc9).2) (by decide) (by decide) ?_
    show Steps p.tables e below (s₁.setTop (mkF m 16 #[.val (.long q1), .second] [])) _
    refine XS.iconst X0.here hx rfl (hb hby d1_16) ?_
    show Steps p.tables e below (s₁.setTop (mkF m 17 #[.val (.long q1), .second] [(.int (0 : Int32))])) _
    exact retN X0 hx (t := .boolean) Bd.returns (by simp) (hb hby d1_17) hr
  · show Q1_t Z q1 h0 n0 _ s₁.heap _
    rw [e0]
    exact ⟨rfl, N0, rfl⟩
theorem d1_12 : decode prog_33_method_3_code 12 = .ok (.iconst 1, 1) := by decide +kernel
theorem d1_13 : decode prog_33_method_3_code 13 = .ok (.goto 4, 3) := by decide +kernel
def Q1_f (Z : State) (q1 : Int64) (h0 : Heap) (n0 : Nat) (v : Option Value) (h : Heap) (L : List Loc) : Prop := v = some (.int (1 : Int32)) ∧ Fr n0 L ∧ h = h0
set_option maxRecDepth 65536 in
set_option maxHeartbeats 40000000 in
theorem rm1_f (l : Launch) (Z : State) (a0 : Array Value) (hw : ∀ d ∈ tables_1, d.before a0 Z = true) (ws : List Jvm.Cond) (q1 : Int64) (h0 : Heap) (n0 : Nat) (Z0 : n0 ≤ h0.size) (hc9 : (lcmpW (q1 &&& (12582912 : Int64)) (4194304 : Int64)) = (0 : Int32)) :
    MetFree l (⟨"com/example/isolyne/isolyne/LockWords", "namesTableState", "(J)Z"⟩ : MethodName) (head1 (Jvm.Cond.code (⟨"com/example/isolyne/isolyne/LockWords", "namesTableState", "(J)Z"⟩ : MethodName) prog_33_method_3_code 2 (some .boolean) :: ws) ({ frames := 0, cells := 0, slots := 0, locals := 0 } : Room)) (fun a U => a = #[(.long q1)] ∧ Z.Warmed39 U.vm ∧ U.heap = h0) (fun _ _ _ _ _ => True) (fun _ U o U' => ∃ v L, o = .returned v ∧ Q1_f Z q1 h0 n0 v U'.heap L ∧ FrameEnd U o U' L ({ frames := 0, cells := 0, slots := 0, locals := 0 } : Room).cells ({ frames := 0, cells := 0, slots := 0, locals := 0 } : Room).slots) := by
  refine MetFree.of_bodySF (plainFor_of_name pn_1) hisR ?_
  intro p e s m args below meth c s₁ Bd hml0 hP hK
  obtain ⟨rfl, hZ, hh⟩ := hP
  have hx := Bd.exec
  have hby := Bd.bytes
  have hml : c.maxLocals = 2 := hml0
  have hown : s.vm.findClass "com/example/isolyne/isolyne/LockWords" = some m.cls := findClass_of_methodNamed Bd.named
  have hnm := (name_of_methodNamed Bd.named Bd.method).1
  have X0 : Stand p l e ({ frames := 0, cells := 0, slots := 0, locals := 0 } : Room) s m #[(.long q1)] below meth c s₁ [] 0 0 := Stand.of_body Bd
  have e0 : s₁.heap = h0 := by rw [← hh, Bd.state]; rfl
  have N0 := Fr.nil n0
  have pre0 : ∀ t, Steps p.tables e below (s₁.setTop (mkF m 0 #[.val (.long q1), .second] [])) t → Steps p.tables e below (s₁.setTop (entryFrame m #[(.long q1)] 2)) t := fun t k => castTop (ef_1 m q1) k

  obtain ⟨fs, hr, hrun, hended, hW, hsame⟩ := X0.leave (v := some (.int (1 : Int32))) (fun h => by rw [Bd.returns] at h; cases h)
  refine ⟨_, _, pre0 _ ?_, hrun, hended, _, _, rfl, ?_, ⟨_, rfl⟩, hW, hsame.mono (by decide) (by decide)⟩
  · show Steps p.tables e below (s₁.setTop (mkF m 0 #[.val (.long q1), .second] [])) _
    refine XS.lloadN X0.here hx rfl (hb hby d1_0) rfl ?_
    show Steps p.tables e below (s₁.setTop (mkF m 1 #[.val (.long q1), .second] [(.long q1)])) _
    refine X0.ldc2Long hx hown (mvT hZ (hw _ (List.mem_of_getElem? (i := 5) rfl))) (g := (mkF m 1 #[.val (.long q1), .second] [(.long q1)])) rfl (hb hby d1_1) _ ?_
    show Steps p.tables e below (s₁.setTop (mkF m 4 #[.val (.long q1), .second] [(.long (12582912 : Int64)), (.long q1)])) _
    refine XS.land X0.here hx rfl (hb hby d1_4) rfl ?_
    show Steps p.tables e below (s₁.setTop (mkF m 5 #[.val (.long q1), .second] [(.long (q1 &&& (12582912 : Int64)))])) _
    refine X0.ldc2Long hx hown (mvT hZ (hw _ (List.mem_of_getElem? (i := 6) rfl))) (g := (mkF m 5 #[.val (.long q1), .second] [(.long (q1 &&& (12582912 : Int64)))])) rfl (hb hby d1_5) _ ?_
    show Steps p.tables e below (s₁.setTop (mkF m 8 #[.val (.long q1), .second] [(.long (4194304 : Int64)), (.long (q1 &&& (12582912 : Int64)))])) _
    refine XS.lcmp X0.here hx rfl (hb hby d1_8) rfl ?_
    show Steps p.tables e below (s₁.setTop (mkF m 9 #[.val (.long q1), .second] [(.int (lcmpW (q1 &&& (12582912 : Int64)) (4194304 : Int64)))])) _
    refine XS.ifNo X0.here hx rfl (hb hby d1_9) rfl ((if0 _ _).trans (teq hc9).2) ?_
    show Steps p.tables e below (s₁.setTop (mkF m 12 #[.val (.long q1), .second] [])) _
    refine XS.iconst X0.here hx rfl (hb hby d1_12) ?_
    show Steps p.tables e below (s₁.setTop (mkF m 13 #[.val (.long q1), .second] [(.int (1 : Int32))])) _
    refine XS.goto X0.here hx rfl (pc0 := 13) (pc' := 17) rfl (hb hby d1_13) (by decide) (by decide) ?_
    show Steps p.tables e below (s₁.setTop (mkF m 17 #[.val (.long q1), .second] [(.int (1 : Int32))])) _
    exact retN X0 hx (t := .boolean) Bd.returns (by simp) (hb hby d1_17) hr
  · show Q1_f Z q1 h0 n0 _ s₁.heap _
    rw [e0]
    exact ⟨rfl, N0, rfl⟩
theorem d2_0 : decode prog_33_method_5_code 0 = .ok (.lload_n 0, 1) := by decide +kernel
theorem d2_1 : decode prog_33_method_5_code 1 = .ok (.ldc2_w 31, 3) := by decide +kernel
theorem d2_4 : decode prog_33_method_5_code 4 = .ok (.land, 1) := by decide +kernel
theorem d2_5 : decode prog_33_method_5_code 5 = .ok (.lconst 0, 1) := by decide +kernel
theorem d2_6 : decode prog_33_method_5_code 6 = .ok (.lcmp, 1) := by decide +kernel
theorem d2_7 : decode prog_33_method_5_code 7 = .ok (.ifCond .eq 7, 3) := by decide +kernel
theorem d2_14 : decode prog_33_method_5_code 14 = .ok (.iconst 0, 1) := by decide +kernel
theorem d2_15 : decode prog_33_method_5_code 15 = .ok (.ireturn, 1) := by decide +kernel
theorem pn_2 : plainName "com/example/isolyne/isolyne/LockWords" = true := by first | (simp [plainName, overriddenIn]; done) | decide +kernel
theorem ef_2 (m : MethodId) (x0 : Int64) : entryFrame m #[(.long x0)] 2 = mkF m 0 #[.val (.long x0), .second] [] := by first | (simp [entryFrame, mkF, argsToLocals, Value.category]; done) | rfl
def Q2_t (Z : State) (q1 : Int64) (h0 : Heap) (n0 : Nat) (v : Option Value) (h : Heap) (L : List Loc) : Prop := v = some (.int (0 : Int32)) ∧ Fr n0 L ∧ h = h0
set_option maxRecDepth 65536 in
set_option maxHeartbeats 40000000 in
theorem rm2_t (l : Launch) (Z : State) (a0 : Array Value) (hw : ∀ d ∈ tables_1, d.before a0 Z = true) (ws : List Jvm.Cond) (q1 : Int64) (h0 : Heap) (n0 : Nat) (Z0 : n0 ≤ h0.size) (hc7 : (lcmpW (q1 &&& (4194304 : Int64)) (0 : Int64)) = (0 : Int32)) :
    MetFree l (⟨"com/example/isolyne/isolyne/LockWords", "isOfTableKind", "(J)Z"⟩ : MethodName) (head1 (Jvm.Cond.code (⟨"com/example/isolyne/isolyne/LockWords", "isOfTableKind", "(J)Z"⟩ : MethodName) prog_33_method_5_code 2 (some .boolean) :: ws) ({ frames := 0, cells := 0, slots := 0, locals := 0 } : Room)) (fun a U => a = #[(.long q1)] ∧ Z.Warmed39 U.vm ∧ U.heap = h0) (fun _ _ _ _ _ => True) (fun _ U o U' => ∃ v L, o = .returned v ∧ Q2_t Z q1 h0 n0 v U'.heap L ∧ FrameEnd U o U' L ({ frames := 0, cells := 0, slots := 0, locals := 0 } : Room).cells ({ frames := 0, cells := 0, slots := 0, locals := 0 } : Room).slots) := by
  refine MetFree.of_bodySF (plainFor_of_name pn_2) hisR ?_
  intro p e s m args below meth c s₁ Bd hml0 hP hK
  obtain ⟨rfl, hZ, hh⟩ := hP
  have hx := Bd.exec
  have hby := Bd.bytes
  have hml : c.maxLocals = 2 := hml0
  have hown : s.vm.findClass "com/example/isolyne/isolyne/LockWords" = some m.cls := findClass_of_methodNamed Bd.named
  have hnm := (name_of_methodNamed Bd.named Bd.method).1
  have X0 : Stand p l e ({ frames := 0, cells := 0, slots := 0, locals := 0 } : Room) s m #[(.long q1)] below meth c s₁ [] 0 0 := Stand.of_body Bd
  have e0 : s₁.heap = h0 := by rw [← hh, Bd.state]; rfl
  have N0 := Fr.nil n0
  have pre0 : ∀ t, Steps p.tables e below (s₁.setTop (mkF m 0 #[.val (.long q1), .second] [])) t → Steps p.tables e below (s₁.setTop (entryFrame m #[(.long q1)] 2)) t := fun t k => castTop (ef_2 m q1) k

  obtain ⟨fs, hr, hrun, hended, hW, hsame⟩ := X0.leave (v := some (.int (0 : Int32))) (fun h => by rw [Bd.returns] at h; cases h)
  refine ⟨_, _, pre0 _ ?_, hrun, hended, _, _, rfl, ?_, ⟨_, rfl⟩, hW, hsame.mono (by decide) (by decide)⟩
  · show Steps p.tables e below (s₁.setTop (mkF m 0 #[.val (.long q1), .second] [])) _
    refine XS.lloadN X0.here hx rfl (hb hby d2_0) rfl ?_
    show Steps p.tables e below (s₁.setTop (mkF m 1 #[.val (.long q1), .second] [(.long q1)])) _
    refine X0.ldc2Long hx hown (mvT hZ (hw _ (List.mem_of_getElem? (i := 6) rfl))) (g := (mkF m 1 #[.val (.long q1), .second] [(.long q1)])) rfl (hb hby d2_1) _ ?_
    show Steps p.tables e below (s₁.setTop (mkF m 4 #[.val (.long q1), .second] [(.long (4194304 : Int64)), (.long q1)])) _
    refine XS.land X0.here hx rfl (hb hby d2_4) rfl ?_
    show Steps p.tables e below (s₁.setTop (mkF m 5 #[.val (.long q1), .second] [(.long (q1 &&& (4194304 : Int64)))])) _
    refine XS.lconst X0.here hx rfl (hb hby d2_5) ?_
    show Steps p.tables e below (s₁.setTop (mkF m 6 #[.val (.long q1), .second] [(.long (0 : Int64)), (.long (q1 &&& (4194304 : Int64)))])) _
    refine XS.lcmp X0.here hx rfl (hb hby d2_6) rfl ?_
    show Steps p.tables e below (s₁.setTop (mkF m 7 #[.val (.long q1), .second] [(.int (lcmpW (q1 &&& (4194304 : Int64)) (0 : Int64)))])) _
    refine XS.ifYes X0.here hx rfl (pc0 := 7) (pc' := 14) rfl (hb hby d2_7) rfl ((if0 _ _).trans (teq hc7).1) (by decide) (by decide) ?_
    show Steps p.tables e below (s₁.setTop (mkF m 14 #[.val (.long q1), .second] [])) _
    refine XS.iconst X0.here hx rfl (hb hby d2_14) ?_
    show Steps p.tables e below (s₁.setTop (mkF m 15 #[.val (.long q1), .second] [(.int (0 : Int32))])) _
    exact retN X0 hx (t := .boolean) Bd.returns (by simp) (hb hby d2_15) hr
  · show Q2_t Z q1 h0 n0 _ s₁.heap _
    rw [e0]
    exact ⟨rfl, N0, rfl⟩
theorem d2_10 : decode prog_33_method_5_code 10 = .ok (.iconst 1, 1) := by decide +kernel
theorem d2_11 : decode prog_33_method_5_code 11 = .ok (.goto 4, 3) := by decide +kernel
def Q2_f (Z : State) (q1 : Int64) (h0 : Heap) (n0 : Nat) (v : Option Value) (h : Heap) (L : List Loc) : Prop := v = some (.int (1 : Int32)) ∧ Fr n0 L ∧ h = h0
set_option maxRecDepth 65536 in
set_option maxHeartbeats 40000000 in
theorem rm2_f (l : Launch) (Z : State) (a0 : Array Value) (hw : ∀ d ∈ tables_1, d.before a0 Z = true) (ws : List Jvm.Cond) (q1 : Int64) (h0 : Heap) (n0 : Nat) (Z0 : n0 ≤ h0.size) (hc7 : ¬ ((lcmpW (q1 &&& (4194304 : Int64)) (0 : Int64)) = (0 : Int32))) :
    MetFree l (⟨"com/example/isolyne/isolyne/LockWords", "isOfTableKind", "(J)Z"⟩ : MethodName) (head1 (Jvm.Cond.code (⟨"com/example/isolyne/isolyne/LockWords", "isOfTableKind", "(J)Z"⟩ : MethodName) prog_33_method_5_code 2 (some .boolean) :: ws) ({ frames := 0, cells := 0, slots := 0, locals := 0 } : Room)) (fun a U => a = #[(.long q1)] ∧ Z.Warmed39 U.vm ∧ U.heap = h0) (fun _ _ _ _ _ => True) (fun _ U o U' => ∃ v L, o = .returned v ∧ Q2_f Z q1 h0 n0 v U'.heap L ∧ FrameEnd U o U' L ({ frames := 0, cells := 0, slots := 0, locals := 0 } : Room).cells ({ frames := 0, cells := 0, slots := 0, locals := 0 } : Room).slots) := by
  refine MetFree.of_bodySF (plainFor_of_name pn_2) hisR ?_
  intro p e s m args below meth c s₁ Bd hml0 hP hK
  obtain ⟨rfl, hZ, hh⟩ := hP
  have hx := Bd.exec
  have hby := Bd.bytes
  have hml : c.maxLocals = 2 := hml0
  have hown : s.vm.findClass "com/example/isolyne/isolyne/LockWords" = some m.cls := findClass_of_methodNamed Bd.named
  have hnm := (name_of_methodNamed Bd.named Bd.method).1
  have X0 : Stand p l e ({ frames := 0, cells := 0, slots := 0, locals := 0 } : Room) s m #[(.long q1)] below meth c s₁ [] 0 0 := Stand.of_body Bd
  have e0 : s₁.heap = h0 := by rw [← hh, Bd.state]; rfl
  have N0 := Fr.nil n0
  have pre0 : ∀ t, Steps p.tables e below (s₁.setTop (mkF m 0 #[.val (.long q1), .second] [])) t → Steps p.tables e below (s₁.setTop (entryFrame m #[(.long q1)] 2)) t := fun t k => castTop (ef_2 m q1) k

  obtain ⟨fs, hr, hrun, hended, hW, hsame⟩ := X0.leave (v := some (.int (1 : Int32))) (fun h => by rw [Bd.returns] at h; cases h)
  refine ⟨_, _, pre0 _ ?_, hrun, hended, _, _, rfl, ?_, ⟨_, rfl⟩, hW, hsame.mono (by decide) (by decide)⟩
  · show Steps p.tables e below (s₁.setTop (mkF m 0 #[.val (.long q1), .second] [])) _
    refine XS.lloadN X0.here hx rfl (hb hby d2_0) rfl ?_
    show Steps p.tables e below (s₁.setTop (mkF m 1 #[.val (.long q1), .second] [(.long q1)])) _
    refine X0.ldc2Long hx hown (mvT hZ (hw _ (List.mem_of_getElem? (i := 6) rfl))) (g := (mkF m 1 #[.val (.long q1), .second] [(.long q1)])) rfl (hb hby d2_1) _ ?_
    show Steps p.tables e below (s₁.setTop (mkF m 4 #[.val (.long q1), .second] [(.long (4194304 : Int64)), (.long q1)])) _
    refine XS.land X0.here hx rfl (hb hby d2_4) rfl ?_
    show Steps p.tables e below (s₁.setTop (mkF m 5 #[.val (.long q1), .second] [(.long (q1 &&& (4194304 : Int64)))])) _
    refine XS.lconst X0.here hx rfl (hb hby d2_5) ?_
    show Steps p.tables e below (s₁.setTop (mkF m 6 #[.val (.long q1), .second] [(.long (0 : Int64)), (.long (q1 &&& (4194304 : Int64)))])) _
    refine XS.lcmp X0.here hx rfl (hb hby d2_6) rfl ?_
    show Steps p.tables e below (s₁.setTop (mkF m 7 #[.val (.long q1), .second] [(.int (lcmpW (q1 &&& (4194304 : Int64)) (0 : Int64)))])) _
    refine XS.ifNo X0.here hx rfl (hb hby d2_7) rfl ((if0 _ _).trans (feq hc7).1) ?_
    show Steps p.tables e below (s₁.setTop (mkF m 10 #[.val (.long q1), .second] [])) _
    refine XS.iconst X0.here hx rfl (hb hby d2_10) ?_
    show Steps p.tables e below (s₁.setTop (mkF m 11 #[.val (.long q1), .second] [(.int (1 : Int32))])) _
    refine XS.goto X0.here hx rfl (pc0 := 11) (pc' := 15) rfl (hb hby d2_11) (by decide) (by decide) ?_
    show Steps p.tables e below (s₁.setTop (mkF m 15 #[.val (.long q1), .second] [(.int (1 : Int32))])) _
    exact retN X0 hx (t := .boolean) Bd.returns (by simp) (hb hby d2_15) hr
  · show Q2_f Z q1 h0 n0 _ s₁.heap _
    rw [e0]
    exact ⟨rfl, N0, rfl⟩
theorem d3_0 : decode prog_33_method_4_code 0 = .ok (.lload_n 0, 1) := by decide +kernel
theorem d3_1 : decode prog_33_method_4_code 1 = .ok (.ldc2_w 33, 3) := by decide +kernel
theorem d3_4 : decode prog_33_method_4_code 4 = .ok (.land, 1) := by decide +kernel
theorem d3_5 : decode prog_33_method_4_code 5 = .ok (.lconst 0, 1) := by decide +kernel
theorem d3_6 : decode prog_33_method_4_code 6 = .ok (.lcmp, 1) := by decide +kernel
theorem d3_7 : decode prog_33_method_4_code 7 = .ok (.ifCond .eq 7, 3) := by decide +kernel
theorem d3_14 : decode prog_33_method_4_code 14 = .ok (.iconst 0, 1) := by decide +kernel
theorem d3_15 : decode prog_33_method_4_code 15 = .ok (.ireturn, 1) := by decide +kernel
theorem pn_3 : plainName "com/example/isolyne/isolyne/LockWords" = true := by first | (simp [plainName, overriddenIn]; done) | decide +kernel
theorem ef_3 (m : MethodId) (x0 : Int64) : entryFrame m #[(.long x0)] 2 = mkF m 0 #[.val (.long x0), .second] [] := by first | (simp [entryFrame, mkF, argsToLocals, Value.category]; done) | rfl
def Q3_t (Z : State) (q1 : Int64) (h0 : Heap) (n0 : Nat) (v : Option Value) (h : Heap) (L : List Loc) : Prop := v = some (.int (0 : Int32)) ∧ Fr n0 L ∧ h = h0
set_option maxRecDepth 65536 in
set_option maxHeartbeats 40000000 in
theorem rm3_t (l : Launch) (Z : State) (a0 : Array Value) (hw : ∀ d ∈ tables_1, d.before a0 Z = true) (ws : List Jvm.Cond) (q1 : Int64) (h0 : Heap) (n0 : Nat) (Z0 : n0 ≤ h0.size) (hc7 : (lcmpW (q1 &&& (8388608 : Int64)) (0 : Int64)) = (0 : Int32)) :
    MetFree l (⟨"com/example/isolyne/isolyne/LockWords", "namesJoin", "(J)Z"⟩ : MethodName) (head1 (Jvm.Cond.code (⟨"com/example/isolyne/isolyne/LockWords", "namesJoin", "(J)Z"⟩ : MethodName) prog_33_method_4_code 2 (some .boolean) :: ws) ({ frames := 0, cells := 0, slots := 0, locals := 0 } : Room)) (fun a U => a = #[(.long q1)] ∧ Z.Warmed39 U.vm ∧ U.heap = h0) (fun _ _ _ _ _ => True) (fun _ U o U' => ∃ v L, o = .returned v ∧ Q3_t Z q1 h0 n0 v U'.heap L ∧ FrameEnd U o U' L ({ frames := 0, cells := 0, slots := 0, locals := 0 } : Room).cells ({ frames := 0, cells := 0, slots := 0, locals := 0 } : Room).slots) := by
  refine MetFree.of_bodySF (plainFor_of_name pn_3) hisR ?_
  intro p e s m args below meth c s₁ Bd hml0 hP hK
  obtain ⟨rfl, hZ, hh⟩ := hP
  have hx := Bd.exec
  have hby := Bd.bytes
  have hml : c.maxLocals = 2 := hml0
  have hown : s.vm.findClass "com/example/isolyne/isolyne/LockWords" = some m.cls := findClass_of_methodNamed Bd.named
  have hnm := (name_of_methodNamed Bd.named Bd.method).1
  have X0 : Stand p l e ({ frames := 0, cells := 0, slots := 0, locals := 0 } : Room) s m #[(.long q1)] below meth c s₁ [] 0 0 := Stand.of_body Bd
  have e0 : s₁.heap = h0 := by rw [← hh, Bd.state]; rfl
  have N0 := Fr.nil n0
  have pre0 : ∀ t, Steps p.tables e below (s₁.setTop (mkF m 0 #[.val (.long q1), .second] [])) t → Steps p.tables e below (s₁.setTop (entryFrame m #[(.long q1)] 2)) t := fun t k => castTop (ef_3 m q1) k

  obtain ⟨fs, hr, hrun, hended, hW, hsame⟩ := X0.leave (v := some (.int (0 : Int32))) (fun h => by rw [Bd.returns] at h; cases h)
  refine ⟨_, _, pre0 _ ?_, hrun, hended, _, _, rfl, ?_, ⟨_, rfl⟩, hW, hsame.mono (by decide) (by decide)⟩
  · show Steps p.tables e below (s₁.setTop (mkF m 0 #[.val (.long q1), .second] [])) _
    refine XS.lloadN X0.here hx rfl (hb hby d3_0) rfl ?_
    show Steps p.tables e below (s₁.setTop (mkF m 1 #[.val (.long q1), .second] [(.long q1)])) _
    refine X0.ldc2Long hx hown (mvT hZ (hw _ (List.mem_of_getElem? (i := 13) rfl))) (g := (mkF m 1 #[.val (.long q1), .second] [(.long q1)])) rfl (hb hby d3_1) _ ?_
    show Steps p.tables e below (s₁.setTop (mkF m 4 #[.val (.long q1), .second] [(.long (8388608 : Int64)), (.long q1)])) _
    refine XS.land X0.here hx rfl (hb hby d3_4) rfl ?_
    show Steps p.tables e below (s₁.setTop (mkF m 5 #[.val (.long q1), .second] [(.long (q1 &&& (8388608 : Int64)))])) _
    refine XS.lconst X0.here hx rfl (hb hby d3_5) ?_
    show Steps p.tables e below (s₁.setTop (mkF m 6 #[.val (.long q1), .second] [(.long (0 : Int64)), (.long (q1 &&& (8388608 : Int64)))])) _
    refine XS.lcmp X0.here hx rfl (hb hby d3_6) rfl ?_
    show Steps p.tables e below (s₁.setTop (mkF m 7 #[.val (.long q1), .second] [(.int (lcmpW (q1 &&& (8388608 : Int64)) (0 : Int64)))])) _
    refine XS.ifYes X0.here hx rfl (pc0 := 7) (pc' := 14) rfl (hb hby d3_7) rfl ((if0 _ _).trans (teq hc7).1) (by decide) (by decide) ?_
    show Steps p.tables e below (s₁.setTop (mkF m 14 #[.val (.long q1), .second] [])) _
    refine XS.iconst X0.here hx rfl (hb hby d3_14) ?_
    show Steps p.tables e below (s₁.setTop (mkF m 15 #[.val (.long q1), .second] [(.int (0 : Int32))])) _
    exact retN X0 hx (t := .boolean) Bd.returns (by simp) (hb hby d3_15) hr
  · show Q3_t Z q1 h0 n0 _ s₁.heap _
    rw [e0]
    exact ⟨rfl, N0, rfl⟩
theorem d3_10 : decode prog_33_method_4_code 10 = .ok (.iconst 1, 1) := by decide +kernel
theorem d3_11 : decode prog_33_method_4_code 11 = .ok (.goto 4, 3) := by decide +kernel
def Q3_f (Z : State) (q1 : Int64) (h0 : Heap) (n0 : Nat) (v : Option Value) (h : Heap) (L : List Loc) : Prop := v = some (.int (1 : Int32)) ∧ Fr n0 L ∧ h = h0
set_option maxRecDepth 65536 in
set_option maxHeartbeats 40000000 in
theorem rm3_f (l : Launch) (Z : State) (a0 : Array Value) (hw : ∀ d ∈ tables_1, d.before a0 Z = true) (ws : List Jvm.Cond) (q1 : Int64) (h0 : Heap) (n0 : Nat) (Z0 : n0 ≤ h0.size) (hc7 : ¬ ((lcmpW (q1 &&& (8388608 : Int64)) (0 : Int64)) = (0 : Int32))) :
    MetFree l (⟨"com/example/isolyne/isolyne/LockWords", "namesJoin", "(J)Z"⟩ : MethodName) (head1 (Jvm.Cond.code (⟨"com/example/isolyne/isolyne/LockWords", "namesJoin", "(J)Z"⟩ : MethodName) prog_33_method_4_code 2 (some .boolean) :: ws) ({ frames := 0, cells := 0, slots := 0, locals := 0 } : Room)) (fun a U => a = #[(.long q1)] ∧ Z.Warmed39 U.vm ∧ U.heap = h0) (fun _ _ _ _ _ => True) (fun _ U o U' => ∃ v L, o = .returned v ∧ Q3_f Z q1 h0 n0 v U'.heap L ∧ FrameEnd U o U' L ({ frames := 0, cells := 0, slots := 0, locals := 0 } : Room).cells ({ frames := 0, cells := 0, slots := 0, locals := 0 } : Room).slots) := by
  refine MetFree.of_bodySF (plainFor_of_name pn_3) hisR ?_
  intro p e s m args below meth c s₁ Bd hml0 hP hK
  obtain ⟨rfl, hZ, hh⟩ := hP
  have hx := Bd.exec
  have hby := Bd.bytes
  have hml : c.maxLocals = 2 := hml0
  have hown : s.vm.findClass "com/example/isolyne/isolyne/LockWords" = some m.cls := findClass_of_methodNamed Bd.named
  have hnm := (name_of_methodNamed Bd.named Bd.method).1
  have X0 : Stand p l e ({ frames := 0, cells := 0, slots := 0, locals := 0 } : Room) s m #[(.long q1)] below meth c s₁ [] 0 0 := Stand.of_body Bd
  have e0 : s₁.heap = h0 := by rw [← hh, Bd.state]; rfl
  have N0 := Fr.nil n0
  have pre0 : ∀ t, Steps p.tables e below (s₁.setTop (mkF m 0 #[.val (.long q1), .second] [])) t → Steps p.tables e below (s₁.setTop (entryFrame m #[(.long q1)] 2)) t := fun t k => castTop (ef_3 m q1) k

  obtain ⟨fs, hr, hrun, hended, hW, hsame⟩ := X0.leave (v := some (.int (1 : Int32))) (fun h => by rw [Bd.returns] at h; cases h)
  refine ⟨_, _, pre0 _ ?_, hrun, hended, _, _, rfl, ?_, ⟨_, rfl⟩, hW, hsame.mono (by decide) (by decide)⟩
  · show Steps p.tables e below (s₁.setTop (mkF m 0 #[.val (.long q1), .second] [])) _
    refine XS.lloadN X0.here hx rfl (hb hby d3_0) rfl ?_
    show Steps p.tables e below (s₁.setTop (mkF m 1 #[.val (.long q1), .second] [(.long q1)])) _
    refine X0.ldc2Long hx hown (mvT hZ (hw _ (List.mem_of_getElem? (i := 13) rfl))) (g := (mkF m 1 #[.val (.long q1), .second] [(.long q1)])) rfl (hb hby d3_1) _ ?_
    show Steps p.tables e below (s₁.setTop (mkF m 4 #[.val (.long q1), .second] [(.long (8388608 : Int64)), (.long q1)])) _
    refine XS.land X0.here hx rfl (hb hby d3_4) rfl ?_
    show Steps p.tables e below (s₁.setTop (mkF m 5 #[.val (.long q1), .second] [(.long (q1 &&& (8388608 : Int64)))])) _
    refine XS.lconst X0.here hx rfl (hb hby d3_5) ?_
    show Steps p.tables e below (s₁.setTop (mkF m 6 #[.val (.long q1), .second] [(.long (0 : Int64)), (.long (q1 &&& (8388608 : Int64)))])) _
    refine XS.lcmp X0.here hx rfl (hb hby d3_6) rfl ?_
    show Steps p.tables e below (s₁.setTop (mkF m 7 #[.val (.long q1), .second] [(.int (lcmpW (q1 &&& (8388608 : Int64)) (0 : Int64)))])) _
    refine XS.ifNo X0.here hx rfl (hb hby d3_7) rfl ((if0 _ _).trans (feq hc7).1) ?_
    show Steps p.tables e below (s₁.setTop (mkF m 10 #[.val (.long q1), .second] [])) _
    refine XS.iconst X0.here hx rfl (hb hby d3_10) ?_
    show Steps p.tables e below (s₁.setTop (mkF m 11 #[.val (.long q1), .second] [(.int (1 : Int32))])) _
    refine XS.goto X0.here hx rfl (pc0 := 11) (pc' := 15) rfl (hb hby d3_11) (by decide) (by decide) ?_
    show Steps p.tables e below (s₁.setTop (mkF m 15 #[.val (.long q1), .second] [(.int (1 : Int32))])) _
    exact retN X0 hx (t := .boolean) Bd.returns (by simp) (hb hby d3_15) hr
  · show Q3_f Z q1 h0 n0 _ s₁.heap _
    rw [e0]
    exact ⟨rfl, N0, rfl⟩
theorem pn_0 : plainName "com/example/isolyne/isolyne/LockWordsNamesTableStatePinLaw" = true := by first | (simp [plainName, overriddenIn]; done) | decide +kernel
theorem pd_0_0 : parseMethodDescriptor "(J)Z" = some ⟨[.long], some .boolean⟩ := by decide +kernel
theorem ef_0 (m : MethodId) (x0 : Int64) (x1 : Int32) : entryFrame m #[(.long x0), (.int x1)] maxLocals = mkF m 0 #[.val (.long x0), .second, .val (.int x1), .unset, .unset, .unset, .unset, .unset, .unset, .unset] [] := by first | (simp [entryFrame, mkF, argsToLocals, Value.category, maxLocals]; done) | rfl
def Q0_a (Z : State) (q1 : Int64) (p2 : Int32) (h0 : Heap) (n0 : Nat) (v : Option Value) (h : Heap) (L : List Loc) : Prop := v = some (.int (1 : Int32)) ∧ Fr n0 L
set_option maxRecDepth 65536 in
set_option maxHeartbeats 40000000 in
theorem rm0_a (l : Launch) (Z : State) (a0 : Array Value) (hw : ∀ d ∈ tables_1, d.before a0 Z = true) (ws : List Jvm.Cond) (q1 : Int64) (p2 : Int32) (h0 : Heap) (n0 : Nat) (Z0 : n0 ≤ h0.size) (ha : ¬ ((lcmpW (((q1 &&& (-12582913 : Int64)) ||| (((p2 &&& (3 : Int32)).toInt64) <<< ((22 : Int32) &&& 0x3f).toInt64)) &&& (12582912 : Int64)) (4194304 : Int64)) = (0 : Int32))) (hb1 : (lcmpW (((q1 &&& (-12582913 : Int64)) ||| (((p2 &&& (3 : Int32)).toInt64) <<< ((22 : Int32) &&& 0x3f).toInt64)) &&& (4194304 : Int64)) (0 : Int64)) = (0 : Int32)) (hc20 : ¬ ((lcmpW ((p2 &&& (3 : Int32)).toInt64) (1 : Int64)) = (0 : Int32))) :
    MetFree l x (head1 (Jvm.Cond.code x code maxLocals ret :: ws) room_1) (fun a U => a = #[(.long q1), (.int p2)] ∧ Z.Warmed39 U.vm ∧ U.heap = h0) (fun _ _ _ _ _ => True) (fun _ U o U' => ∃ v L, o = .returned v ∧ Q0_a Z q1 p2 h0 n0 v U'.heap L ∧ FrameEnd U o U' L room_1.cells room_1.slots) := by
  refine MetFree.of_bodySF (plainFor_of_name pn_0) hisR ?_
  intro p e s m args below meth c s₁ Bd hml0 hP hK
  obtain ⟨rfl, hZ, hh⟩ := hP
  have hx := Bd.exec
  have hby := Bd.bytes
  have hml : c.maxLocals = 10 := hml0
  have hown : s.vm.findClass "com/example/isolyne/isolyne/LockWordsNamesTableStatePinLaw" = some m.cls := findClass_of_methodNamed Bd.named
  have hnm := (name_of_methodNamed Bd.named Bd.method).1
  have X0 : Stand p l e room_1 s m #[(.long q1), (.int p2)] below meth c s₁ [] 0 0 := Stand.of_body Bd
  have e0 : s₁.heap = h0 := by rw [← hh, Bd.state]; rfl
  have N0 := Fr.nil n0
  have pre0 : ∀ t, Steps p.tables e below (s₁.setTop (mkF m 0 #[.val (.long q1), .second, .val (.int p2), .unset, .unset, .unset, .unset, .unset, .unset, .unset] [])) t → Steps p.tables e below (s₁.setTop (entryFrame m #[(.long q1), (.int p2)] maxLocals)) t := fun t k => castTop (ef_0 m q1 p2) k
  obtain ⟨_, _, ⟨T3, L3, k3, n3⟩, -, X3, ⟨Lc3, hQ3, l3, y3, z3⟩, st3⟩ := Jvm.LawKit.callS X0 hx (y := (⟨"com/example/isolyne/isolyne/LockWords", "namesTableState", "(J)Z"⟩ : MethodName)) hown (mvT hZ (hw _ (List.mem_of_getElem? (i := 1) rfl))) (mvT hZ (hw _ (List.mem_of_getElem? (i := 2) rfl))) (mvT hZ (hw _ (List.mem_of_getElem? (i := 3) rfl))) (mvT hZ (hw _ (List.mem_of_getElem? (i := 4) rfl))) (by decide) (backOf (W := 0) (rm1_t l Z a0 hw [] ((q1 &&& (-12582913 : Int64)) ||| (((p2 &&& (3 : Int32)).toInt64) <<< ((22 : Int32) &&& 0x3f).toInt64)) h0 n0 Z0 ha) hZ (hw _ (List.mem_of_getElem? (i := 4) rfl)) (hw _ (List.mem_of_getElem? (i := 3) rfl)) (by decide) (by decide)) (g := (mkF m 32 #[.val (.long q1), .second, .val (.int p2), .val (.long ((p2 &&& (3 : Int32)).toInt64)), .second, .val (.long ((q1 &&& (-12582913 : Int64)) ||| (((p2 &&& (3 : Int32)).toInt64) <<< ((22 : Int32) &&& 0x3f).toInt64))), .second, .val (.int (0 : Int32)), .unset, .unset] [(.long ((q1 &&& (-12582913 : Int64)) ||| (((p2 &&& (3 : Int32)).toInt64) <<< ((22 : Int32) &&& 0x3f).toInt64)))])) rfl (by rw [hml]; rfl) (argsL := [(.long ((q1 &&& (-12582913 : Int64)) ||| (((p2 &&& (3 : Int32)).toInt64) <<< ((22 : Int32) &&& 0x3f).toInt64)))]) (rest := []) (lenOf pd_0_0 rfl) rfl (by show 2 * 0 + _ ≤ _; exact Nat.le_of_eq rfl) (hb hby at_32) (fun _ _ => ⟨rfl, e0, (by decide : 0 + 0 ≤ _), (by decide : 0 + 0 ≤ _)⟩)
  dsimp only [Pt.U, Pt.locs, Pt.cells, Pt.slots] at X3 l3 y3 z3 st3 hQ3
  subst l3 y3 z3
  obtain ⟨rfl, N3q, e3⟩ := hQ3
  have N3 := Fr.app N0 N3q
  obtain ⟨_, _, ⟨T4, L4, k4, n4⟩, -, X4, ⟨Lc4, hQ4, l4, y4, z4⟩, st4⟩ := Jvm.LawKit.callS X3 hx (y := (⟨"com/example/isolyne/isolyne/LockWords", "isOfTableKind", "(J)Z"⟩ : MethodName)) hown (mvT hZ (hw _ (List.mem_of_getElem? (i := 7) rfl))) (mvT hZ (hw _ (List.mem_of_getElem? (i := 8) rfl))) (mvT hZ (hw _ (List.mem_of_getElem? (i := 3) rfl))) (mvT hZ (hw _ (List.mem_of_getElem? (i := 9) rfl))) (by decide) (backOf (W := 0) (rm2_t l Z a0 hw [] ((q1 &&& (-12582913 : Int64)) ||| (((p2 &&& (3 : Int32)).toInt64) <<< ((22 : Int32) &&& 0x3f).toInt64)) h0 n0 Z0 hb1) hZ (hw _ (List.mem_of_getElem? (i := 9) rfl)) (hw _ (List.mem_of_getElem? (i := 3) rfl)) (by decide) (by decide)) (g := (mkF m 39 #[.val (.long q1), .second, .val (.int p2), .val (.long ((p2 &&& (3 : Int32)).toInt64)), .second, .val (.long ((q1 &&& (-12582913 : Int64)) ||| (((p2 &&& (3 : Int32)).toInt64) <<< ((22 : Int32) &&& 0x3f).toInt64))), .second, .val (.int (0 : Int32)), .val (.int (0 : Int32)), .unset] [(.long ((q1 &&& (-12582913 : Int64)) ||| (((p2 &&& (3 : Int32)).toInt64) <<< ((22 : Int32) &&& 0x3f).toInt64)))])) rfl (by rw [hml]; rfl) (argsL := [(.long ((q1 &&& (-12582913 : Int64)) ||| (((p2 &&& (3 : Int32)).toInt64) <<< ((22 : Int32) &&& 0x3f).toInt64)))]) (rest := []) (lenOf pd_0_0 rfl) rfl (by show 2 * 0 + _ ≤ _; exact Nat.le_of_eq rfl) (hb hby at_39) (fun _ _ => ⟨rfl, e3, (by decide : 0 + 0 ≤ _), (by decide : 0 + 0 ≤ _)⟩)
  dsimp only [Pt.U, Pt.locs, Pt.cells, Pt.slots] at X4 l4 y4 z4 st4 hQ4
  subst l4 y4 z4
  obtain ⟨rfl, N4q, e4⟩ := hQ4
  have N4 := Fr.app N3 N4q
  obtain ⟨fs, hr, hrun, hended, hW, hsame⟩ := X4.leave (v := some (.int (1 : Int32))) (fun h => by rw [Bd.returns] at h; cases h)
  refine ⟨_, _, pre0 _ ?_, hrun, hended, _, _, rfl, ?_, ⟨_, rfl⟩, hW, hsame.mono (by decide) (by decide)⟩
  · show Steps p.tables e below (s₁.setTop (mkF m 0 #[.val (.long q1), .second, .val (.int p2), .unset, .unset, .unset, .unset, .unset, .unset, .unset] [])) _
    refine XS.iloadN X0.here hx rfl (hb hby at_0) rfl ?_
    show Steps p.tables e below (s₁.setTop (mkF m 1 #[.val (.long q1), .second, .val (.int p2), .unset, .unset, .unset, .unset, .unset, .unset, .unset] [(.int p2)])) _
    refine XS.iconst X0.here hx rfl (hb hby at_1) ?_
    show Steps p.tables e below (s₁.setTop (mkF m 2 #[.val (.long q1), .second, .val (.int p2), .unset, .unset, .unset, .unset, .unset, .unset, .unset] [(.int (3 : Int32)), (.int p2)])) _
    refine XS.iand X0.here hx rfl (hb hby at_2) rfl ?_
    show Steps p.tables e below (s₁.setTop (mkF m 3 #[.val (.long q1), .second, .val (.int p2), .unset, .unset, .unset, .unset, .unset, .unset, .unset] [(.int (p2 &&& (3 : Int32)))])) _
    refine XS.i2l X0.here hx rfl (hb hby at_3) rfl ?_
    show Steps p.tables e below (s₁.setTop (mkF m 4 #[.val (.long q1), .second, .val (.int p2), .unset, .unset, .unset, .unset, .unset, .unset, .unset] [(.long ((p2 &&& (3 : Int32)).toInt64))])) _
    refine XS.lstoreN X0.here hx rfl (hb hby at_4) rfl (l' := #[.val (.long q1), .second, .val (.int p2), .val (.long ((p2 &&& (3 : Int32)).toInt64)), .second, .unset, .unset, .unset, .unset, .unset]) rfl ?_
    show Steps p.tables e below (s₁.setTop (mkF m 5 #[.val (.long q1), .second, .val (.int p2), .val (.long ((p2 &&& (3 : Int32)).toInt64)), .second, .unset, .unset, .unset, .unset, .unset] [])) _
    refine XS.lloadN X0.here hx rfl (hb hby at_5) rfl ?_
    show Steps p.tables e below (s₁.setTop (mkF m 6 #[.val (.long q1), .second, .val (.int p2), .val (.long ((p2 &&& (3 : Int32)).toInt64)), .second, .unset, .unset, .unset, .unset, .unset] [(.long q1)])) _
    refine X0.ldc2Long hx hown (mvT hZ (hw _ (List.mem_of_getElem? (i := 0) rfl))) (g := (mkF m 6 #[.val (.long q1), .second, .val (.int p2), .val (.long ((p2 &&& (3 : Int32)).toInt64)), .second, .unset, .unset, .unset, .unset, .unset] [(.long q1)])) rfl (hb hby at_6) _ ?_
    show Steps p.tables e below (s₁.setTop (mkF m 9 #[.val (.long q1), .second, .val (.int p2), .val (.long ((p2 &&& (3 : Int32)).toInt64)), .second, .unset, .unset, .unset, .unset, .unset] [(.long (-12582913 : Int64)), (.long q1)])) _
    refine XS.land X0.here hx rfl (hb hby at_9) rfl ?_
    show Steps p.tables e below (s₁.setTop (mkF m 10 #[.val (.long q1), .second, .val (.int p2), .val (.long ((p2 &&& (3 : Int32)).toInt64)), .second, .unset, .unset, .unset, .unset, .unset] [(.long (q1 &&& (-12582913 : Int64)))])) _
    refine XS.lloadN X0.here hx rfl (hb hby at_10) rfl ?_
    show Steps p.tables e below (s₁.setTop (mkF m 11 #[.val (.long q1), .second, .val (.int p2), .val (.long ((p2 &&& (3 : Int32)).toInt64)), .second, .unset, .unset, .unset, .unset, .unset] [(.long ((p2 &&& (3 : Int32)).toInt64)), (.long (q1 &&& (-12582913 : Int64)))])) _
    refine XS.bipush X0.here hx rfl (hb hby at_11) ?_
    show Steps p.tables e below (s₁.setTop (mkF m 13 #[.val (.long q1), .second, .val (.int p2), .val (.long ((p2 &&& (3 : Int32)).toInt64)), .second, .unset, .unset, .unset, .unset, .unset] [(.int (22 : Int32)), (.long ((p2 &&& (3 : Int32)).toInt64)), (.long (q1 &&& (-12582913 : Int64)))])) _
    refine XS.lshl X0.here hx rfl (hb hby at_13) rfl ?_
    show Steps p.tables e below (s₁.setTop (mkF m 14 #[.val (.long q1), .second, .val (.int p2), .val (.long ((p2 &&& (3 : Int32)).toInt64)), .second, .unset, .unset, .unset, .unset, .unset] [(.long (((p2 &&& (3 : Int32)).toInt64) <<< ((22 : Int32) &&& 0x3f).toInt64)), (.long (q1 &&& (-12582913 : Int64)))])) _
    refine XS.lor X0.here hx rfl (hb hby at_14) rfl ?_
    show Steps p.tables e below (s₁.setTop (mkF m 15 #[.val (.long q1), .second, .val (.int p2), .val (.long ((p2 &&& (3 : Int32)).toInt64)), .second, .unset, .unset, .unset, .unset, .unset] [(.long ((q1 &&& (-12582913 : Int64)) ||| (((p2 &&& (3 : Int32)).toInt64) <<< ((22 : Int32) &&& 0x3f).toInt64)))])) _
    refine XS.lstore X0.here hx rfl (hb hby at_15) rfl (l' := #[.val (.long q1), .second, .val (.int p2), .val (.long ((p2 &&& (3 : Int32)).toInt64)), .second, .val (.long ((q1 &&& (-12582913 : Int64)) ||| (((p2 &&& (3 : Int32)).toInt64) <<< ((22 : Int32) &&& 0x3f).toInt64))), .second, .unset, .unset, .unset]) rfl ?_
    show Steps p.tables e below (s₁.setTop (mkF m 17 #[.val (.long q1), .second, .val (.int p2), .val (.long ((p2 &&& (3 : Int32)).toInt64)), .second, .val (.long ((q1 &&& (-12582913 : Int64)) ||| (((p2 &&& (3 : Int32)).toInt64) <<< ((22 : Int32) &&& 0x3f).toInt64))), .second, .unset, .unset, .unset] [])) _
    refine XS.lloadN X0.here hx rfl (hb hby at_17) rfl ?_
    show Steps p.tables e below (s₁.setTop (mkF m 18 #[.val (.long q1), .second, .val (.int p2), .val (.long ((p2 &&& (3 : Int32)).toInt64)), .second, .val (.long ((q1 &&& (-12582913 : Int64)) ||| (((p2 &&& (3 : Int32)).toInt64) <<< ((22 : Int32) &&& 0x3f).toInt64))), .second, .unset, .unset, .unset] [(.long ((p2 &&& (3 : Int32)).toInt64))])) _
    refine XS.lconst X0.here hx rfl (hb hby at_18) ?_
    show Steps p.tables e below (s₁.setTop (mkF m 19 #[.val (.long q1), .second, .val (.int p2), .val (.long ((p2 &&& (3 : Int32)).toInt64)), .second, .val (.long ((q1 &&& (-12582913 : Int64)) ||| (((p2 &&& (3 : Int32)).toInt64) <<< ((22 : Int32) &&& 0x3f).toInt64))), .second, .unset, .unset, .unset] [(.long (1 : Int64)), (.long ((p2 &&& (3 : Int32)).toInt64))])) _
    refine XS.lcmp X0.here hx rfl (hb hby at_19) rfl ?_
    show Steps p.tables e below (s₁.setTop (mkF m 20 #[.val (.long q1), .second, .val (.int p2), .val (.long ((p2 &&& (3 : Int32)).toInt64)), .second, .val (.long ((q1 &&& (-12582913 : Int64)) ||| (((p2 &&& (3 : Int32)).toInt64) <<< ((22 : Int32) &&& 0x3f).toInt64))), .second, .unset, .unset, .unset] [(.int (lcmpW ((p2 &&& (3 : Int32)).toInt64) (1 : Int64)))])) _
    refine XS.ifYes X0.here hx rfl (pc0 := 20) (pc' := 27) rfl (hb hby at_20) rfl ((if0 _ _).trans (feq hc20).2) (by decide) (by decide) ?_
    show Steps p.tables e below (s₁.setTop (mkF m 27 #[.val (.long q1), .second, .val (.int p2), .val (.long ((p2 &&& (3 : Int32)).toInt64)), .second, .val (.long ((q1 &&& (-12582913 : Int64)) ||| (((p2 &&& (3 : Int32)).toInt64) <<< ((22 : Int32) &&& 0x3f).toInt64))), .second, .unset, .unset, .unset] [])) _
    refine XS.iconst X0.here hx rfl (hb hby at_27) ?_
    show Steps p.tables e below (s₁.setTop (mkF m 28 #[.val (.long q1), .second, .val (.int p2), .val (.long ((p2 &&& (3 : Int32)).toInt64)), .second, .val (.long ((q1 &&& (-12582913 : Int64)) ||| (((p2 &&& (3 : Int32)).toInt64) <<< ((22 : Int32) &&& 0x3f).toInt64))), .second, .unset, .unset, .unset] [(.int (0 : Int32))])) _
    refine XS.istore X0.here hx rfl (hb hby at_28) rfl (l' := #[.val (.long q1), .second, .val (.int p2), .val (.long ((p2 &&& (3 : Int32)).toInt64)), .second, .val (.long ((q1 &&& (-12582913 : Int64)) ||| (((p2 &&& (3 : Int32)).toInt64) <<< ((22 : Int32) &&& 0x3f).toInt64))), .second, .val (.int (0 : Int32)), .unset, .unset]) rfl ?_
    show Steps p.tables e below (s₁.setTop (mkF m 30 #[.val (.long q1), .second, .val (.int p2), .val (.long ((p2 &&& (3 : Int32)).toInt64)), .second, .val (.long ((q1 &&& (-12582913 : Int64)) ||| (((p2 &&& (3 : Int32)).toInt64) <<< ((22 : Int32) &&& 0x3f).toInt64))), .second, .val (.int (0 : Int32)), .unset, .unset] [])) _
    refine XS.lload X0.here hx rfl (hb hby at_30) rfl ?_
    show Steps p.tables e below (s₁.setTop (mkF m 32 #[.val (.long q1), .second, .val (.int p2), .val (.long ((p2 &&& (3 : Int32)).toInt64)), .second, .val (.long ((q1 &&& (-12582913 : Int64)) ||| (((p2 &&& (3 : Int32)).toInt64) <<< ((22 : Int32) &&& 0x3f).toInt64))), .second, .val (.int (0 : Int32)), .unset, .unset] [(.long ((q1 &&& (-12582913 : Int64)) ||| (((p2 &&& (3 : Int32)).toInt64) <<< ((22 : Int32) &&& 0x3f).toInt64)))])) _
    refine st3 _ ?_
    show Steps p.tables e below (T3.setTop (mkF m 35 #[.val (.long q1), .second, .val (.int p2), .val (.long ((p2 &&& (3 : Int32)).toInt64)), .second, .val (.long ((q1 &&& (-12582913 : Int64)) ||| (((p2 &&& (3 : Int32)).toInt64) <<< ((22 : Int32) &&& 0x3f).toInt64))), .second, .val (.int (0 : Int32)), .unset, .unset] [(.int (0 : Int32))])) _
    refine XS.istore X3.here hx rfl (hb hby at_35) rfl (l' := #[.val (.long q1), .second, .val (.int p2), .val (.long ((p2 &&& (3 : Int32)).toInt64)), .second, .val (.long ((q1 &&& (-12582913 : Int64)) ||| (((p2 &&& (3 : Int32)).toInt64) <<< ((22 : Int32) &&& 0x3f).toInt64))), .second, .val (.int (0 : Int32)), .val (.int (0 : Int32)), .unset]) rfl ?_
    show Steps p.tables e below (T3.setTop (mkF m 37 #[.val (.long q1), .second, .val (.int p2), .val (.long ((p2 &&& (3 : Int32)).toInt64)), .second, .val (.long ((q1 &&& (-12582913 : Int64)) ||| (((p2 &&& (3 : Int32)).toInt64) <<< ((22 : Int32) &&& 0x3f).toInt64))), .second, .val (.int (0 : Int32)), .val (.int (0 : Int32)), .unset] [])) _
    refine XS.lload X3.here hx rfl (hb hby at_37) rfl ?_
    show Steps p.tables e below (T3.setTop (mkF m 39 #[.val (.long q1), .second, .val (.int p2), .val (.long ((p2 &&& (3 : Int32)).toInt64)), .second, .val (.long ((q1 &&& (-12582913 : Int64)) ||| (((p2 &&& (3 : Int32)).toInt64) <<< ((22 : Int32) &&& 0x3f).toInt64))), .second, .val (.int (0 : Int32)), .val (.int (0 : Int32)), .unset] [(.long ((q1 &&& (-12582913 : Int64)) ||| (((p2 &&& (3 : Int32)).toInt64) <<< ((22 : Int32) &&& 0x3f).toInt64)))])) _
    refine st4 _ ?_
    show Steps p.tables e below (T4.setTop (mkF m 42 #[.val (.long q1), .second, .val (.int p2), .val (.long ((p2 &&& (3 : Int32)).toInt64)), .second, .val (.long ((q1 &&& (-12582913 : Int64)) ||| (((p2 &&& (3 : Int32)).toInt64) <<< ((22 : Int32) &&& 0x3f).toInt64))), .second, .val (.int (0 : Int32)), .val (.int (0 : Int32)), .unset] [(.int (0 : Int32))])) _
    refine XS.ifYes X4.here hx rfl (pc0 := 42) (pc' := 57) rfl (hb hby at_42) rfl ((if0 _ _).trans (teq (rfl : (0 : Int32) = (0 : Int32))).1) (by decide) (by decide) ?_
    show Steps p.tables e below (T4.setTop (mkF m 57 #[.val (.long q1), .second, .val (.int p2), .val (.long ((p2 &&& (3 : Int32)).toInt64)), .second, .val (.long ((q1 &&& (-12582913 : Int64)) ||| (((p2 &&& (3 : Int32)).toInt64) <<< ((22 : Int32) &&& 0x3f).toInt64))), .second, .val (.int (0 : Int32)), .val (.int (0 : Int32)), .unset] [])) _
    refine XS.iconst X4.here hx rfl (hb hby at_57) ?_
    show Steps p.tables e below (T4.setTop (mkF m 58 #[.val (.long q1), .second, .val (.int p2), .val (.long ((p2 &&& (3 : Int32)).toInt64)), .second, .val (.long ((q1 &&& (-12582913 : Int64)) ||| (((p2 &&& (3 : Int32)).toInt64) <<< ((22 : Int32) &&& 0x3f).toInt64))), .second, .val (.int (0 : Int32)), .val (.int (0 : Int32)), .unset] [(.int (0 : Int32))])) _
    refine XS.istore X4.here hx rfl (hb hby at_58) rfl (l' := #[.val (.long q1), .second, .val (.int p2), .val (.long ((p2 &&& (3 : Int32)).toInt64)), .second, .val (.long ((q1 &&& (-12582913 : Int64)) ||| (((p2 &&& (3 : Int32)).toInt64) <<< ((22 : Int32) &&& 0x3f).toInt64))), .second, .val (.int (0 : Int32)), .val (.int (0 : Int32)), .val (.int (0 : Int32))]) rfl ?_
    show Steps p.tables e below (T4.setTop (mkF m 60 #[.val (.long q1), .second, .val (.int p2), .val (.long ((p2 &&& (3 : Int32)).toInt64)), .second, .val (.long ((q1 &&& (-12582913 : Int64)) ||| (((p2 &&& (3 : Int32)).toInt64) <<< ((22 : Int32) &&& 0x3f).toInt64))), .second, .val (.int (0 : Int32)), .val (.int (0 : Int32)), .val (.int (0 : Int32))] [])) _
    refine XS.iload X4.here hx rfl (hb hby at_60) rfl ?_
    show Steps p.tables e below (T4.setTop (mkF m 62 #[.val (.long q1), .second, .val (.int p2), .val (.long ((p2 &&& (3 : Int32)).toInt64)), .second, .val (.long ((q1 &&& (-12582913 : Int64)) ||| (((p2 &&& (3 : Int32)).toInt64) <<< ((22 : Int32) &&& 0x3f).toInt64))), .second, .val (.int (0 : Int32)), .val (.int (0 : Int32)), .val (.int (0 : Int32))] [(.int (0 : Int32))])) _
    refine XS.iload X4.here hx rfl (hb hby at_62) rfl ?_
    show Steps p.tables e below (T4.setTop (mkF m 64 #[.val (.long q1), .second, .val (.int p2), .val (.long ((p2 &&& (3 : Int32)).toInt64)), .second, .val (.long ((q1 &&& (-12582913 : Int64)) ||| (((p2 &&& (3 : Int32)).toInt64) <<< ((22 : Int32) &&& 0x3f).toInt64))), .second, .val (.int (0 : Int32)), .val (.int (0 : Int32)), .val (.int (0 : Int32))] [(.int (0 : Int32)), (.int (0 : Int32))])) _
    refine XS.icmpNo X4.here hx rfl (hb hby at_64) rfl (teq (rfl : (0 : Int32) = (0 : Int32))).2 ?_
    show Steps p.tables e below (T4.setTop (mkF m 67 #[.val (.long q1), .second, .val (.int p2), .val (.long ((p2 &&& (3 : Int32)).toInt64)), .second, .val (.long ((q1 &&& (-12582913 : Int64)) ||| (((p2 &&& (3 : Int32)).toInt64) <<< ((22 : Int32) &&& 0x3f).toInt64))), .second, .val (.int (0 : Int32)), .val (.int (0 : Int32)), .val (.int (0 : Int32))] [])) _
    refine XS.iload X4.here hx rfl (hb hby at_67) rfl ?_
    show Steps p.tables e below (T4.setTop (mkF m 69 #[.val (.long q1), .second, .val (.int p2), .val (.long ((p2 &&& (3 : Int32)).toInt64)), .second, .val (.long ((q1 &&& (-12582913 : Int64)) ||| (((p2 &&& (3 : Int32)).toInt64) <<< ((22 : Int32) &&& 0x3f).toInt64))), .second, .val (.int (0 : Int32)), .val (.int (0 : Int32)), .val (.int (0 : Int32))] [(.int (0 : Int32))])) _
    refine XS.iload X4.here hx rfl (hb hby at_69) rfl ?_
    show Steps p.tables e below (T4.setTop (mkF m 71 #[.val (.long q1), .second, .val (.int p2), .val (.long ((p2 &&& (3 : Int32)).toInt64)), .second, .val (.long ((q1 &&& (-12582913 : Int64)) ||| (((p2 &&& (3 : Int32)).toInt64) <<< ((22 : Int32) &&& 0x3f).toInt64))), .second, .val (.int (0 : Int32)), .val (.int (0 : Int32)), .val (.int (0 : Int32))] [(.int (0 : Int32)), (.int (0 : Int32))])) _
    refine XS.icmpNo X4.here hx rfl (hb hby at_71) rfl (teq (rfl : (0 : Int32) = (0 : Int32))).2 ?_
    show Steps p.tables e below (T4.setTop (mkF m 74 #[.val (.long q1), .second, .val (.int p2), .val (.long ((p2 &&& (3 : Int32)).toInt64)), .second, .val (.long ((q1 &&& (-12582913 : Int64)) ||| (((p2 &&& (3 : Int32)).toInt64) <<< ((22 : Int32) &&& 0x3f).toInt64))), .second, .val (.int (0 : Int32)), .val (.int (0 : Int32)), .val (.int (0 : Int32))] [])) _
    refine XS.iconst X4.here hx rfl (hb hby at_74) ?_
    show Steps p.tables e below (T4.setTop (mkF m 75 #[.val (.long q1), .second, .val (.int p2), .val (.long ((p2 &&& (3 : Int32)).toInt64)), .second, .val (.long ((q1 &&& (-12582913 : Int64)) ||| (((p2 &&& (3 : Int32)).toInt64) <<< ((22 : Int32) &&& 0x3f).toInt64))), .second, .val (.int (0 : Int32)), .val (.int (0 : Int32)), .val (.int (0 : Int32))] [(.int (1 : Int32))])) _
    refine XS.goto X4.here hx rfl (pc0 := 75) (pc' := 79) rfl (hb hby at_75) (by decide) (by decide) ?_
    show Steps p.tables e below (T4.setTop (mkF m 79 #[.val (.long q1), .second, .val (.int p2), .val (.long ((p2 &&& (3 : Int32)).toInt64)), .second, .val (.long ((q1 &&& (-12582913 : Int64)) ||| (((p2 &&& (3 : Int32)).toInt64) <<< ((22 : Int32) &&& 0x3f).toInt64))), .second, .val (.int (0 : Int32)), .val (.int (0 : Int32)), .val (.int (0 : Int32))] [(.int (1 : Int32))])) _
    exact retN X4 hx (t := .boolean) Bd.returns (by simp) (hb hby at_79) hr
  · show Q0_a Z q1 p2 h0 n0 _ T4.heap _
    rw [e4]
    exact ⟨rfl, N4⟩

def Q0_b (Z : State) (q1 : Int64) (p2 : Int32) (h0 : Heap) (n0 : Nat) (v : Option Value) (h : Heap) (L : List Loc) : Prop := v = some (.int (1 : Int32)) ∧ Fr n0 L
set_option maxRecDepth 65536 in
set_option maxHeartbeats 40000000 in
theorem rm0_b (l : Launch) (Z : State) (a0 : Array Value) (hw : ∀ d ∈ tables_1, d.before a0 Z = true) (ws : List Jvm.Cond) (q1 : Int64) (p2 : Int32) (h0 : Heap) (n0 : Nat) (Z0 : n0 ≤ h0.size) (ha : (lcmpW (((q1 &&& (-12582913 : Int64)) ||| (((p2 &&& (3 : Int32)).toInt64) <<< ((22 : Int32) &&& 0x3f).toInt64)) &&& (12582912 : Int64)) (4194304 : Int64)) = (0 : Int32)) (hb1 : ¬ ((lcmpW (((q1 &&& (-12582913 : Int64)) ||| (((p2 &&& (3 : Int32)).toInt64) <<< ((22 : Int32) &&& 0x3f).toInt64)) &&& (4194304 : Int64)) (0 : Int64)) = (0 : Int32))) (hc1 : (lcmpW (((q1 &&& (-12582913 : Int64)) ||| (((p2 &&& (3 : Int32)).toInt64) <<< ((22 : Int32) &&& 0x3f).toInt64)) &&& (8388608 : Int64)) (0 : Int64)) = (0 : Int32)) (hc20 : (lcmpW ((p2 &&& (3 : Int32)).toInt64) (1 : Int64)) = (0 : Int32)) (hc42 : ¬ ((1 : Int32) = (0 : Int32))) :
    MetFree l x (head1 (Jvm.Cond.code x code maxLocals ret :: ws) room_1) (fun a U => a = #[(.long q1), (.int p2)] ∧ Z.Warmed39 U.vm ∧ U.heap = h0) (fun _ _ _ _ _ => True) (fun _ U o U' => ∃ v L, o = .returned v ∧ Q0_b Z q1 p2 h0 n0 v U'.heap L ∧ FrameEnd U o U' L room_1.cells room_1.slots) := by
  refine MetFree.of_bodySF (plainFor_of_name pn_0) hisR ?_
  intro p e s m args below meth c s₁ Bd hml0 hP hK
  obtain ⟨rfl, hZ, hh⟩ := hP
  have hx := Bd.exec
  have hby := Bd.bytes
  have hml : c.maxLocals = 10 := hml0
  have hown : s.vm.findClass "com/example/isolyne/isolyne/LockWordsNamesTableStatePinLaw" = some m.cls := findClass_of_methodNamed Bd.named
  have hnm := (name_of_methodNamed Bd.named Bd.method).1
  have X0 : Stand p l e room_1 s m #[(.long q1), (.int p2)] below meth c s₁ [] 0 0 := Stand.of_body Bd
  have e0 : s₁.heap = h0 := by rw [← hh, Bd.state]; rfl
  have N0 := Fr.nil n0
  have pre0 : ∀ t, Steps p.tables e below (s₁.setTop (mkF m 0 #[.val (.long q1), .second, .val (.int p2), .unset, .unset, .unset, .unset, .unset, .unset, .unset] [])) t → Steps p.tables e below (s₁.setTop (entryFrame m #[(.long q1), (.int p2)] maxLocals)) t := fun t k => castTop (ef_0 m q1 p2) k
  obtain ⟨_, _, ⟨T3, L3, k3, n3⟩, -, X3, ⟨Lc3, hQ3, l3, y3, z3⟩, st3⟩ := Jvm.LawKit.callS X0 hx (y := (⟨"com/example/isolyne/isolyne/LockWords", "namesTableState", "(J)Z"⟩ : MethodName)) hown (mvT hZ (hw _ (List.mem_of_getElem? (i := 1) rfl))) (mvT hZ (hw _ (List.mem_of_getElem? (i := 2) rfl))) (mvT hZ (hw _ (List.mem_of_getElem? (i := 3) rfl))) (mvT hZ (hw _ (List.mem_of_getElem? (i := 4) rfl))) (by decide) (backOf (W := 0) (rm1_f l Z a0 hw [] ((q1 &&& (-12582913 : Int64)) ||| (((p2 &&& (3 : Int32)).toInt64) <<< ((22 : Int32) &&& 0x3f).toInt64)) h0 n0 Z0 ha) hZ (hw _ (List.mem_of_getElem? (i := 4) rfl)) (hw _ (List.mem_of_getElem? (i := 3) rfl)) (by decide) (by decide)) (g := (mkF m 32 #[.val (.long q1), .second, .val (.int p2), .val (.long ((p2 &&& (3 : Int32)).toInt64)), .second, .val (.long ((q1 &&& (-12582913 : Int64)) ||| (((p2 &&& (3 : Int32)).toInt64) <<< ((22 : Int32) &&& 0x3f).toInt64))), .second, .val (.int (1 : Int32)), .unset, .unset] [(.long ((q1 &&& (-12582913 : Int64)) ||| (((p2 &&& (3 : Int32)).toInt64) <<< ((22 : Int32) &&& 0x3f).toInt64)))])) rfl (by rw [hml]; rfl) (argsL := [(.long ((q1 &&& (-12582913 : Int64)) ||| (((p2 &&& (3 : Int32)).toInt64) <<< ((22 : Int32) &&& 0x3f).toInt64)))]) (rest := []) (lenOf pd_0_0 rfl) rfl (by show 2 * 0 + _ ≤ _; exact Nat.le_of_eq rfl) (hb hby at_32) (fun _ _ => ⟨rfl, e0, (by decide : 0 + 0 ≤ _), (by decide : 0 + 0 ≤ _)⟩)
  dsimp only [Pt.U, Pt.locs, Pt.cells, Pt.slots] at X3 l3 y3 z3 st3 hQ3
  subst l3 y3 z3
  obtain ⟨rfl, N3q, e3⟩ := hQ3
  have N3 := Fr.app N0 N3q
  obtain ⟨_, _, ⟨T4, L4, k4, n4⟩, -, X4, ⟨Lc4, hQ4, l4, y4, z4⟩, st4⟩ := Jvm.LawKit.callS X3 hx (y := (⟨"com/example/isolyne/isolyne/LockWords", "isOfTableKind", "(J)Z"⟩ : MethodName)) hown (mvT hZ (hw _ (List.mem_of_getElem? (i := 7) rfl))) (mvT hZ (hw _ (List.mem_of_getElem? (i := 8) rfl))) (mvT hZ (hw _ (List.mem_of_getElem? (i := 3) rfl))) (mvT hZ (hw _ (List.mem_of_getElem? (i := 9) rfl))) (by decide) (backOf (W := 0) (rm2_f l Z a0 hw [] ((q1 &&& (-12582913 : Int64)) ||| (((p2 &&& (3 : Int32)).toInt64) <<< ((22 : Int32) &&& 0x3f).toInt64)) h0 n0 Z0 hb1) hZ (hw _ (List.mem_of_getElem? (i := 9) rfl)) (hw _ (List.mem_of_getElem? (i := 3) rfl)) (by decide) (by decide)) (g := (mkF m 39 #[.val (.long q1), .second, .val (.int p2), .val (.long ((p2 &&& (3 : Int32)).toInt64)), .second, .val (.long ((q1 &&& (-12582913 : Int64)) ||| (((p2 &&& (3 : Int32)).toInt64) <<< ((22 : Int32) &&& 0x3f).toInt64))), .second, .val (.int (1 : Int32)), .val (.int (1 : Int32)), .unset] [(.long ((q1 &&& (-12582913 : Int64)) ||| (((p2 &&& (3 : Int32)).toInt64) <<< ((22 : Int32) &&& 0x3f).toInt64)))])) rfl (by rw [hml]; rfl) (argsL := [(.long ((q1 &&& (-12582913 : Int64)) ||| (((p2 &&& (3 : Int32)).toInt64) <<< ((22 : Int32) &&& 0x3f).toInt64)))]) (rest := []) (lenOf pd_0_0 rfl) rfl (by show 2 * 0 + _ ≤ _; exact Nat.le_of_eq rfl) (hb hby at_39) (fun _ _ => ⟨rfl, e3, (by decide : 0 + 0 ≤ _), (by decide : 0 + 0 ≤ _)⟩)
  dsimp only [Pt.U, Pt.locs, Pt.cells, Pt.slots] at X4 l4 y4 z4 st4 hQ4
  subst l4 y4 z4
  obtain ⟨rfl, N4q, e4⟩ := hQ4
  have N4 := Fr.app N3 N4q
  obtain ⟨_, _, ⟨T5, L5, k5, n5⟩, -, X5, ⟨Lc5, hQ5, l5, y5, z5⟩, st5⟩ := Jvm.LawKit.callS X4 hx (y := (⟨"com/example/isolyne/isolyne/LockWords", "namesJoin", "(J)Z"⟩ : MethodName)) hown (mvT hZ (hw _ (List.mem_of_getElem? (i := 10) rfl))) (mvT hZ (hw _ (List.mem_of_getElem? (i := 11) rfl))) (mvT hZ (hw _ (List.mem_of_getElem? (i := 3) rfl))) (mvT hZ (hw _ (List.mem_of_getElem? (i := 12) rfl))) (by decide) (backOf (W := 0) (rm3_t l Z a0 hw [] ((q1 &&& (-12582913 : Int64)) ||| (((p2 &&& (3 : Int32)).toInt64) <<< ((22 : Int32) &&& 0x3f).toInt64)) h0 n0 Z0 hc1) hZ (hw _ (List.mem_of_getElem? (i := 12) rfl)) (hw _ (List.mem_of_getElem? (i := 3) rfl)) (by decide) (by decide)) (g := (mkF m 47 #[.val (.long q1), .second, .val (.int p2), .val (.long ((p2 &&& (3 : Int32)).toInt64)), .second, .val (.long ((q1 &&& (-12582913 : Int64)) ||| (((p2 &&& (3 : Int32)).toInt64) <<< ((22 : Int32) &&& 0x3f).toInt64))), .second, .val (.int (1 : Int32)), .val (.int (1 : Int32)), .unset] [(.long ((q1 &&& (-12582913 : Int64)) ||| (((p2 &&& (3 : Int32)).toInt64) <<< ((22 : Int32) &&& 0x3f).toInt64)))])) rfl (by rw [hml]; rfl) (argsL := [(.long ((q1 &&& (-12582913 : Int64)) ||| (((p2 &&& (3 : Int32)).toInt64) <<< ((22 : Int32) &&& 0x3f).toInt64)))]) (rest := []) (lenOf pd_0_0 rfl) rfl (by show 2 * 0 + _ ≤ _; exact Nat.le_of_eq rfl) (hb hby at_47) (fun _ _ => ⟨rfl, e4, (by decide : 0 + 0 ≤ _), (by decide : 0 + 0 ≤ _)⟩)
  dsimp only [Pt.U, Pt.locs, Pt.cells, Pt.slots] at X5 l5 y5 z5 st5 hQ5
  subst l5 y5 z5
  obtain ⟨rfl, N5q, e5⟩ := hQ5
  have N5 := Fr.app N4 N5q
  obtain ⟨fs, hr, hrun, hended, hW, hsame⟩ := X5.leave (v := some (.int (1 : Int32))) (fun h => by rw [Bd.returns] at h; cases h)
  refine ⟨_, _, pre0 _ ?_, hrun, hended, _, _, rfl, ?_, ⟨_, rfl⟩, hW, hsame.mono (by decide) (by decide)⟩
  · show Steps p.tables e below (s₁.setTop (mkF m 0 #[.val (.long q1), .second, .val (.int p2), .unset, .unset, .unset, .unset, .unset, .unset, .unset] [])) _
    refine XS.iloadN X0.here hx rfl (hb hby at_0) rfl ?_
    show Steps p.tables e below (s₁.setTop (mkF m 1 #[.val (.long q1), .second, .val (.int p2), .unset, .unset, .unset, .unset, .unset, .unset, .unset] [(.int p2)])) _
    refine XS.iconst X0.here hx rfl (hb hby at_1) ?_
    show Steps p.tables e below (s₁.setTop (mkF m 2 #[.val (.long q1), .second, .val (.int p2), .unset, .unset, .unset, .unset, .unset, .unset, .unset] [(.int (3 : Int32)), (.int p2)])) _
    refine XS.iand X0.here hx rfl (hb hby at_2) rfl ?_
    show Steps p.tables e below (s₁.setTop (mkF m 3 #[.val (.long q1), .second, .val (.int p2), .unset, .unset, .unset, .unset, .unset, .unset, .unset] [(.int (p2 &&& (3 : Int32)))])) _
    refine XS.i2l X0.here hx rfl (hb hby at_3) rfl ?_
    show Steps p.tables e below (s₁.setTop (mkF m 4 #[.val (.long q1), .second, .val (.int p2), .unset, .unset, .unset, .unset, .unset, .unset, .unset] [(.long ((p2 &&& (3 : Int32)).toInt64))])) _
    refine XS.lstoreN X0.here hx rfl (hb hby at_4) rfl (l' := #[.val (.long q1), .second, .val (.int p2), .val (.long ((p2 &&& (3 : Int32)).toInt64)), .second, .unset, .unset, .unset, .unset, .unset]) rfl ?_
    show Steps p.tables e below (s₁.setTop (mkF m 5 #[.val (.long q1), .second, .val (.int p2), .val (.long ((p2 &&& (3 : Int32)).toInt64)), .second, .unset, .unset, .unset, .unset, .unset] [])) _
    refine XS.lloadN X0.here hx rfl (hb hby at_5) rfl ?_
    show Steps p.tables e below (s₁.setTop (mkF m 6 #[.val (.long q1), .second, .val (.int p2), .val (.long ((p2 &&& (3 : Int32)).toInt64)), .second, .unset, .unset, .unset, .unset, .unset] [(.long q1)])) _
    refine X0.ldc2Long hx hown (mvT hZ (hw _ (List.mem_of_getElem? (i := 0) rfl))) (g := (mkF m 6 #[.val (.long q1), .second, .val (.int p2), .val (.long ((p2 &&& (3 : Int32)).toInt64)), .second, .unset, .unset, .unset, .unset, .unset] [(.long q1)])) rfl (hb hby at_6) _ ?_
    show Steps p.tables e below (s₁.setTop (mkF m 9 #[.val (.long q1), .second, .val (.int p2), .val (.long ((p2 &&& (3 : Int32)).toInt64)), .second, .unset, .unset, .unset, .unset, .unset] [(.long (-12582913 : Int64)), (.long q1)])) _
    refine XS.land X0.here hx rfl (hb hby at_9) rfl ?_
    show Steps p.tables e below (s₁.setTop (mkF m 10 #[.val (.long q1), .second, .val (.int p2), .val (.long ((p2 &&& (3 : Int32)).toInt64)), .second, .unset, .unset, .unset, .unset, .unset] [(.long (q1 &&& (-12582913 : Int64)))])) _
    refine XS.lloadN X0.here hx rfl (hb hby at_10) rfl ?_
    show Steps p.tables e below (s₁.setTop (mkF m 11 #[.val (.long q1), .second, .val (.int p2), .val (.long ((p2 &&& (3 : Int32)).toInt64)), .second, .unset, .unset, .unset, .unset, .unset] [(.long ((p2 &&& (3 : Int32)).toInt64)), (.long (q1 &&& (-12582913 : Int64)))])) _
    refine XS.bipush X0.here hx rfl (hb hby at_11) ?_
    show Steps p.tables e below (s₁.setTop (mkF m 13 #[.val (.long q1), .second, .val (.int p2), .val (.long ((p2 &&& (3 : Int32)).toInt64)), .second, .unset, .unset, .unset, .unset, .unset] [(.int (22 : Int32)), (.long ((p2 &&& (3 : Int32)).toInt64)), (.long (q1 &&& (-12582913 : Int64)))])) _
    refine XS.lshl X0.here hx rfl (hb hby at_13) rfl ?_
    show Steps p.tables e below (s₁.setTop (mkF m 14 #[.val (.long q1), .second, .val (.int p2), .val (.long ((p2 &&& (3 : Int32)).toInt64)), .second, .unset, .unset, .unset, .unset, .unset] [(.long (((p2 &&& (3 : Int32)).toInt64) <<< ((22 : Int32) &&& 0x3f).toInt64)), (.long (q1 &&& (-12582913 : Int64)))])) _
    refine XS.lor X0.here hx rfl (hb hby at_14) rfl ?_
    show Steps p.tables e below (s₁.setTop (mkF m 15 #[.val (.long q1), .second, .val (.int p2), .val (.long ((p2 &&& (3 : Int32)).toInt64)), .second, .unset, .unset, .unset, .unset, .unset] [(.long ((q1 &&& (-12582913 : Int64)) ||| (((p2 &&& (3 : Int32)).toInt64) <<< ((22 : Int32) &&& 0x3f).toInt64)))])) _
    refine XS.lstore X0.here hx rfl (hb hby at_15) rfl (l' := #[.val (.long q1), .second, .val (.int p2), .val (.long ((p2 &&& (3 : Int32)).toInt64)), .second, .val (.long ((q1 &&& (-12582913 : Int64)) ||| (((p2 &&& (3 : Int32)).toInt64) <<< ((22 : Int32) &&& 0x3f).toInt64))), .second, .unset, .unset, .unset]) rfl ?_
    show Steps p.tables e below (s₁.setTop (mkF m 17 #[.val (.long q1), .second, .val (.int p2), .val (.long ((p2 &&& (3 : Int32)).toInt64)), .second, .val (.long ((q1 &&& (-12582913 : Int64)) ||| (((p2 &&& (3 : Int32)).toInt64) <<< ((22 : Int32) &&& 0x3f).toInt64))), .second, .unset, .unset, .unset] [])) _
    refine XS.lloadN X0.here hx rfl (hb hby at_17) rfl ?_
    show Steps p.tables e below (s₁.setTop (mkF m 18 #[.val (.long q1), .second, .val (.int p2), .val (.long ((p2 &&& (3 : Int32)).toInt64)), .second, .val (.long ((q1 &&& (-12582913 : Int64)) ||| (((p2 &&& (3 : Int32)).toInt64) <<< ((22 : Int32) &&& 0x3f).toInt64))), .second, .unset, .unset, .unset] [(.long ((p2 &&& (3 : Int32)).toInt64))])) _
    refine XS.lconst X0.here hx rfl (hb hby at_18) ?_
    show Steps p.tables e below (s₁.setTop (mkF m 19 #[.val (.long q1), .second, .val (.int p2), .val (.long ((p2 &&& (3 : Int32)).toInt64)), .second, .val (.long ((q1 &&& (-12582913 : Int64)) ||| (((p2 &&& (3 : Int32)).toInt64) <<< ((22 : Int32) &&& 0x3f).toInt64))), .second, .unset, .unset, .unset] [(.long (1 : Int64)), (.long ((p2 &&& (3 : Int32)).toInt64))])) _
    refine XS.lcmp X0.here hx rfl (hb hby at_19) rfl ?_
    show Steps p.tables e below (s₁.setTop (mkF m 20 #[.val (.long q1), .second, .val (.int p2), .val (.long ((p2 &&& (3 : Int32)).toInt64)), .second, .val (.long ((q1 &&& (-12582913 : Int64)) ||| (((p2 &&& (3 : Int32)).toInt64) <<< ((22 : Int32) &&& 0x3f).toInt64))), .second, .unset, .unset, .unset] [(.int (lcmpW ((p2 &&& (3 : Int32)).toInt64) (1 : Int64)))])) _
    refine XS.ifNo X0.here hx rfl (hb hby at_20) rfl ((if0 _ _).trans (teq hc20).2) ?_
    show Steps p.tables e below (s₁.setTop (mkF m 23 #[.val (.long q1), .second, .val (.int p2), .val (.long ((p2 &&& (3 : Int32)).toInt64)), .second, .val (.long ((q1 &&& (-12582913 : Int64)) ||| (((p2 &&& (3 : Int32)).toInt64) <<< ((22 : Int32) &&& 0x3f).toInt64))), .second, .unset, .unset, .unset] [])) _
    refine XS.iconst X0.here hx rfl (hb hby at_23) ?_
    show Steps p.tables e below (s₁.setTop (mkF m 24 #[.val (.long q1), .second, .val (.int p2), .val (.long ((p2 &&& (3 : Int32)).toInt64)), .second, .val (.long ((q1 &&& (-12582913 : Int64)) ||| (((p2 &&& (3 : Int32)).toInt64) <<< ((22 : Int32) &&& 0x3f).toInt64))), .second, .unset, .unset, .unset] [(.int (1 : Int32))])) _
    refine XS.goto X0.here hx rfl (pc0 := 24) (pc' := 28) rfl (hb hby at_24) (by decide) (by decide) ?_
    show Steps p.tables e below (s₁.setTop (mkF m 28 #[.val (.long q1), .second, .val (.int p2), .val (.long ((p2 &&& (3 : Int32)).toInt64)), .second, .val (.long ((q1 &&& (-12582913 : Int64)) ||| (((p2 &&& (3 : Int32)).toInt64) <<< ((22 : Int32) &&& 0x3f).toInt64))), .second, .unset, .unset, .unset] [(.int (1 : Int32))])) _
    refine XS.istore X0.here hx rfl (hb hby at_28) rfl (l' := #[.val (.long q1), .second, .val (.int p2), .val (.long ((p2 &&& (3 : Int32)).toInt64)), .second, .val (.long ((q1 &&& (-12582913 : Int64)) ||| (((p2 &&& (3 : Int32)).toInt64) <<< ((22 : Int32) &&& 0x3f).toInt64))), .second, .val (.int (1 : Int32)), .unset, .unset]) rfl ?_
    show Steps p.tables e below (s₁.setTop (mkF m 30 #[.val (.long q1), .second, .val (.int p2), .val (.long ((p2 &&& (3 : Int32)).toInt64)), .second, .val (.long ((q1 &&& (-12582913 : Int64)) ||| (((p2 &&& (3 : Int32)).toInt64) <<< ((22 : Int32) &&& 0x3f).toInt64))), .second, .val (.int (1 : Int32)), .unset, .unset] [])) _
    refine XS.lload X0.here hx rfl (hb hby at_30) rfl ?_
    show Steps p.tables e below (s₁.setTop (mkF m 32 #[.val (.long q1), .second, .val (.int p2), .val (.long ((p2 &&& (3 : Int32)).toInt64)), .second, .val (.long ((q1 &&& (-12582913 : Int64)) ||| (((p2 &&& (3 : Int32)).toInt64) <<< ((22 : Int32) &&& 0x3f).toInt64))), .second, .val (.int (1 : Int32)), .unset, .unset] [(.long ((q1 &&& (-12582913 : Int64)) ||| (((p2 &&& (3 : Int32)).toInt64) <<< ((22 : Int32) &&& 0x3f).toInt64)))])) _
    refine st3 _ ?_
    show Steps p.tables e below (T3.setTop (mkF m 35 #[.val (.long q1), .second, .val (.int p2), .val (.long ((p2 &&& (3 : Int32)).toInt64)), .second, .val (.long ((q1 &&& (-12582913 : Int64)) ||| (((p2 &&& (3 : Int32)).toInt64) <<< ((22 : Int32) &&& 0x3f).toInt64))), .second, .val (.int (1 : Int32)), .unset, .unset] [(.int (1 : Int32))])) _
    refine XS.istore X3.here hx rfl (hb hby at_35) rfl (l' := #[.val (.long q1), .second, .val (.int p2), .val (.long ((p2 &&& (3 : Int32)).toInt64)), .second, .val (.long ((q1 &&& (-12582913 : Int64)) ||| (((p2 &&& (3 : Int32)).toInt64) <<< ((22 : Int32) &&& 0x3f).toInt64))), .second, .val (.int (1 : Int32)), .val (.int (1 : Int32)), .unset]) rfl ?_
    show Steps p.tables e below (T3.setTop (mkF m 37 #[.val (.long q1), .second, .val (.int p2), .val (.long ((p2 &&& (3 : Int32)).toInt64)), .second, .val (.long ((q1 &&& (-12582913 : Int64)) ||| (((p2 &&& (3 : Int32)).toInt64) <<< ((22 : Int32) &&& 0x3f).toInt64))), .second, .val (.int (1 : Int32)), .val (.int (1 : Int32)), .unset] [])) _
    refine XS.lload X3.here hx rfl (hb hby at_37) rfl ?_
    show Steps p.tables e below (T3.setTop (mkF m 39 #[.val (.long q1), .second, .val (.int p2), .val (.long ((p2 &&& (3 : Int32)).toInt64)), .second, .val (.long ((q1 &&& (-12582913 : Int64)) ||| (((p2 &&& (3 : Int32)).toInt64) <<< ((22 : Int32) &&& 0x3f).toInt64))), .second, .val (.int (1 : Int32)), .val (.int (1 : Int32)), .unset] [(.long ((q1 &&& (-12582913 : Int64)) ||| (((p2 &&& (3 : Int32)).toInt64) <<< ((22 : Int32) &&& 0x3f).toInt64)))])) _
    refine st4 _ ?_
    show Steps p.tables e below (T4.setTop (mkF m 42 #[.val (.long q1), .second, .val (.int p2), .val (.long ((p2 &&& (3 : Int32)).toInt64)), .second, .val (.long ((q1 &&& (-12582913 : Int64)) ||| (((p2 &&& (3 : Int32)).toInt64) <<< ((22 : Int32) &&& 0x3f).toInt64))), .second, .val (.int (1 : Int32)), .val (.int (1 : Int32)), .unset] [(.int (1 : Int32))])) _
    refine XS.ifNo X4.here hx rfl (hb hby at_42) rfl ((if0 _ _).trans (feq hc42).1) ?_
    show Steps p.tables e below (T4.setTop (mkF m 45 #[.val (.long q1), .second, .val (.int p2), .val (.long ((p2 &&& (3 : Int32)).toInt64)), .second, .val (.long ((q1 &&& (-12582913 : Int64)) ||| (((p2 &&& (3 : Int32)).toInt64) <<< ((22 : Int32) &&& 0x3f).toInt64))), .second, .val (.int (1 : Int32)), .val (.int (1 : Int32)), .unset] [])) _
    refine XS.lload X4.here hx rfl (hb hby at_45) rfl ?_
    show Steps p.tables e below (T4.setTop (mkF m 47 #[.val (.long q1), .second, .val (.int p2), .val (.long ((p2 &&& (3 : Int32)).toInt64)), .second, .val (.long ((q1 &&& (-12582913 : Int64)) ||| (((p2 &&& (3 : Int32)).toInt64) <<< ((22 : Int32) &&& 0x3f).toInt64))), .second, .val (.int (1 : Int32)), .val (.int (1 : Int32)), .unset] [(.long ((q1 &&& (-12582913 : Int64)) ||| (((p2 &&& (3 : Int32)).toInt64) <<< ((22 : Int32) &&& 0x3f).toInt64)))])) _
    refine st5 _ ?_
    show Steps p.tables e below (T5.setTop (mkF m 50 #[.val (.long q1), .second, .val (.int p2), .val (.long ((p2 &&& (3 : Int32)).toInt64)), .second, .val (.long ((q1 &&& (-12582913 : Int64)) ||| (((p2 &&& (3 : Int32)).toInt64) <<< ((22 : Int32) &&& 0x3f).toInt64))), .second, .val (.int (1 : Int32)), .val (.int (1 : Int32)), .unset] [(.int (0 : Int32))])) _
    refine XS.ifNo X5.here hx rfl (hb hby at_50) rfl ((if0 _ _).trans (teq (rfl : (0 : Int32) = (0 : Int32))).2) ?_
    show Steps p.tables e below (T5.setTop (mkF m 53 #[.val (.long q1), .second, .val (.int p2), .val (.long ((p2 &&& (3 : Int32)).toInt64)), .second, .val (.long ((q1 &&& (-12582913 : Int64)) ||| (((p2 &&& (3 : Int32)).toInt64) <<< ((22 : Int32) &&& 0x3f).toInt64))), .second, .val (.int (1 : Int32)), .val (.int (1 : Int32)), .unset] [])) _
    refine XS.iconst X5.here hx rfl (hb hby at_53) ?_
    show Steps p.tables e below (T5.setTop (mkF m 54 #[.val (.long q1), .second, .val (.int p2), .val (.long ((p2 &&& (3 : Int32)).toInt64)), .second, .val (.long ((q1 &&& (-12582913 : Int64)) ||| (((p2 &&& (3 : Int32)).toInt64) <<< ((22 : Int32) &&& 0x3f).toInt64))), .second, .val (.int (1 : Int32)), .val (.int (1 : Int32)), .unset] [(.int (1 : Int32))])) _
    refine XS.goto X5.here hx rfl (pc0 := 54) (pc' := 58) rfl (hb hby at_54) (by decide) (by decide) ?_
    show Steps p.tables e below (T5.setTop (mkF m 58 #[.val (.long q1), .second, .val (.int p2), .val (.long ((p2 &&& (3 : Int32)).toInt64)), .second, .val (.long ((q1 &&& (-12582913 : Int64)) ||| (((p2 &&& (3 : Int32)).toInt64) <<< ((22 : Int32) &&& 0x3f).toInt64))), .second, .val (.int (1 : Int32)), .val (.int (1 : Int32)), .unset] [(.int (1 : Int32))])) _
    refine XS.istore X5.here hx rfl (hb hby at_58) rfl (l' := #[.val (.long q1), .second, .val (.int p2), .val (.long ((p2 &&& (3 : Int32)).toInt64)), .second, .val (.long ((q1 &&& (-12582913 : Int64)) ||| (((p2 &&& (3 : Int32)).toInt64) <<< ((22 : Int32) &&& 0x3f).toInt64))), .second, .val (.int (1 : Int32)), .val (.int (1 : Int32)), .val (.int (1 : Int32))]) rfl ?_
    show Steps p.tables e below (T5.setTop (mkF m 60 #[.val (.long q1), .second, .val (.int p2), .val (.long ((p2 &&& (3 : Int32)).toInt64)), .second, .val (.long ((q1 &&& (-12582913 : Int64)) ||| (((p2 &&& (3 : Int32)).toInt64) <<< ((22 : Int32) &&& 0x3f).toInt64))), .second, .val (.int (1 : Int32)), .val (.int (1 : Int32)), .val (.int (1 : Int32))] [])) _
    refine XS.iload X5.here hx rfl (hb hby at_60) rfl ?_
    show Steps p.tables e below (T5.setTop (mkF m 62 #[.val (.long q1), .second, .val (.int p2), .val (.long ((p2 &&& (3 : Int32)).toInt64)), .second, .val (.long ((q1 &&& (-12582913 : Int64)) ||| (((p2 &&& (3 : Int32)).toInt64) <<< ((22 : Int32) &&& 0x3f).toInt64))), .second, .val (.int (1 : Int32)), .val (.int (1 : Int32)), .val (.int (1 : Int32))] [(.int (1 : Int32))])) _
    refine XS.iload X5.here hx rfl (hb hby at_62) rfl ?_
    show Steps p.tables e below (T5.setTop (mkF m 64 #[.val (.long q1), .second, .val (.int p2), .val (.long ((p2 &&& (3 : Int32)).toInt64)), .second, .val (.long ((q1 &&& (-12582913 : Int64)) ||| (((p2 &&& (3 : Int32)).toInt64) <<< ((22 : Int32) &&& 0x3f).toInt64))), .second, .val (.int (1 : Int32)), .val (.int (1 : Int32)), .val (.int (1 : Int32))] [(.int (1 : Int32)), (.int (1 : Int32))])) _
    refine XS.icmpNo X5.here hx rfl (hb hby at_64) rfl (teq (rfl : (1 : Int32) = (1 : Int32))).2 ?_
    show Steps p.tables e below (T5.setTop (mkF m 67 #[.val (.long q1), .second, .val (.int p2), .val (.long ((p2 &&& (3 : Int32)).toInt64)), .second, .val (.long ((q1 &&& (-12582913 : Int64)) ||| (((p2 &&& (3 : Int32)).toInt64) <<< ((22 : Int32) &&& 0x3f).toInt64))), .second, .val (.int (1 : Int32)), .val (.int (1 : Int32)), .val (.int (1 : Int32))] [])) _
    refine XS.iload X5.here hx rfl (hb hby at_67) rfl ?_
    show Steps p.tables e below (T5.setTop (mkF m 69 #[.val (.long q1), .second, .val (.int p2), .val (.long ((p2 &&& (3 : Int32)).toInt64)), .second, .val (.long ((q1 &&& (-12582913 : Int64)) ||| (((p2 &&& (3 : Int32)).toInt64) <<< ((22 : Int32) &&& 0x3f).toInt64))), .second, .val (.int (1 : Int32)), .val (.int (1 : Int32)), .val (.int (1 : Int32))] [(.int (1 : Int32))])) _
    refine XS.iload X5.here hx rfl (hb hby at_69) rfl ?_
    show Steps p.tables e below (T5.setTop (mkF m 71 #[.val (.long q1), .second, .val (.int p2), .val (.long ((p2 &&& (3 : Int32)).toInt64)), .second, .val (.long ((q1 &&& (-12582913 : Int64)) ||| (((p2 &&& (3 : Int32)).toInt64) <<< ((22 : Int32) &&& 0x3f).toInt64))), .second, .val (.int (1 : Int32)), .val (.int (1 : Int32)), .val (.int (1 : Int32))] [(.int (1 : Int32)), (.int (1 : Int32))])) _
    refine XS.icmpNo X5.here hx rfl (hb hby at_71) rfl (teq (rfl : (1 : Int32) = (1 : Int32))).2 ?_
    show Steps p.tables e below (T5.setTop (mkF m 74 #[.val (.long q1), .second, .val (.int p2), .val (.long ((p2 &&& (3 : Int32)).toInt64)), .second, .val (.long ((q1 &&& (-12582913 : Int64)) ||| (((p2 &&& (3 : Int32)).toInt64) <<< ((22 : Int32) &&& 0x3f).toInt64))), .second, .val (.int (1 : Int32)), .val (.int (1 : Int32)), .val (.int (1 : Int32))] [])) _
    refine XS.iconst X5.here hx rfl (hb hby at_74) ?_
    show Steps p.tables e below (T5.setTop (mkF m 75 #[.val (.long q1), .second, .val (.int p2), .val (.long ((p2 &&& (3 : Int32)).toInt64)), .second, .val (.long ((q1 &&& (-12582913 : Int64)) ||| (((p2 &&& (3 : Int32)).toInt64) <<< ((22 : Int32) &&& 0x3f).toInt64))), .second, .val (.int (1 : Int32)), .val (.int (1 : Int32)), .val (.int (1 : Int32))] [(.int (1 : Int32))])) _
    refine XS.goto X5.here hx rfl (pc0 := 75) (pc' := 79) rfl (hb hby at_75) (by decide) (by decide) ?_
    show Steps p.tables e below (T5.setTop (mkF m 79 #[.val (.long q1), .second, .val (.int p2), .val (.long ((p2 &&& (3 : Int32)).toInt64)), .second, .val (.long ((q1 &&& (-12582913 : Int64)) ||| (((p2 &&& (3 : Int32)).toInt64) <<< ((22 : Int32) &&& 0x3f).toInt64))), .second, .val (.int (1 : Int32)), .val (.int (1 : Int32)), .val (.int (1 : Int32))] [(.int (1 : Int32))])) _
    exact retN X5 hx (t := .boolean) Bd.returns (by simp) (hb hby at_79) hr
  · show Q0_b Z q1 p2 h0 n0 _ T5.heap _
    rw [e5]
    exact ⟨rfl, N5⟩

def Q0_c (Z : State) (q1 : Int64) (p2 : Int32) (h0 : Heap) (n0 : Nat) (v : Option Value) (h : Heap) (L : List Loc) : Prop := v = some (.int (1 : Int32)) ∧ Fr n0 L
set_option maxRecDepth 65536 in
set_option maxHeartbeats 40000000 in
theorem rm0_c (l : Launch) (Z : State) (a0 : Array Value) (hw : ∀ d ∈ tables_1, d.before a0 Z = true) (ws : List Jvm.Cond) (q1 : Int64) (p2 : Int32) (h0 : Heap) (n0 : Nat) (Z0 : n0 ≤ h0.size) (ha : ¬ ((lcmpW (((q1 &&& (-12582913 : Int64)) ||| (((p2 &&& (3 : Int32)).toInt64) <<< ((22 : Int32) &&& 0x3f).toInt64)) &&& (12582912 : Int64)) (4194304 : Int64)) = (0 : Int32))) (hb1 : ¬ ((lcmpW (((q1 &&& (-12582913 : Int64)) ||| (((p2 &&& (3 : Int32)).toInt64) <<< ((22 : Int32) &&& 0x3f).toInt64)) &&& (4194304 : Int64)) (0 : Int64)) = (0 : Int32))) (hc1 : ¬ ((lcmpW (((q1 &&& (-12582913 : Int64)) ||| (((p2 &&& (3 : Int32)).toInt64) <<< ((22 : Int32) &&& 0x3f).toInt64)) &&& (8388608 : Int64)) (0 : Int64)) = (0 : Int32))) (hc20 : ¬ ((lcmpW ((p2 &&& (3 : Int32)).toInt64) (1 : Int64)) = (0 : Int32))) (hc42 : ¬ ((1 : Int32) = (0 : Int32))) (hc50 : ¬ ((1 : Int32) = (0 : Int32))) :
    MetFree l x (head1 (Jvm.Cond.code x code maxLocals ret :: ws) room_1) (fun a U => a = #[(.long q1), (.int p2)] ∧ Z.Warmed39 U.vm ∧ U.heap = h0) (fun _ _ _ _ _ => True) (fun _ U o U' => ∃ v L, o = .returned v ∧ Q0_c Z q1 p2 h0 n0 v U'.heap L ∧ FrameEnd U o U' L room_1.cells room_1.slots) := by
  refine MetFree.of_bodySF (plainFor_of_name pn_0) hisR ?_
  intro p e s m args below meth c s₁ Bd hml0 hP hK
  obtain ⟨rfl, hZ, hh⟩ := hP
  have hx := Bd.exec
  have hby := Bd.bytes
  have hml : c.maxLocals = 10 := hml0
  have hown : s.vm.findClass "com/example/isolyne/isolyne/LockWordsNamesTableStatePinLaw" = some m.cls := findClass_of_methodNamed Bd.named
  have hnm := (name_of_methodNamed Bd.named Bd.method).1
  have X0 : Stand p l e room_1 s m #[(.long q1), (.int p2)] below meth c s₁ [] 0 0 := Stand.of_body Bd
  have e0 : s₁.heap = h0 := by rw [← hh, Bd.state]; rfl
  have N0 := Fr.nil n0
  have pre0 : ∀ t, Steps p.tables e below (s₁.setTop (mkF m 0 #[.val (.long q1), .second, .val (.int p2), .unset, .unset, .unset, .unset, .unset, .unset, .unset] [])) t → Steps p.tables e below (s₁.setTop (entryFrame m #[(.long q1), (.int p2)] maxLocals)) t := fun t k => castTop (ef_0 m q1 p2) k
  obtain ⟨_, _, ⟨T3, L3, k3, n3⟩, -, X3, ⟨Lc3, hQ3, l3, y3, z3⟩, st3⟩ := Jvm.LawKit.callS X0 hx (y := (⟨"com/example/isolyne/isolyne/LockWords", "namesTableState", "(J)Z"⟩ : MethodName)) hown (mvT hZ (hw _ (List.mem_of_getElem? (i := 1) rfl))) (mvT hZ (hw _ (List.mem_of_getElem? (i := 2) rfl))) (mvT hZ (hw _ (List.mem_of_getElem? (i := 3) rfl))) (mvT hZ (hw _ (List.mem_of_getElem? (i := 4) rfl))) (by decide) (backOf (W := 0) (rm1_t l Z a0 hw [] ((q1 &&& (-12582913 : Int64)) ||| (((p2 &&& (3 : Int32)).toInt64) <<< ((22 : Int32) &&& 0x3f).toInt64)) h0 n0 Z0 ha) hZ (hw _ (List.mem_of_getElem? (i := 4) rfl)) (hw _ (List.mem_of_getElem? (i := 3) rfl)) (by decide) (by decide)) (g := (mkF m 32 #[.val (.long q1), .second, .val (.int p2), .val (.long ((p2 &&& (3 : Int32)).toInt64)), .second, .val (.long ((q1 &&& (-12582913 : Int64)) ||| (((p2 &&& (3 : Int32)).toInt64) <<< ((22 : Int32) &&& 0x3f).toInt64))), .second, .val (.int (0 : Int32)), .unset, .unset] [(.long ((q1 &&& (-12582913 : Int64)) ||| (((p2 &&& (3 : Int32)).toInt64) <<< ((22 : Int32) &&& 0x3f).toInt64)))])) rfl (by rw [hml]; rfl) (argsL := [(.long ((q1 &&& (-12582913 : Int64)) ||| (((p2 &&& (3 : Int32)).toInt64) <<< ((22 : Int32) &&& 0x3f).toInt64)))]) (rest := []) (lenOf pd_0_0 rfl) rfl (by show 2 * 0 + _ ≤ _; exact Nat.le_of_eq rfl) (hb hby at_32) (fun _ _ => ⟨rfl, e0, (by decide : 0 + 0 ≤ _), (by decide : 0 + 0 ≤ _)⟩)
  dsimp only [Pt.U, Pt.locs, Pt.cells, Pt.slots] at X3 l3 y3 z3 st3 hQ3
  subst l3 y3 z3
  obtain ⟨rfl, N3q, e3⟩ := hQ3
  have N3 := Fr.app N0 N3q
  obtain ⟨_, _, ⟨T4, L4, k4, n4⟩, -, X4, ⟨Lc4, hQ4, l4, y4, z4⟩, st4⟩ := Jvm.LawKit.callS X3 hx (y := (⟨"com/example/isolyne/isolyne/LockWords", "isOfTableKind", "(J)Z"⟩ : MethodName)) hown (mvT hZ (hw _ (List.mem_of_getElem? (i := 7) rfl))) (mvT hZ (hw _ (List.mem_of_getElem? (i := 8) rfl))) (mvT hZ (hw _ (List.mem_of_getElem? (i := 3) rfl))) (mvT hZ (hw _ (List.mem_of_getElem? (i := 9) rfl))) (by decide) (backOf (W := 0) (rm2_f l Z a0 hw [] ((q1 &&& (-12582913 : Int64)) ||| (((p2 &&& (3 : Int32)).toInt64) <<< ((22 : Int32) &&& 0x3f).toInt64)) h0 n0 Z0 hb1) hZ (hw _ (List.mem_of_getElem? (i := 9) rfl)) (hw _ (List.mem_of_getElem? (i := 3) rfl)) (by decide) (by decide)) (g := (mkF m 39 #[.val (.long q1), .second, .val (.int p2), .val (.long ((p2 &&& (3 : Int32)).toInt64)), .second, .val (.long ((q1 &&& (-12582913 : Int64)) ||| (((p2 &&& (3 : Int32)).toInt64) <<< ((22 : Int32) &&& 0x3f).toInt64))), .second, .val (.int (0 : Int32)), .val (.int (0 : Int32)), .unset] [(.long ((q1 &&& (-12582913 : Int64)) ||| (((p2 &&& (3 : Int32)).toInt64) <<< ((22 : Int32) &&& 0x3f).toInt64)))])) rfl (by rw [hml]; rfl) (argsL := [(.long ((q1 &&& (-12582913 : Int64)) ||| (((p2 &&& (3 : Int32)).toInt64) <<< ((22 : Int32) &&& 0x3f).toInt64)))]) (rest := []) (lenOf pd_0_0 rfl) rfl (by show 2 * 0 + _ ≤ _; exact Nat.le_of_eq rfl) (hb hby at_39) (fun _ _ => ⟨rfl, e3, (by decide : 0 + 0 ≤ _), (by decide : 0 + 0 ≤ _)⟩)
  dsimp only [Pt.U, Pt.locs, Pt.cells, Pt.slots] at X4 l4 y4 z4 st4 hQ4
  subst l4 y4 z4
  obtain ⟨rfl, N4q, e4⟩ := hQ4
  have N4 := Fr.app N3 N4q
  obtain ⟨_, _, ⟨T5, L5, k5, n5⟩, -, X5, ⟨Lc5, hQ5, l5, y5, z5⟩, st5⟩ := Jvm.LawKit.callS X4 hx (y := (⟨"com/example/isolyne/isolyne/LockWords", "namesJoin", "(J)Z"⟩ : MethodName)) hown (mvT hZ (hw _ (List.mem_of_getElem? (i := 10) rfl))) (mvT hZ (hw _ (List.mem_of_getElem? (i := 11) rfl))) (mvT hZ (hw _ (List.mem_of_getElem? (i := 3) rfl))) (mvT hZ (hw _ (List.mem_of_getElem? (i := 12) rfl))) (by decide) (backOf (W := 0) (rm3_f l Z a0 hw [] ((q1 &&& (-12582913 : Int64)) ||| (((p2 &&& (3 : Int32)).toInt64) <<< ((22 : Int32) &&& 0x3f).toInt64)) h0 n0 Z0 hc1) hZ (hw _ (List.mem_of_getElem? (i := 12) rfl)) (hw _ (List.mem_of_getElem? (i := 3) rfl)) (by decide) (by decide)) (g := (mkF m 47 #[.val (.long q1), .second, .val (.int p2), .val (.long ((p2 &&& (3 : Int32)).toInt64)), .second, .val (.long ((q1 &&& (-12582913 : Int64)) ||| (((p2 &&& (3 : Int32)).toInt64) <<< ((22 : Int32) &&& 0x3f).toInt64))), .second, .val (.int (0 : Int32)), .val (.int (0 : Int32)), .unset] [(.long ((q1 &&& (-12582913 : Int64)) ||| (((p2 &&& (3 : Int32)).toInt64) <<< ((22 : Int32) &&& 0x3f).toInt64)))])) rfl (by rw [hml]; rfl) (argsL := [(.long ((q1 &&& (-12582913 : Int64)) ||| (((p2 &&& (3 : Int32)).toInt64) <<< ((22 : Int32) &&& 0x3f).toInt64)))]) (rest := []) (lenOf pd_0_0 rfl) rfl (by show 2 * 0 + _ ≤ _; exact Nat.le_of_eq rfl) (hb hby at_47) (fun _ _ => ⟨rfl, e4, (by decide : 0 + 0 ≤ _), (by decide : 0 + 0 ≤ _)⟩)
  dsimp only [Pt.U, Pt.locs, Pt.cells, Pt.slots] at X5 l5 y5 z5 st5 hQ5
  subst l5 y5 z5
  obtain ⟨rfl, N5q, e5⟩ := hQ5
  have N5 := Fr.app N4 N5q
  obtain ⟨fs, hr, hrun, hended, hW, hsame⟩ := X5.leave (v := some (.int (1 : Int32))) (fun h => by rw [Bd.returns] at h; cases h)
  refine ⟨_, _, pre0 _ ?_, hrun, hended, _, _, rfl, ?_, ⟨_, rfl⟩, hW, hsame.mono (by decide) (by decide)⟩
  · show Steps p.tables e below (s₁.setTop (mkF m 0 #[.val (.long q1), .second, .val (.int p2), .unset, .unset, .unset, .unset, .unset, .unset, .unset] [])) _
    refine XS.iloadN X0.here hx rfl (hb hby at_0) rfl ?_
    show Steps p.tables e below (s₁.setTop (mkF m 1 #[.val (.long q1), .second, .val (.int p2), .unset, .unset, .unset, .unset, .unset, .unset, .unset] [(.int p2)])) _
    refine XS.iconst X0.here hx rfl (hb hby at_1) ?_
    show Steps p.tables e below (s₁.setTop (mkF m 2 #[.val (.long q1), .second, .val (.int p2), .unset, .unset, .unset, .unset, .unset, .unset, .unset] [(.int (3 : Int32)), (.int p2)])) _
    refine XS.iand X0.here hx rfl (hb hby at_2) rfl ?_
    show Steps p.tables e below (s₁.setTop (mkF m 3 #[.val (.long q1), .second, .val (.int p2), .unset, .unset, .unset, .unset, .unset, .unset, .unset] [(.int (p2 &&& (3 : Int32)))])) _
    refine XS.i2l X0.here hx rfl (hb hby at_3) rfl ?_
    show Steps p.tables e below (s₁.setTop (mkF m 4 #[.val (.long q1), .second, .val (.int p2), .unset, .unset, .unset, .unset, .unset, .unset, .unset] [(.long ((p2 &&& (3 : Int32)).toInt64))])) _
    refine XS.lstoreN X0.here hx rfl (hb hby at_4) rfl (l' := #[.val (.long q1), .second, .val (.int p2), .val (.long ((p2 &&& (3 : Int32)).toInt64)), .second, .unset, .unset, .unset, .unset, .unset]) rfl ?_
    show Steps p.tables e below (s₁.setTop (mkF m 5 #[.val (.long q1), .second, .val (.int p2), .val (.long ((p2 &&& (3 : Int32)).toInt64)), .second, .unset, .unset, .unset, .unset, .unset] [])) _
    refine XS.lloadN X0.here hx rfl (hb hby at_5) rfl ?_
    show Steps p.tables e below (s₁.setTop (mkF m 6 #[.val (.long q1), .second, .val (.int p2), .val (.long ((p2 &&& (3 : Int32)).toInt64)), .second, .unset, .unset, .unset, .unset, .unset] [(.long q1)])) _
    refine X0.ldc2Long hx hown (mvT hZ (hw _ (List.mem_of_getElem? (i := 0) rfl))) (g := (mkF m 6 #[.val (.long q1), .second, .val (.int p2), .val (.long ((p2 &&& (3 : Int32)).toInt64)), .second, .unset, .unset, .unset, .unset, .unset] [(.long q1)])) rfl (hb hby at_6) _ ?_
    show Steps p.tables e below (s₁.setTop (mkF m 9 #[.val (.long q1), .second, .val (.int p2), .val (.long ((p2 &&& (3 : Int32)).toInt64)), .second, .unset, .unset, .unset, .unset, .unset] [(.long (-12582913 : Int64)), (.long q1)])) _
    refine XS.land X0.here hx rfl (hb hby at_9) rfl ?_
    show Steps p.tables e below (s₁.setTop (mkF m 10 #[.val (.long q1), .second, .val (.int p2), .val (.long ((p2 &&& (3 : Int32)).toInt64)), .second, .unset, .unset, .unset, .unset, .unset] [(.long (q1 &&& (-12582913 : Int64)))])) _
    refine XS.lloadN X0.here hx rfl (hb hby at_10) rfl ?_
    show Steps p.tables e below (s₁.setTop (mkF m 11 #[.val (.long q1), .second, .val (.int p2), .val (.long ((p2 &&& (3 : Int32)).toInt64)), .second, .unset, .unset, .unset, .unset, .unset] [(.long ((p2 &&& (3 : Int32)).toInt64)), (.long (q1 &&& (-12582913 : Int64)))])) _
    refine XS.bipush X0.here hx rfl (hb hby at_11) ?_
    show Steps p.tables e below (s₁.setTop (mkF m 13 #[.val (.long q1), .second, .val (.int p2), .val (.long ((p2 &&& (3 : Int32)).toInt64)), .second, .unset, .unset, .unset, .unset, .unset] [(.int (22 : Int32)), (.long ((p2 &&& (3 : Int32)).toInt64)), (.long (q1 &&& (-12582913 : Int64)))])) _
    refine XS.lshl X0.here hx rfl (hb hby at_13) rfl ?_
    show Steps p.tables e below (s₁.setTop (mkF m 14 #[.val (.long q1), .second, .val (.int p2), .val (.long ((p2 &&& (3 : Int32)).toInt64)), .second, .unset, .unset, .unset, .unset, .unset] [(.long (((p2 &&& (3 : Int32)).toInt64) <<< ((22 : Int32) &&& 0x3f).toInt64)), (.long (q1 &&& (-12582913 : Int64)))])) _
    refine XS.lor X0.here hx rfl (hb hby at_14) rfl ?_
    show Steps p.tables e below (s₁.setTop (mkF m 15 #[.val (.long q1), .second, .val (.int p2), .val (.long ((p2 &&& (3 : Int32)).toInt64)), .second, .unset, .unset, .unset, .unset, .unset] [(.long ((q1 &&& (-12582913 : Int64)) ||| (((p2 &&& (3 : Int32)).toInt64) <<< ((22 : Int32) &&& 0x3f).toInt64)))])) _
    refine XS.lstore X0.here hx rfl (hb hby at_15) rfl (l' := #[.val (.long q1), .second, .val (.int p2), .val (.long ((p2 &&& (3 : Int32)).toInt64)), .second, .val (.long ((q1 &&& (-12582913 : Int64)) ||| (((p2 &&& (3 : Int32)).toInt64) <<< ((22 : Int32) &&& 0x3f).toInt64))), .second, .unset, .unset, .unset]) rfl ?_
    show Steps p.tables e below (s₁.setTop (mkF m 17 #[.val (.long q1), .second, .val (.int p2), .val (.long ((p2 &&& (3 : Int32)).toInt64)), .second, .val (.long ((q1 &&& (-12582913 : Int64)) ||| (((p2 &&& (3 : Int32)).toInt64) <<< ((22 : Int32) &&& 0x3f).toInt64))), .second, .unset, .unset, .unset] [])) _
    refine XS.lloadN X0.here hx rfl (hb hby at_17) rfl ?_
    show Steps p.tables e below (s₁.setTop (mkF m 18 #[.val (.long q1), .second, .val (.int p2), .val (.long ((p2 &&& (3 : Int32)).toInt64)), .second, .val (.long ((q1 &&& (-12582913 : Int64)) ||| (((p2 &&& (3 : Int32)).toInt64) <<< ((22 : Int32) &&& 0x3f).toInt64))), .second, .unset, .unset, .unset] [(.long ((p2 &&& (3 : Int32)).toInt64))])) _
    refine XS.lconst X0.here hx rfl (hb hby at_18) ?_
    show Steps p.tables e below (s₁.setTop (mkF m 19 #[.val (.long q1), .second, .val (.int p2), .val (.long ((p2 &&& (3 : Int32)).toInt64)), .second, .val (.long ((q1 &&& (-12582913 : Int64)) ||| (((p2 &&& (3 : Int32)).toInt64) <<< ((22 : Int32) &&& 0x3f).toInt64))), .second, .unset, .unset, .unset] [(.long (1 : Int64)), (.long ((p2 &&& (3 : Int32)).toInt64))])) _
    refine XS.lcmp X0.here hx rfl (hb hby at_19) rfl ?_
    show Steps p.tables e below (s₁.setTop (mkF m 20 #[.val (.long q1), .second, .val (.int p2), .val (.long ((p2 &&& (3 : Int32)).toInt64)), .second, .val (.long ((q1 &&& (-12582913 : Int64)) ||| (((p2 &&& (3 : Int32)).toInt64) <<< ((22 : Int32) &&& 0x3f).toInt64))), .second, .unset, .unset, .unset] [(.int (lcmpW ((p2 &&& (3 : Int32)).toInt64) (1 : Int64)))])) _
    refine XS.ifYes X0.here hx rfl (pc0 := 20) (pc' := 27) rfl (hb hby at_20) rfl ((if0 _ _).trans (feq hc20).2) (by decide) (by decide) ?_
    show Steps p.tables e below (s₁.setTop (mkF m 27 #[.val (.long q1), .second, .val (.int p2), .val (.long ((p2 &&& (3 : Int32)).toInt64)), .second, .val (.long ((q1 &&& (-12582913 : Int64)) ||| (((p2 &&& (3 : Int32)).toInt64) <<< ((22 : Int32) &&& 0x3f).toInt64))), .second, .unset, .unset, .unset] [])) _
    refine XS.iconst X0.here hx rfl (hb hby at_27) ?_
    show Steps p.tables e below (s₁.setTop (mkF m 28 #[.val (.long q1), .second, .val (.int p2), .val (.long ((p2 &&& (3 : Int32)).toInt64)), .second, .val (.long ((q1 &&& (-12582913 : Int64)) ||| (((p2 &&& (3 : Int32)).toInt64) <<< ((22 : Int32) &&& 0x3f).toInt64))), .second, .unset, .unset, .unset] [(.int (0 : Int32))])) _
    refine XS.istore X0.here hx rfl (hb hby at_28) rfl (l' := #[.val (.long q1), .second, .val (.int p2), .val (.long ((p2 &&& (3 : Int32)).toInt64)), .second, .val (.long ((q1 &&& (-12582913 : Int64)) ||| (((p2 &&& (3 : Int32)).toInt64) <<< ((22 : Int32) &&& 0x3f).toInt64))), .second, .val (.int (0 : Int32)), .unset, .unset]) rfl ?_
    show Steps p.tables e below (s₁.setTop (mkF m 30 #[.val (.long q1), .second, .val (.int p2), .val (.long ((p2 &&& (3 : Int32)).toInt64)), .second, .val (.long ((q1 &&& (-12582913 : Int64)) ||| (((p2 &&& (3 : Int32)).toInt64) <<< ((22 : Int32) &&& 0x3f).toInt64))), .second, .val (.int (0 : Int32)), .unset, .unset] [])) _
    refine XS.lload X0.here hx rfl (hb hby at_30) rfl ?_
    show Steps p.tables e below (s₁.setTop (mkF m 32 #[.val (.long q1), .second, .val (.int p2), .val (.long ((p2 &&& (3 : Int32)).toInt64)), .second, .val (.long ((q1 &&& (-12582913 : Int64)) ||| (((p2 &&& (3 : Int32)).toInt64) <<< ((22 : Int32) &&& 0x3f).toInt64))), .second, .val (.int (0 : Int32)), .unset, .unset] [(.long ((q1 &&& (-12582913 : Int64)) ||| (((p2 &&& (3 : Int32)).toInt64) <<< ((22 : Int32) &&& 0x3f).toInt64)))])) _
    refine st3 _ ?_
    show Steps p.tables e below (T3.setTop (mkF m 35 #[.val (.long q1), .second, .val (.int p2), .val (.long ((p2 &&& (3 : Int32)).toInt64)), .second, .val (.long ((q1 &&& (-12582913 : Int64)) ||| (((p2 &&& (3 : Int32)).toInt64) <<< ((22 : Int32) &&& 0x3f).toInt64))), .second, .val (.int (0 : Int32)), .unset, .unset] [(.int (0 : Int32))])) _
    refine XS.istore X3.here hx rfl (hb hby at_35) rfl (l' := #[.val (.long q1), .second, .val (.int p2), .val (.long ((p2 &&& (3 : Int32)).toInt64)), .second, .val (.long ((q1 &&& (-12582913 : Int64)) ||| (((p2 &&& (3 : Int32)).toInt64) <<< ((22 : Int32) &&& 0x3f).toInt64))), .second, .val (.int (0 : Int32)), .val (.int (0 : Int32)), .unset]) rfl ?_
    show Steps p.tables e below (T3.setTop (mkF m 37 #[.val (.long q1), .second, .val (.int p2), .val (.long ((p2 &&& (3 : Int32)).toInt64)), .second, .val (.long ((q1 &&& (-12582913 : Int64)) ||| (((p2 &&& (3 : Int32)).toInt64) <<< ((22 : Int32) &&& 0x3f).toInt64))), .second, .val (.int (0 : Int32)), .val (.int (0 : Int32)), .unset] [])) _
    refine XS.lload X3.here hx rfl (hb hby at_37) rfl ?_
    show Steps p.tables e below (T3.setTop (mkF m 39 #[.val (.long q1), .second, .val (.int p2), .val (.long ((p2 &&& (3 : Int32)).toInt64)), .second, .val (.long ((q1 &&& (-12582913 : Int64)) ||| (((p2 &&& (3 : Int32)).toInt64) <<< ((22 : Int32) &&& 0x3f).toInt64))), .second, .val (.int (0 : Int32)), .val (.int (0 : Int32)), .unset] [(.long ((q1 &&& (-12582913 : Int64)) ||| (((p2 &&& (3 : Int32)).toInt64) <<< ((22 : Int32) &&& 0x3f).toInt64)))])) _
    refine st4 _ ?_
    show Steps p.tables e below (T4.setTop (mkF m 42 #[.val (.long q1), .second, .val (.int p2), .val (.long ((p2 &&& (3 : Int32)).toInt64)), .second, .val (.long ((q1 &&& (-12582913 : Int64)) ||| (((p2 &&& (3 : Int32)).toInt64) <<< ((22 : Int32) &&& 0x3f).toInt64))), .second, .val (.int (0 : Int32)), .val (.int (0 : Int32)), .unset] [(.int (1 : Int32))])) _
    refine XS.ifNo X4.here hx rfl (hb hby at_42) rfl ((if0 _ _).trans (feq hc42).1) ?_
    show Steps p.tables e below (T4.setTop (mkF m 45 #[.val (.long q1), .second, .val (.int p2), .val (.long ((p2 &&& (3 : Int32)).toInt64)), .second, .val (.long ((q1 &&& (-12582913 : Int64)) ||| (((p2 &&& (3 : Int32)).toInt64) <<< ((22 : Int32) &&& 0x3f).toInt64))), .second, .val (.int (0 : Int32)), .val (.int (0 : Int32)), .unset] [])) _
    refine XS.lload X4.here hx rfl (hb hby at_45) rfl ?_
    show Steps p.tables e below (T4.setTop (mkF m 47 #[.val (.long q1), .second, .val (.int p2), .val (.long ((p2 &&& (3 : Int32)).toInt64)), .second, .val (.long ((q1 &&& (-12582913 : Int64)) ||| (((p2 &&& (3 : Int32)).toInt64) <<< ((22 : Int32) &&& 0x3f).toInt64))), .second, .val (.int (0 : Int32)), .val (.int (0 : Int32)), .unset] [(.long ((q1 &&& (-12582913 : Int64)) ||| (((p2 &&& (3 : Int32)).toInt64) <<< ((22 : Int32) &&& 0x3f).toInt64)))])) _
    refine st5 _ ?_
    show Steps p.tables e below (T5.setTop (mkF m 50 #[.val (.long q1), .second, .val (.int p2), .val (.long ((p2 &&& (3 : Int32)).toInt64)), .second, .val (.long ((q1 &&& (-12582913 : Int64)) ||| (((p2 &&& (3 : Int32)).toInt64) <<< ((22 : Int32) &&& 0x3f).toInt64))), .second, .val (.int (0 : Int32)), .val (.int (0 : Int32)), .unset] [(.int (1 : Int32))])) _
    refine XS.ifYes X5.here hx rfl (pc0 := 50) (pc' := 57) rfl (hb hby at_50) rfl ((if0 _ _).trans (feq hc50).2) (by decide) (by decide) ?_
    show Steps p.tables e below (T5.setTop (mkF m 57 #[.val (.long q1), .second, .val (.int p2), .val (.long ((p2 &&& (3 : Int32)).toInt64)), .second, .val (.long ((q1 &&& (-12582913 : Int64)) ||| (((p2 &&& (3 : Int32)).toInt64) <<< ((22 : Int32) &&& 0x3f).toInt64))), .second, .val (.int (0 : Int32)), .val (.int (0 : Int32)), .unset] [])) _
    refine XS.iconst X5.here hx rfl (hb hby at_57) ?_
    show Steps p.tables e below (T5.setTop (mkF m 58 #[.val (.long q1), .second, .val (.int p2), .val (.long ((p2 &&& (3 : Int32)).toInt64)), .second, .val (.long ((q1 &&& (-12582913 : Int64)) ||| (((p2 &&& (3 : Int32)).toInt64) <<< ((22 : Int32) &&& 0x3f).toInt64))), .second, .val (.int (0 : Int32)), .val (.int (0 : Int32)), .unset] [(.int (0 : Int32))])) _
    refine XS.istore X5.here hx rfl (hb hby at_58) rfl (l' := #[.val (.long q1), .second, .val (.int p2), .val (.long ((p2 &&& (3 : Int32)).toInt64)), .second, .val (.long ((q1 &&& (-12582913 : Int64)) ||| (((p2 &&& (3 : Int32)).toInt64) <<< ((22 : Int32) &&& 0x3f).toInt64))), .second, .val (.int (0 : Int32)), .val (.int (0 : Int32)), .val (.int (0 : Int32))]) rfl ?_
    show Steps p.tables e below (T5.setTop (mkF m 60 #[.val (.long q1), .second, .val (.int p2), .val (.long ((p2 &&& (3 : Int32)).toInt64)), .second, .val (.long ((q1 &&& (-12582913 : Int64)) ||| (((p2 &&& (3 : Int32)).toInt64) <<< ((22 : Int32) &&& 0x3f).toInt64))), .second, .val (.int (0 : Int32)), .val (.int (0 : Int32)), .val (.int (0 : Int32))] [])) _
    refine XS.iload X5.here hx rfl (hb hby at_60) rfl ?_
    show Steps p.tables e below (T5.setTop (mkF m 62 #[.val (.long q1), .second, .val (.int p2), .val (.long ((p2 &&& (3 : Int32)).toInt64)), .second, .val (.long ((q1 &&& (-12582913 : Int64)) ||| (((p2 &&& (3 : Int32)).toInt64) <<< ((22 : Int32) &&& 0x3f).toInt64))), .second, .val (.int (0 : Int32)), .val (.int (0 : Int32)), .val (.int (0 : Int32))] [(.int (0 : Int32))])) _
    refine XS.iload X5.here hx rfl (hb hby at_62) rfl ?_
    show Steps p.tables e below (T5.setTop (mkF m 64 #[.val (.long q1), .second, .val (.int p2), .val (.long ((p2 &&& (3 : Int32)).toInt64)), .second, .val (.long ((q1 &&& (-12582913 : Int64)) ||| (((p2 &&& (3 : Int32)).toInt64) <<< ((22 : Int32) &&& 0x3f).toInt64))), .second, .val (.int (0 : Int32)), .val (.int (0 : Int32)), .val (.int (0 : Int32))] [(.int (0 : Int32)), (.int (0 : Int32))])) _
    refine XS.icmpNo X5.here hx rfl (hb hby at_64) rfl (teq (rfl : (0 : Int32) = (0 : Int32))).2 ?_
    show Steps p.tables e below (T5.setTop (mkF m 67 #[.val (.long q1), .second, .val (.int p2), .val (.long ((p2 &&& (3 : Int32)).toInt64)), .second, .val (.long ((q1 &&& (-12582913 : Int64)) ||| (((p2 &&& (3 : Int32)).toInt64) <<< ((22 : Int32) &&& 0x3f).toInt64))), .second, .val (.int (0 : Int32)), .val (.int (0 : Int32)), .val (.int (0 : Int32))] [])) _
    refine XS.iload X5.here hx rfl (hb hby at_67) rfl ?_
    show Steps p.tables e below (T5.setTop (mkF m 69 #[.val (.long q1), .second, .val (.int p2), .val (.long ((p2 &&& (3 : Int32)).toInt64)), .second, .val (.long ((q1 &&& (-12582913 : Int64)) ||| (((p2 &&& (3 : Int32)).toInt64) <<< ((22 : Int32) &&& 0x3f).toInt64))), .second, .val (.int (0 : Int32)), .val (.int (0 : Int32)), .val (.int (0 : Int32))] [(.int (0 : Int32))])) _
    refine XS.iload X5.here hx rfl (hb hby at_69) rfl ?_
    show Steps p.tables e below (T5.setTop (mkF m 71 #[.val (.long q1), .second, .val (.int p2), .val (.long ((p2 &&& (3 : Int32)).toInt64)), .second, .val (.long ((q1 &&& (-12582913 : Int64)) ||| (((p2 &&& (3 : Int32)).toInt64) <<< ((22 : Int32) &&& 0x3f).toInt64))), .second, .val (.int (0 : Int32)), .val (.int (0 : Int32)), .val (.int (0 : Int32))] [(.int (0 : Int32)), (.int (0 : Int32))])) _
    refine XS.icmpNo X5.here hx rfl (hb hby at_71) rfl (teq (rfl : (0 : Int32) = (0 : Int32))).2 ?_
    show Steps p.tables e below (T5.setTop (mkF m 74 #[.val (.long q1), .second, .val (.int p2), .val (.long ((p2 &&& (3 : Int32)).toInt64)), .second, .val (.long ((q1 &&& (-12582913 : Int64)) ||| (((p2 &&& (3 : Int32)).toInt64) <<< ((22 : Int32) &&& 0x3f).toInt64))), .second, .val (.int (0 : Int32)), .val (.int (0 : Int32)), .val (.int (0 : Int32))] [])) _
    refine XS.iconst X5.here hx rfl (hb hby at_74) ?_
    show Steps p.tables e below (T5.setTop (mkF m 75 #[.val (.long q1), .second, .val (.int p2), .val (.long ((p2 &&& (3 : Int32)).toInt64)), .second, .val (.long ((q1 &&& (-12582913 : Int64)) ||| (((p2 &&& (3 : Int32)).toInt64) <<< ((22 : Int32) &&& 0x3f).toInt64))), .second, .val (.int (0 : Int32)), .val (.int (0 : Int32)), .val (.int (0 : Int32))] [(.int (1 : Int32))])) _
    refine XS.goto X5.here hx rfl (pc0 := 75) (pc' := 79) rfl (hb hby at_75) (by decide) (by decide) ?_
    show Steps p.tables e below (T5.setTop (mkF m 79 #[.val (.long q1), .second, .val (.int p2), .val (.long ((p2 &&& (3 : Int32)).toInt64)), .second, .val (.long ((q1 &&& (-12582913 : Int64)) ||| (((p2 &&& (3 : Int32)).toInt64) <<< ((22 : Int32) &&& 0x3f).toInt64))), .second, .val (.int (0 : Int32)), .val (.int (0 : Int32)), .val (.int (0 : Int32))] [(.int (1 : Int32))])) _
    exact retN X5 hx (t := .boolean) Bd.returns (by simp) (hb hby at_79) hr
  · show Q0_c Z q1 p2 h0 n0 _ T5.heap _
    rw [e5]
    exact ⟨rfl, N5⟩

theorem own_mask (q c m : Int64) (hm : (-12582913 : Int64) &&& m = 0) : ((q &&& (-12582913 : Int64)) ||| c) &&& m = c &&& m := by
  have h : (-12582913 : Int64).toBitVec &&& m.toBitVec = 0#64 := congrArg Int64.toBitVec hm
  apply Int64.toBitVec_inj.mp
  show ((q.toBitVec &&& (-12582913 : Int64).toBitVec) ||| c.toBitVec) &&& m.toBitVec = c.toBitVec &&& m.toBitVec
  apply BitVec.eq_of_getLsbD_eq
  intro i hi
  have hi' : ((-12582913 : Int64).toBitVec &&& m.toBitVec).getLsbD i = false := by rw [h]; simp
  rw [BitVec.getLsbD_and] at hi'
  simp only [BitVec.getLsbD_and, BitVec.getLsbD_or]
  cases hq : q.toBitVec.getLsbD i <;> cases hc : c.toBitVec.getLsbD i <;> cases hmm : m.toBitVec.getLsbD i <;> cases hk : (-12582913 : Int64).toBitVec.getLsbD i <;> simp_all
theorem own_four (a : Int32) : (a &&& (3 : Int32)) = 0 ∨ (a &&& (3 : Int32)) = 1 ∨ (a &&& (3 : Int32)) = 2 ∨ (a &&& (3 : Int32)) = 3 := by
  have h := c_and a (3 : Int32) (by decide)
  have z : (3 : Int32).toInt = 3 := by decide
  have z0 : (0 : Int32).toInt = 0 := by decide
  have z1 : (1 : Int32).toInt = 1 := by decide
  have z2 : (2 : Int32).toInt = 2 := by decide
  simp only [← Int32.toInt_inj]
  omega
def Q0 (Z : State) (q1 : Int64) (p2 : Int32) (h0 : Heap) (n0 : Nat) (v : Option Value) (h : Heap) (L : List Loc) : Prop := v = some (.int (1 : Int32)) ∧ Fr n0 L
theorem rm0 (l : Launch) (Z : State) (a0 : Array Value) (hw : ∀ d ∈ tables_1, d.before a0 Z = true) (ws : List Jvm.Cond) (q1 : Int64) (p2 : Int32) (h0 : Heap) (n0 : Nat) (Z0 : n0 ≤ h0.size) :
    MetFree l x (head1 (Jvm.Cond.code x code maxLocals ret :: ws) room_1) (fun a U => a = #[(.long q1), (.int p2)] ∧ Z.Warmed39 U.vm ∧ U.heap = h0) (fun _ _ _ _ _ => True) (fun _ U o U' => ∃ v L, o = .returned v ∧ Q0 Z q1 p2 h0 n0 v U'.heap L ∧ FrameEnd U o U' L room_1.cells room_1.slots) := by
  rcases own_four p2 with h | h | h | h
  · refine rm0_a l Z a0 hw ws q1 p2 h0 n0 Z0 ?_ ?_ ?_
    · rw [h, own_mask _ _ _ (by decide)]; decide
    · rw [h, own_mask _ _ _ (by decide)]; decide
    · rw [h]; decide
  · refine rm0_b l Z a0 hw ws q1 p2 h0 n0 Z0 ?_ ?_ ?_ ?_ (by decide)
    · rw [h, own_mask _ _ _ (by decide)]; decide
    · rw [h, own_mask _ _ _ (by decide)]; decide
    · rw [h, own_mask _ _ _ (by decide)]; decide
    · rw [h]; decide
  · refine rm0_a l Z a0 hw ws q1 p2 h0 n0 Z0 ?_ ?_ ?_
    · rw [h, own_mask _ _ _ (by decide)]; decide
    · rw [h, own_mask _ _ _ (by decide)]; decide
    · rw [h]; decide
  · refine rm0_c l Z a0 hw ws q1 p2 h0 n0 Z0 ?_ ?_ ?_ ?_ (by decide) (by decide)
    · rw [h, own_mask _ _ _ (by decide)]; decide
    · rw [h, own_mask _ _ _ (by decide)]; decide
    · rw [h, own_mask _ _ _ (by decide)]; decide
    · rw [h]; decide
set_option maxRecDepth 65536 in
set_option maxHeartbeats 40000000 in
theorem comes_1 {Post : Tables → Env → Array Value → State → Outcome → State → Prop} (hpost : ∀ tb e args s v u, (limb_1_1.after args s (.returned v) u = true ∧ limb_1_2.after args s (.returned v) u = true ∧ True) → FrameEnd s (.returned v) u (Jvm.fieldLocs frame_1_writes args s ++ Jvm.arrayLocs frame_1_arrays args s ++ Jvm.staticLocs frame_1_statics s) 0 0 → Post tb e args s (.returned v) u) :
    ArmFor flags0 classFile x code maxLocals ret World_1 tables_1 room_1 Calls_1 rest_1 Pre_1 Post := by
  intro l hfl _ _ p e ha hc hk s m args below hf hA hF happ hP
  obtain ⟨hcalls, hrest, hpre⟩ := hP
  obtain ⟨-, -, -, hnamed, -, -, -, hat⟩ := (Spec.applies_iff hf).mp happ
  obtain ⟨hg, hn⟩ := and_e (Cond.before_iff.mp (show (Jvm.Cond.and given_1 narrow_1).before args s = true from hpre))
  obtain ⟨g5, g6⟩ := and_e hg
  obtain ⟨g7, g8⟩ := and_e g6
  obtain ⟨w0, w1, rfl⟩ : ∃ w0 w1 : Value, args = #[w0, w1] := by
    have hs : args.size = 2 := by simpa [Cond.value, given_1] using g5
    obtain ⟨L⟩ := args
    match L, hs with
    | [w0, w1], _ => exact ⟨w0, w1, rfl⟩
  have hw := fun d (hd : d ∈ tables_1) => atoms_spec (ws := Jvm.Cond.code x code maxLocals ret :: tables_1) hat d (List.mem_cons_of_mem _ hd)
  have hfit : Fit s := fun {y c} hc i hi => by
    obtain ⟨ha, rfl⟩ := Array.getElem?_eq_some_iff.mp hc
    have q := List.all_eq_true.mp ((Array.all_eq_true_iff_forall_mem.mp hF) _ (Array.getElem_mem ha)) i (List.mem_range.mpr hi)
    simpa [Array.getElem?_eq_getElem hi] using q
  obtain ⟨i0, ei0⟩ := isL_v g7
  obtain rfl : w0 = (.long i0) := Option.some.inj ei0
  obtain ⟨i1, ei1⟩ := is_v g8
  obtain rfl : w1 = (.int i1) := Option.some.inj ei1
  obtain ⟨n, o, h1, h2, h3, _, L, rfl, ⟨rfl, N⟩, hq⟩ := rm0 l s _ hw tables_1 i0 i1 s.heap s.heap.size (Nat.le_refl _) p e ha hc hk s m _ below hf ((Spec.applies_iff_loose hf).mp happ).1 ⟨rfl, State.Warmed39.refl s, rfl⟩ trivial
  refine ⟨n, _, h1, h2, h3, hpost _ _ _ _ _ _ ⟨Cond.after_iff.mpr rfl, Cond.after_iff.mpr (eq_i res_at (Term.int_eval (1)) rfl), trivial⟩ ⟨hq.1, hq.2.1, (hq.2.2.sift fun y hy => Or.inr (N y hy)).mono (by decide) (by decide)⟩⟩
theorem main_1_1 : Claimed_1_1 := comes_1 fun _ _ _ _ _ _ h hF => ⟨h.1, hF⟩
theorem main_1_2 : Claimed_1_2 := comes_1 fun _ _ _ _ _ _ h hF => ⟨h.2.1, hF⟩
end Jvm.Pilot.@@N@@
namespace Jvm.Pilot.@@N@@
open Jvm Jvm.ClassFile Sem Op Lib Jvm.Free Jvm.Stand Jvm.Pilot.@@N@@.Jvm.D
/-! MADE BY PROGRAM (witnessworld.py) out of the Statement's table words and the real class files: 9 classes; the members and pool entries that the words name. The judged class is class 1, her method 1. -/
namespace start1
open Jvm.ClassFile
def u (s : String) : CpInfo := .utf8 (stringToUtf16 s)
/-- a pool by its gaps: so many unusable entries, then the entry; so many at the end -/
def gap : Nat → List CpInfo → List CpInfo
  | 0, r => r
  | n + 1, r => .unusable :: gap n r
def poolList (es : List (Nat × CpInfo)) (last : Nat) : List CpInfo := es.foldr (fun e r => gap e.1 (e.2 :: r)) (gap last [])
def pool (es : List (Nat × CpInfo)) (last : Nat) : Array CpInfo := ⟨poolList es last⟩
def fileOf (pool : Array CpInfo) (this : Nat) (attrs : Array Attribute := #[]) (ms : Array MethodInfo := #[]) (fl : Nat := 33) (sup : Nat := 0) (ifs : Array Nat := #[]) (fds : Array FieldInfo := #[]) : ClassFile where
  minorVersion := 0
  majorVersion := 65
  constantPool := pool
  accessFlags := fl
  thisClass := this
  superClass := sup
  interfaces := ifs
  fields := fds
  methods := ms
  attributes := attrs
def plain (name : String) (sup : Option ClassId) : Class where
  name := name
  kind := .ordinary
  loader := none
  accessFlags := 33
  super := sup
  interfaces := #[]
  cf := none
  fields := #[]
  methods := #[]
  instanceTypes := #[]
  staticTypes := #[]
  resolved := #[]
  callSites := []
  init := .initialized
  statics := none
  mirror := none

def pool0 : Array CpInfo := pool [(5, u "<init>"), (0, u "()V"), (1, .class_ 10), (1, u "java/lang/Object")] 113

def k0m0 : Method := { name := "<init>", desc := "()V", sig := { parameters := [], returnType := none }, accessFlags := 1, code := none }
/-- java/lang/Object -/
def k0 : Class := { plain "java/lang/Object" none with
  accessFlags := 33
  interfaces := #[]
  cf := some (fileOf pool0 8 #[] #[{ accessFlags := 1, nameIndex := 5, descriptorIndex := 6, attributes := #[] }] 33 0 #[] #[])
  fields := #[]
  methods := #[k0m0]
  instanceTypes := #[]
  staticTypes := #[]
  resolved := Array.replicate 124 none
  statics := none }

def pool1 : Array CpInfo := pool [(2, .class_ 4), (1, u "java/lang/Object"), (0, u "<init>"), (0, u "()V"), (0, .long 18446744073696968703), (1, .methodref 10 11), (0, .class_ 12), (0, .nameAndType 13 14), (0, u "com/example/isolyne/isolyne/LockWords"), (0, u "namesTableState"), (0, u "(J)Z"), (0, .methodref 10 16), (0, .nameAndType 17 14), (0, u "isOfTableKind"), (0, .methodref 10 19), (0, .nameAndType 20 14), (0, u "namesJoin"), (0, .class_ 22), (0, u "com/example/isolyne/isolyne/LockWordsNamesTableStatePinLaw"), (2, u "law"), (0, u "(JI)Z")] 3

def k1m0 : Method := { name := "<init>", desc := "()V", sig := { parameters := [], returnType := none }, accessFlags := 2, code := none }
def k1c1 : Code := { maxStack := 5, maxLocals := 10, code := code, exceptionTable := #[], attributes := #[] }
def k1m1 : Method := { name := "law", desc := "(JI)Z", sig := { parameters := [.long, .int], returnType := some .boolean }, accessFlags := 9, code := some k1c1 }
/-- com/example/isolyne/isolyne/LockWordsNamesTableStatePinLaw -/
def k1 : Class := { plain "com/example/isolyne/isolyne/LockWordsNamesTableStatePinLaw" (some 0) with
  accessFlags := 49
  interfaces := #[]
  cf := some (fileOf pool1 21 #[] #[{ accessFlags := 2, nameIndex := 5, descriptorIndex := 6, attributes := #[] }, { accessFlags := 9, nameIndex := 25, descriptorIndex := 26, attributes := #[] }] 49 2 #[] #[])
  fields := #[]
  methods := #[k1m0, k1m1]
  instanceTypes := #[]
  staticTypes := #[]
  resolved := Array.replicate 30 none
  statics := none }

def pool2 : Array CpInfo := pool [(1, .class_ 2), (0, u "com/example/isolyne/isolyne/LockWords"), (1, .class_ 6), (1, u "java/lang/Object"), (0, u "<init>"), (0, u "()V"), (2, u "HOLDINGS"), (0, u "Lcom/example/isolyne/isolyne/LockWords$Registry;"), (2, u "TABLE_STATES"), (2, u "ANCHORS"), (2, u "SERIAL_STATES"), (0, u "Ljava/util/Map;"), (6, .long 12582912), (1, .long 4194304), (1, .long 8388608), (3, u "namesJoin"), (0, u "(J)Z"), (12, u "namesTableState"), (17, .class_ 71), (1, u "com/example/isolyne/isolyne/LockWords$Registry"), (17, u "isOfTableKind"), (66, u "nextSerial"), (0, u "J"), (36, u "UNLOCKED"), (3, u "SLOT_BITS"), (0, u "I"), (1, u "SLOT_MASK"), (0, u "WRITE_MODE"), (0, u "TABLE_KIND"), (0, u "JOIN_KIND"), (0, u "SERIAL"), (0, u "GENERATION_SHIFT"), (1, u "LAST_GENERATION"), (2, u "NO_OWN_WORD")] 43

def k2m0 : Method := { name := "<init>", desc := "()V", sig := { parameters := [], returnType := none }, accessFlags := 2, code := none }
def k2c1 : Code := { maxStack := 4, maxLocals := 2, code := prog_33_method_3_code, exceptionTable := #[], attributes := #[] }
def k2m1 : Method := { name := "namesTableState", desc := "(J)Z", sig := { parameters := [.long], returnType := some .boolean }, accessFlags := 8, code := some k2c1 }
def k2c2 : Code := { maxStack := 4, maxLocals := 2, code := prog_33_method_4_code, exceptionTable := #[], attributes := #[] }
def k2m2 : Method := { name := "namesJoin", desc := "(J)Z", sig := { parameters := [.long], returnType := some .boolean }, accessFlags := 8, code := some k2c2 }
def k2c3 : Code := { maxStack := 4, maxLocals := 2, code := prog_33_method_5_code, exceptionTable := #[], attributes := #[] }
def k2m3 : Method := { name := "isOfTableKind", desc := "(J)Z", sig := { parameters := [.long], returnType := some .boolean }, accessFlags := 8, code := some k2c3 }
/-- com/example/isolyne/isolyne/LockWords -/
def k2 : Class := { plain "com/example/isolyne/isolyne/LockWords" (some 0) with
  accessFlags := 32
  interfaces := #[]
  cf := some (fileOf pool2 1 #[.nestMembers #[69]] #[{ accessFlags := 2, nameIndex := 7, descriptorIndex := 8, attributes := #[] }, { accessFlags := 8, nameIndex := 51, descriptorIndex := 38, attributes := #[] }, { accessFlags := 8, nameIndex := 37, descriptorIndex := 38, attributes := #[] }, { accessFlags := 8, nameIndex := 89, descriptorIndex := 38, attributes := #[] }] 32 4 #[] #[{ accessFlags := 24, nameIndex := 194, descriptorIndex := 157, attributes := #[] }, { accessFlags := 26, nameIndex := 198, descriptorIndex := 199, attributes := #[] }, { accessFlags := 26, nameIndex := 201, descriptorIndex := 157, attributes := #[] }, { accessFlags := 26, nameIndex := 202, descriptorIndex := 157, attributes := #[] }, { accessFlags := 26, nameIndex := 203, descriptorIndex := 157, attributes := #[] }, { accessFlags := 26, nameIndex := 204, descriptorIndex := 157, attributes := #[] }, { accessFlags := 26, nameIndex := 205, descriptorIndex := 157, attributes := #[] }, { accessFlags := 26, nameIndex := 206, descriptorIndex := 199, attributes := #[] }, { accessFlags := 26, nameIndex := 208, descriptorIndex := 157, attributes := #[] }, { accessFlags := 24, nameIndex := 211, descriptorIndex := 157, attributes := #[] }, { accessFlags := 26, nameIndex := 11, descriptorIndex := 12, attributes := #[] }, { accessFlags := 26, nameIndex := 15, descriptorIndex := 12, attributes := #[] }, { accessFlags := 26, nameIndex := 18, descriptorIndex := 12, attributes := #[] }, { accessFlags := 26, nameIndex := 21, descriptorIndex := 22, attributes := #[] }, { accessFlags := 10, nameIndex := 156, descriptorIndex := 157, attributes := #[] }])
  fields := #[{ name := "UNLOCKED", type := .long, accessFlags := 24, slot := 0, constantValue := 0 }, { name := "SLOT_BITS", type := .int, accessFlags := 26, slot := 1, constantValue := 0 }, { name := "SLOT_MASK", type := .long, accessFlags := 26, slot := 2, constantValue := 0 }, { name := "WRITE_MODE", type := .long, accessFlags := 26, slot := 3, constantValue := 0 }, { name := "TABLE_KIND", type := .long, accessFlags := 26, slot := 4, constantValue := 0 }, { name := "JOIN_KIND", type := .long, accessFlags := 26, slot := 5, constantValue := 0 }, { name := "SERIAL", type := .long, accessFlags := 26, slot := 6, constantValue := 0 }, { name := "GENERATION_SHIFT", type := .int, accessFlags := 26, slot := 7, constantValue := 0 }, { name := "LAST_GENERATION", type := .long, accessFlags := 26, slot := 8, constantValue := 0 }, { name := "NO_OWN_WORD", type := .long, accessFlags := 24, slot := 9, constantValue := 0 }, { name := "HOLDINGS", type := (.object "com/example/isolyne/isolyne/LockWords$Registry"), accessFlags := 26, slot := 10, constantValue := 0 }, { name := "TABLE_STATES", type := (.object "com/example/isolyne/isolyne/LockWords$Registry"), accessFlags := 26, slot := 11, constantValue := 0 }, { name := "ANCHORS", type := (.object "com/example/isolyne/isolyne/LockWords$Registry"), accessFlags := 26, slot := 12, constantValue := 0 }, { name := "SERIAL_STATES", type := (.object "java/util/Map"), accessFlags := 26, slot := 13, constantValue := 0 }, { name := "nextSerial", type := .long, accessFlags := 10, slot := 14, constantValue := 0 }]
  methods := #[k2m0, k2m1, k2m2, k2m3]
  instanceTypes := #[]
  staticTypes := #[.long, .int, .long, .long, .long, .long, .long, .int, .long, .long, (.object "com/example/isolyne/isolyne/LockWords$Registry"), (.object "com/example/isolyne/isolyne/LockWords$Registry"), (.object "com/example/isolyne/isolyne/LockWords$Registry"), (.object "java/util/Map"), .long]
  resolved := Array.replicate 255 none
  statics := none }

def pool3 : Array CpInfo := pool [(1, u "java/lang/Cloneable"), (0, .class_ 1), (0, u "java/lang/Object"), (0, .class_ 3)] 3

/-- java/lang/Cloneable -/
def k3 : Class := { plain "java/lang/Cloneable" (some 0) with
  accessFlags := 1537
  interfaces := #[]
  cf := some (fileOf pool3 2 #[] #[] 1537 4 #[] #[])
  fields := #[]
  methods := #[]
  instanceTypes := #[]
  staticTypes := #[]
  resolved := Array.replicate 8 none
  statics := none }

def pool4 : Array CpInfo := pool [(1, u "java/io/Serializable"), (0, .class_ 1), (0, u "java/lang/Object"), (0, .class_ 3)] 3

/-- java/io/Serializable -/
def k4 : Class := { plain "java/io/Serializable" (some 0) with
  accessFlags := 1537
  interfaces := #[]
  cf := some (fileOf pool4 2 #[] #[] 1537 4 #[] #[])
  fields := #[]
  methods := #[]
  instanceTypes := #[]
  staticTypes := #[]
  resolved := Array.replicate 8 none
  statics := none }

/-- the primitive byte -/
def k5 : Class := { plain "byte" none with kind := .primitive 'B', accessFlags := 0x411 }
/-- [B -/
def k6 : Class := { plain "[B" (some 0) with kind := .array 5 .byte, interfaces := #[3, 4], accessFlags := 1041 }

/-- the primitive int -/
def k7 : Class := { plain "int" none with kind := .primitive 'I', accessFlags := 0x411 }
/-- [I -/
def k8 : Class := { plain "[I" (some 0) with kind := .array 7 .int, interfaces := #[3, 4], accessFlags := 1041 }

def heap : Heap := #[]
def classes : Array Class := #[k0, k1, k2, k3, k4, k5, k6, k7, k8]
def interned : List (Array UInt16 × Addr) := []
def slotsUsed : Nat := 0
def theMethod : MethodId := ⟨1, 1⟩
def args0 : Array Value := #[.long 5, .int 1]
def aboutOver (below : List Frame) : State where
  vm := { classes := classes, interned := interned.toArray }
  heap := heap
  slotsUsed := slotsUsed
  threads := #[{ frames := .invoking theMethod args0 :: below }]
def below0 : List Frame := [.native { method := ⟨0, 0⟩, args := #[] }]
def about1 : State := aboutOver below0
def p0 : Program := .bare "" "" ""
def e0 : Env := launch0.env 0 0 0
theorem w_frames : about1.frames = Frame.invoking theMethod args0 :: below0 := rfl
set_option maxRecDepth 65536 in
theorem w_args : argsFit about1.vm theMethod args0 = true := by decide +kernel
set_option maxRecDepth 65536 in
theorem w_heap : heapFits about1 = true := by decide +kernel
set_option maxRecDepth 65536 in
theorem w_runnable : about1.curStatus? = some .runnable := by decide +kernel
set_option maxRecDepth 65536 in
theorem w_alone : about1.alone = true := by decide +kernel
set_option maxRecDepth 65536 in
theorem w_named : about1.methodNamed? x = some theMethod := by decide +kernel
set_option maxRecDepth 65536 in
theorem w_hears : about1.hears theMethod below0 = true := by decide +kernel
set_option maxRecDepth 65536 in
theorem w_ripe : about1.ripe theMethod args0 below0 = true := by decide +kernel
theorem w_running : about1.status = .running := rfl
set_option maxRecDepth 65536 in
theorem w_room : about1.hasRoom e0.platform room_1 = true :=
  launch0.hasRoom_least _ room_1 (by decide +kernel) (by decide +kernel) (by decide +kernel) (by decide +kernel) (by decide +kernel) (by decide +kernel)
theorem allAtoms_all (ts : List Jvm.Cond) (a : Array Jvm.Value) (st : Jvm.State) : (allAtoms ts).before a st = ts.all (fun c => c.before a st) := by
  induction ts with
  | nil => rfl
  | cons c t ih =>
    show (Jvm.Cond.and c (allAtoms t)).before a st = _
    rw [Jvm.Cond.before_and, ih, List.all_cons]
def words1 : List Jvm.Cond := Jvm.Cond.code x code maxLocals ret :: tables_1
/-- a 'code' word, met by the world's own term for the bytes: nothing is compared byte by byte -/
theorem code_word {y : MethodName} {bytes : ByteArray} {mx : Nat} {rt : Option FieldType} {a : Array Value} {s : State} {m : MethodId} {meth : Method} {c : Code} (h1 : s.methodNamed? y = some m) (h2 : s.vm.method? m = some meth) (h3 : meth.code = some c) (h4 : c.code = bytes)
    (h5 : (c.maxLocals == mx && c.exceptionTable.isEmpty && decide (c.maxStack ≤ mostOperands) && decide (meth.sig.returnType = rt) && !meth.locks && decide (parseMethodDescriptor y.desc = some meth.sig)) = true) : (Jvm.Cond.code y bytes mx rt).before a s = true := by
  simp only [Bool.and_eq_true, beq_iff_eq, Bool.not_eq_true', decide_eq_true_eq] at h5
  obtain ⟨⟨⟨⟨⟨g1, g2⟩, g3⟩, g4⟩, g5⟩, g6⟩ := h5
  simp [Cond.before, Cond.holds, Cond.value, h1, h2, h3, h4, g1, g2, g3, g4, g5, g6]
def isCode : Jvm.Cond → Bool
  | .code _ _ _ _ => true
  | _ => false
theorem all_split {L : List Jvm.Cond} {P : Jvm.Cond → Bool} (h1 : L.all (fun c => isCode c || P c) = true) (h2 : ∀ c ∈ L.filter isCode, P c = true) : L.all P = true := by
  refine List.all_eq_true.mpr fun c hc => ?_
  have h := List.all_eq_true.mp h1 c hc
  rcases Bool.eq_false_or_eq_true (isCode c) with hi | hi
  · exact h2 c (List.mem_filter.mpr ⟨hc, hi⟩)
  · simpa [hi] using h
set_option maxRecDepth 65536 in
theorem w_c0 : (Jvm.Cond.code x code maxLocals ret).before args0 about1 = true := code_word (m := ⟨1, 1⟩) (meth := k1m1) (c := k1c1) (by decide +kernel) rfl rfl rfl (by decide +kernel)
set_option maxRecDepth 65536 in
theorem w_c1 : (Jvm.Cond.code ({ cls := "com/example/isolyne/isolyne/LockWords", name := "namesTableState", desc := "(J)Z" } : Jvm.MethodName) prog_33_method_3_code (2 : Nat) (Option.some Jvm.ClassFile.FieldType.boolean)).before args0 about1 = true := code_word (m := ⟨2, 1⟩) (meth := k2m1) (c := k2c1) (by decide +kernel) rfl rfl rfl (by decide +kernel)
set_option maxRecDepth 65536 in
theorem w_c2 : (Jvm.Cond.code ({ cls := "com/example/isolyne/isolyne/LockWords", name := "isOfTableKind", desc := "(J)Z" } : Jvm.MethodName) prog_33_method_5_code (2 : Nat) (Option.some Jvm.ClassFile.FieldType.boolean)).before args0 about1 = true := code_word (m := ⟨2, 3⟩) (meth := k2m3) (c := k2c3) (by decide +kernel) rfl rfl rfl (by decide +kernel)
set_option maxRecDepth 65536 in
theorem w_c3 : (Jvm.Cond.code ({ cls := "com/example/isolyne/isolyne/LockWords", name := "namesJoin", desc := "(J)Z" } : Jvm.MethodName) prog_33_method_4_code (2 : Nat) (Option.some Jvm.ClassFile.FieldType.boolean)).before args0 about1 = true := code_word (m := ⟨2, 2⟩) (meth := k2m2) (c := k2c2) (by decide +kernel) rfl rfl rfl (by decide +kernel)
def codes1 : List Jvm.Cond := [Jvm.Cond.code x code maxLocals ret, Jvm.Cond.code ({ cls := "com/example/isolyne/isolyne/LockWords", name := "namesTableState", desc := "(J)Z" } : Jvm.MethodName) prog_33_method_3_code (2 : Nat) (Option.some Jvm.ClassFile.FieldType.boolean), Jvm.Cond.code ({ cls := "com/example/isolyne/isolyne/LockWords", name := "isOfTableKind", desc := "(J)Z" } : Jvm.MethodName) prog_33_method_5_code (2 : Nat) (Option.some Jvm.ClassFile.FieldType.boolean), Jvm.Cond.code ({ cls := "com/example/isolyne/isolyne/LockWords", name := "namesJoin", desc := "(J)Z" } : Jvm.MethodName) prog_33_method_4_code (2 : Nat) (Option.some Jvm.ClassFile.FieldType.boolean)]
set_option maxRecDepth 65536 in
theorem codes_eq : words1.filter isCode = codes1 := rfl
theorem w_codes : ∀ c ∈ words1.filter isCode, c.before args0 about1 = true := by
  rw [codes_eq]
  intro c hc
  simp only [codes1, List.mem_cons, List.not_mem_nil, or_false] at hc
  rcases hc with rfl | rfl | rfl | rfl
  · exact w_c0
  · exact w_c1
  · exact w_c2
  · exact w_c3
set_option maxRecDepth 65536 in
theorem w_t1 : words1.all (fun c => isCode c || c.before args0 about1) = true := by decide +kernel
theorem w_tables : (allAtoms (Jvm.Cond.code x code maxLocals ret :: tables_1)).before args0 about1 = true := by
  rw [allAtoms_all]
  show words1.all (fun c => c.before args0 about1) = true
  refine all_split ?_ w_codes
  rw [w_t1]
set_option maxRecDepth 65536 in
theorem w_case : (Jvm.Cond.and given_1 narrow_1).before args0 about1 = true := by decide +kernel
theorem w_applies : (headSpec (Jvm.Cond.code x code maxLocals ret :: tables_1) room_1).applies x e0.platform about1 = true :=
  (Spec.applies_iff w_frames).mpr ⟨w_running, w_runnable, w_alone, w_named, w_hears, w_ripe, w_room, w_tables⟩
theorem atStart : AtStart classFile x code maxLocals ret World_1 tables_1 room_1 Calls_1 rest_1 Pre_1 launch0 p0 e0 about1 theMethod args0 below0 :=
  ⟨lists_1, trivial, launch0.admits_env _ _ _, launch0.least_env, fairChoices_fair.cas, fairChoices_fair.clock, w_frames, w_args, w_heap, w_applies, trivial, trivial, w_case⟩
end start1
theorem witness_1 : WitnessClaimed_1 := ⟨start1.p0, start1.e0, start1.about1, start1.theMethod, start1.args0, start1.below0, start1.atStart⟩
end Jvm.Pilot.@@N@@
