import JvmDerived
import JvmDerived.Pilot.@@N@@Statement
import JvmDerived.Pilot.@@N@@Code
set_option linter.unusedVariables false
set_option linter.unusedSimpArgs false
namespace Jvm.RoadKit
open Sem ClassFile Op Lib Jvm.Stand Jvm.Free Jvm.LawKit
section New
variable {p : Program} {l : Launch} {e : Env} {R : Room} {s : State} {m : MethodId} {args : Array Value} {below : List Frame} {meth : Method} {c : Code} {T : State} {locs : List Loc} {cells slots : Nat}
theorem retI (X : Stand p l e R s m args below meth c T locs cells slots) (hx : p.tables.exec = Jvm.exec) {pc : Nat} {Ls : Array Slot} {z : Int32} {rest : List Value} (hret : meth.sig.returnType = some .int) (hd : decode c.code pc = .ok (.ireturn, 1)) {fs : List Frame}
    (hl : ∀ (f : JFrame) (acts : List Action), f.method = m → f.locked = none → f.entered = [] → (doReturn e (T.setTop f) acts (some (.int z))).1 = T.setFrames fs) : Steps p.tables e below (T.setTop (mkF m pc Ls (.int z :: rest))) (T.setFrames fs) := by
  have hm' : T.vm.method? m = some meth := X.method'
  have hn : narrow .int (.int z) = .int z := rfl
  show Steps p.tables e below (T.setTop { method := m, pc := pc, locals := Ls, stack := _ :: rest, locked := none }) _
  jvm_step X.here [X.here.top, hx, hd, hm', hret, hn]
  first | (intro acts; rw [hl _ acts rfl rfl rfl]) | rw [hl _ _ rfl rfl rfl]
  exact Steps.refl _
end New
end Jvm.RoadKit
namespace Jvm.Pilot.@@N@@
open Jvm Jvm.ClassFile Sem Op Lib Jvm.Free Jvm.Stand Jvm.LawKit Jvm.RoadKit Bundle Jvm.Pilot.@@N@@.Jvm.D
theorem d1_0 : decode jdk_29_method_69_code 0 = .ok (.iload_n 0, 1) := by decide +kernel
theorem d1_1 : decode jdk_29_method_69_code 1 = .ok (.iload_n 1, 1) := by decide +kernel
theorem d1_2 : decode jdk_29_method_69_code 2 = .ok (.if_icmp .gt 7, 3) := by decide +kernel
theorem d1_9 : decode jdk_29_method_69_code 9 = .ok (.iload_n 1, 1) := by decide +kernel
theorem d1_5 : decode jdk_29_method_69_code 5 = .ok (.iload_n 0, 1) := by decide +kernel
theorem d1_6 : decode jdk_29_method_69_code 6 = .ok (.goto 4, 3) := by decide +kernel
theorem ef_1 (m : MethodId) (x0 : Int32) (x1 : Int32) : entryFrame m #[(.int x0), (.int x1)] 2 = mkF m 0 #[.val (.int x0), .val (.int x1)] [] := by first | (simp [entryFrame, mkF, argsToLocals, Value.category]; done) | rfl
def f1 (p0 : Int32) (p1 : Int32) : Int32 := (let j3 : Int32 := (if p1 < p0 then p1 else p0); j3)
def Q1 (Z : State) (p0 : Int32) (p1 : Int32) (h0 : Heap) (n0 : Nat) (v : Option Value) (h : Heap) (L : List Loc) : Prop := v = some (.int (f1 p0 p1)) ∧ Fr n0 L ∧ h = h0
theorem d1_10 : decode jdk_29_method_69_code 10 = .ok (.ireturn, 1) := by decide +kernel
set_option maxRecDepth 65536 in
set_option maxHeartbeats 40000000 in
theorem rm1 (l : Launch) (Z : State) (aw : Array Value) (hw : ∀ d ∈ tables_1, d.before aw Z = true) (ws : List Jvm.Cond) (p0 : Int32) (p1 : Int32) (h0 : Heap) (n0 : Nat) (Z0 : n0 ≤ h0.size) :
    MetFree l (⟨"java/lang/Math", "min", "(II)I"⟩ : MethodName) (head1 (Jvm.Cond.code (⟨"java/lang/Math", "min", "(II)I"⟩ : MethodName) jdk_29_method_69_code 2 (some .int) :: ws) ({ frames := 0, cells := 0, slots := 0, locals := 0 } : Room)) (fun a U => a = #[(.int p0), (.int p1)] ∧ Z.Warmed39 U.vm ∧ U.heap = h0) (fun _ _ _ _ _ => True) (fun _ U o U' => ∃ v L, o = .returned v ∧ Q1 Z p0 p1 h0 n0 v U'.heap L ∧ FrameEnd U o U' L ({ frames := 0, cells := 0, slots := 0, locals := 0 } : Room).cells ({ frames := 0, cells := 0, slots := 0, locals := 0 } : Room).slots) := by
  refine MetFree.of_bodySF (Jvm.Free.JP.mathPlain rfl (by decide +kernel)) hisR ?_
  intro p e s m args below meth c s₁ Bd hml0 hP hK
  obtain ⟨rfl, hZ, hh⟩ := hP
  have hx := Bd.exec
  have hby := Bd.bytes
  have hml : c.maxLocals = 2 := hml0
  have hown : s.vm.findClass "java/lang/Math" = some m.cls := findClass_of_methodNamed Bd.named
  have hnm := (name_of_methodNamed Bd.named Bd.method).1
  have X0 : Stand p l e ({ frames := 0, cells := 0, slots := 0, locals := 0 } : Room) s m #[(.int p0), (.int p1)] below meth c s₁ [] 0 0 := Stand.of_body Bd
  have e0 : s₁.heap = h0 := by rw [← hh, Bd.state]; rfl
  have N0 := Fr.nil n0
  have pre0 : ∀ t, Steps p.tables e below (s₁.setTop (mkF m 0 #[.val (.int p0), .val (.int p1)] [])) t → Steps p.tables e below (s₁.setTop (entryFrame m #[(.int p0), (.int p1)] 2)) t := fun t k => castTop (ef_1 m p0 p1) k
  have pre1 : ∀ t, Steps p.tables e below (s₁.setTop (mkF m 2 #[.val (.int p0), .val (.int p1)] [(.int p1), (.int p0)])) t → Steps p.tables e below (s₁.setTop (entryFrame m #[(.int p0), (.int p1)] 2)) t := fun t k => pre0 t (by
    show Steps p.tables e below (s₁.setTop (mkF m 0 #[.val (.int p0), .val (.int p1)] [])) _
    refine XS.iloadN X0.here hx rfl (hb hby d1_0) rfl ?_
    show Steps p.tables e below (s₁.setTop (mkF m 1 #[.val (.int p0), .val (.int p1)] [(.int p0)])) _
    refine XS.iloadN X0.here hx rfl (hb hby d1_1) rfl ?_
    exact k)
  obtain ⟨j3, hj3, pre4⟩ : ∃ (j3 : Int32), j3 = (if p1 < p0 then p1 else p0) ∧ ∀ t, Steps p.tables e below (s₁.setTop (mkF m 10 #[.val (.int p0), .val (.int p1)] [(.int j3)])) t → Steps p.tables e below (s₁.setTop (entryFrame m #[(.int p0), (.int p1)] 2)) t := by
    by_cases hc2 : p1 < p0
    · exact ⟨p1, (by rw [if_pos hc2]), fun t k => pre1 t (by
        show Steps p.tables e below (s₁.setTop (mkF m 2 #[.val (.int p0), .val (.int p1)] [(.int p1), (.int p0)])) _
        refine XS.icmpYes X0.here hx rfl (pc0 := 2) (pc' := 9) rfl (hb hby d1_2) rfl (tlt hc2).2.2.1 (by decide) (by decide) ?_
        show Steps p.tables e below (s₁.setTop (mkF m 9 #[.val (.int p0), .val (.int p1)] [])) _
        refine XS.iloadN X0.here hx rfl (hb hby d1_9) rfl ?_
        exact k)⟩
    · exact ⟨p0, (by rw [if_neg hc2]), fun t k => pre1 t (by
        show Steps p.tables e below (s₁.setTop (mkF m 2 #[.val (.int p0), .val (.int p1)] [(.int p1), (.int p0)])) _
        refine XS.icmpNo X0.here hx rfl (hb hby d1_2) rfl (flt hc2).2.2.1 ?_
        show Steps p.tables e below (s₁.setTop (mkF m 5 #[.val (.int p0), .val (.int p1)] [])) _
        refine XS.iloadN X0.here hx rfl (hb hby d1_5) rfl ?_
        show Steps p.tables e below (s₁.setTop (mkF m 6 #[.val (.int p0), .val (.int p1)] [(.int p0)])) _
        refine XS.goto X0.here hx rfl (pc0 := 6) (pc' := 10) rfl (hb hby d1_6) (by decide) (by decide) ?_
        exact k)⟩
  obtain ⟨fs, hr, hrun, hended, hW, hsame⟩ := X0.leave (v := some (.int j3)) (fun h => by rw [Bd.returns] at h; cases h)
  refine ⟨_, _, pre4 _ ?_, hrun, hended, _, _, rfl, ?_, ⟨_, rfl⟩, hW, hsame.mono (by decide) (by decide)⟩
  · show Steps p.tables e below (s₁.setTop (mkF m 10 #[.val (.int p0), .val (.int p1)] [(.int j3)])) _
    exact retI X0 hx Bd.returns (hb hby d1_10) hr
  · show Q1 Z p0 p1 h0 n0 _ s₁.heap _
    rw [e0]
    exact ⟨congrArg (fun z => some (Value.int z)) (by subst hj3; rfl), N0, rfl⟩
theorem d2_0 : decode jdk_29_method_65_code 0 = .ok (.iload_n 0, 1) := by decide +kernel
theorem d2_1 : decode jdk_29_method_65_code 1 = .ok (.iload_n 1, 1) := by decide +kernel
theorem d2_2 : decode jdk_29_method_65_code 2 = .ok (.if_icmp .lt 7, 3) := by decide +kernel
theorem d2_9 : decode jdk_29_method_65_code 9 = .ok (.iload_n 1, 1) := by decide +kernel
theorem d2_5 : decode jdk_29_method_65_code 5 = .ok (.iload_n 0, 1) := by decide +kernel
theorem d2_6 : decode jdk_29_method_65_code 6 = .ok (.goto 4, 3) := by decide +kernel
theorem ef_2 (m : MethodId) (x0 : Int32) (x1 : Int32) : entryFrame m #[(.int x0), (.int x1)] 2 = mkF m 0 #[.val (.int x0), .val (.int x1)] [] := by first | (simp [entryFrame, mkF, argsToLocals, Value.category]; done) | rfl
def f2 (p0 : Int32) (p1 : Int32) : Int32 := (let j3 : Int32 := (if p0 < p1 then p1 else p0); j3)
def Q2 (Z : State) (p0 : Int32) (p1 : Int32) (h0 : Heap) (n0 : Nat) (v : Option Value) (h : Heap) (L : List Loc) : Prop := v = some (.int (f2 p0 p1)) ∧ Fr n0 L ∧ h = h0
theorem d2_10 : decode jdk_29_method_65_code 10 = .ok (.ireturn, 1) := by decide +kernel
set_option maxRecDepth 65536 in
set_option maxHeartbeats 40000000 in
theorem rm2 (l : Launch) (Z : State) (aw : Array Value) (hw : ∀ d ∈ tables_1, d.before aw Z = true) (ws : List Jvm.Cond) (p0 : Int32) (p1 : Int32) (h0 : Heap) (n0 : Nat) (Z0 : n0 ≤ h0.size) :
    MetFree l (⟨"java/lang/Math", "max", "(II)I"⟩ : MethodName) (head1 (Jvm.Cond.code (⟨"java/lang/Math", "max", "(II)I"⟩ : MethodName) jdk_29_method_65_code 2 (some .int) :: ws) ({ frames := 0, cells := 0, slots := 0, locals := 0 } : Room)) (fun a U => a = #[(.int p0), (.int p1)] ∧ Z.Warmed39 U.vm ∧ U.heap = h0) (fun _ _ _ _ _ => True) (fun _ U o U' => ∃ v L, o = .returned v ∧ Q2 Z p0 p1 h0 n0 v U'.heap L ∧ FrameEnd U o U' L ({ frames := 0, cells := 0, slots := 0, locals := 0 } : Room).cells ({ frames := 0, cells := 0, slots := 0, locals := 0 } : Room).slots) := by
  refine MetFree.of_bodySF (Jvm.Free.JP.mathPlain rfl (by decide +kernel)) hisR ?_
  intro p e s m args below meth c s₁ Bd hml0 hP hK
  obtain ⟨rfl, hZ, hh⟩ := hP
  have hx := Bd.exec
  have hby := Bd.bytes
  have hml : c.maxLocals = 2 := hml0
  have hown : s.vm.findClass "java/lang/Math" = some m.cls := findClass_of_methodNamed Bd.named
  have hnm := (name_of_methodNamed Bd.named Bd.method).1
  have X0 : Stand p l e ({ frames := 0, cells := 0, slots := 0, locals := 0 } : Room) s m #[(.int p0), (.int p1)] below meth c s₁ [] 0 0 := Stand.of_body Bd
  have e0 : s₁.heap = h0 := by rw [← hh, Bd.state]; rfl
  have N0 := Fr.nil n0
  have pre0 : ∀ t, Steps p.tables e below (s₁.setTop (mkF m 0 #[.val (.int p0), .val (.int p1)] [])) t → Steps p.tables e below (s₁.setTop (entryFrame m #[(.int p0), (.int p1)] 2)) t := fun t k => castTop (ef_2 m p0 p1) k
  have pre1 : ∀ t, Steps p.tables e below (s₁.setTop (mkF m 2 #[.val (.int p0), .val (.int p1)] [(.int p1), (.int p0)])) t → Steps p.tables e below (s₁.setTop (entryFrame m #[(.int p0), (.int p1)] 2)) t := fun t k => pre0 t (by
    show Steps p.tables e below (s₁.setTop (mkF m 0 #[.val (.int p0), .val (.int p1)] [])) _
    refine XS.iloadN X0.here hx rfl (hb hby d2_0) rfl ?_
    show Steps p.tables e below (s₁.setTop (mkF m 1 #[.val (.int p0), .val (.int p1)] [(.int p0)])) _
    refine XS.iloadN X0.here hx rfl (hb hby d2_1) rfl ?_
    exact k)
  obtain ⟨j3, hj3, pre4⟩ : ∃ (j3 : Int32), j3 = (if p0 < p1 then p1 else p0) ∧ ∀ t, Steps p.tables e below (s₁.setTop (mkF m 10 #[.val (.int p0), .val (.int p1)] [(.int j3)])) t → Steps p.tables e below (s₁.setTop (entryFrame m #[(.int p0), (.int p1)] 2)) t := by
    by_cases hc2 : p0 < p1
    · exact ⟨p1, (by rw [if_pos hc2]), fun t k => pre1 t (by
        show Steps p.tables e below (s₁.setTop (mkF m 2 #[.val (.int p0), .val (.int p1)] [(.int p1), (.int p0)])) _
        refine XS.icmpYes X0.here hx rfl (pc0 := 2) (pc' := 9) rfl (hb hby d2_2) rfl (tlt hc2).1 (by decide) (by decide) ?_
        show Steps p.tables e below (s₁.setTop (mkF m 9 #[.val (.int p0), .val (.int p1)] [])) _
        refine XS.iloadN X0.here hx rfl (hb hby d2_9) rfl ?_
        exact k)⟩
    · exact ⟨p0, (by rw [if_neg hc2]), fun t k => pre1 t (by
        show Steps p.tables e below (s₁.setTop (mkF m 2 #[.val (.int p0), .val (.int p1)] [(.int p1), (.int p0)])) _
        refine XS.icmpNo X0.here hx rfl (hb hby d2_2) rfl (flt hc2).1 ?_
        show Steps p.tables e below (s₁.setTop (mkF m 5 #[.val (.int p0), .val (.int p1)] [])) _
        refine XS.iloadN X0.here hx rfl (hb hby d2_5) rfl ?_
        show Steps p.tables e below (s₁.setTop (mkF m 6 #[.val (.int p0), .val (.int p1)] [(.int p0)])) _
        refine XS.goto X0.here hx rfl (pc0 := 6) (pc' := 10) rfl (hb hby d2_6) (by decide) (by decide) ?_
        exact k)⟩
  obtain ⟨fs, hr, hrun, hended, hW, hsame⟩ := X0.leave (v := some (.int j3)) (fun h => by rw [Bd.returns] at h; cases h)
  refine ⟨_, _, pre4 _ ?_, hrun, hended, _, _, rfl, ?_, ⟨_, rfl⟩, hW, hsame.mono (by decide) (by decide)⟩
  · show Steps p.tables e below (s₁.setTop (mkF m 10 #[.val (.int p0), .val (.int p1)] [(.int j3)])) _
    exact retI X0 hx Bd.returns (hb hby d2_10) hr
  · show Q2 Z p0 p1 h0 n0 _ s₁.heap _
    rw [e0]
    exact ⟨congrArg (fun z => some (Value.int z)) (by subst hj3; rfl), N0, rfl⟩
theorem pn_5 : plainName "java/lang/Record" = true := by first | (simp [plainName, overriddenIn]; done) | decide +kernel
theorem d4_0 : decode jdk_30_method_1_code 0 = .ok (.aload_n 0, 1) := by decide +kernel
theorem d4_1 : decode jdk_30_method_1_code 1 = .ok (.invokespecial 1, 3) := by decide +kernel
theorem ef_4 (m : MethodId) (x0 : Addr) : entryFrame m #[(.ref x0)] 1 = mkF m 0 #[.val (.ref x0)] [] := by first | (simp [entryFrame, mkF, argsToLocals, Value.category]; done) | rfl
def Q4 (Z : State) (a0 : Addr) (h0 : Heap) (n0 : Nat) (v : Option Value) (h : Heap) (L : List Loc) : Prop := v = none ∧ Fr n0 L ∧ h = h0
theorem d4_4 : decode jdk_30_method_1_code 4 = .ok (.return_, 1) := by decide +kernel
set_option maxRecDepth 65536 in
set_option maxHeartbeats 40000000 in
theorem rm4 (l : Launch) (Z : State) (aw : Array Value) (hw : ∀ d ∈ tables_1, d.before aw Z = true) (ws : List Jvm.Cond) (a0 : Addr) (h0 : Heap) (n0 : Nat) (Z0 : n0 ≤ h0.size) :
    MetFree l (⟨"java/lang/Record", "<init>", "()V"⟩ : MethodName) (head1 (Jvm.Cond.code (⟨"java/lang/Record", "<init>", "()V"⟩ : MethodName) jdk_30_method_1_code 1 none :: ws) ({ frames := 1, cells := 0, slots := 0, locals := 12 } : Room)) (fun a U => a = #[(.ref a0)] ∧ Z.Warmed39 U.vm ∧ U.heap = h0) (fun _ _ _ _ _ => True) (fun _ U o U' => ∃ v L, o = .returned v ∧ Q4 Z a0 h0 n0 v U'.heap L ∧ FrameEnd U o U' L ({ frames := 1, cells := 0, slots := 0, locals := 12 } : Room).cells ({ frames := 1, cells := 0, slots := 0, locals := 12 } : Room).slots) := by
  refine MetFree.of_bodySF (plainFor_of_name pn_5) hisR ?_
  intro p e s m args below meth c s₁ Bd hml0 hP hK
  obtain ⟨rfl, hZ, hh⟩ := hP
  have hx := Bd.exec
  have hby := Bd.bytes
  have hml : c.maxLocals = 1 := hml0
  have hown : s.vm.findClass "java/lang/Record" = some m.cls := findClass_of_methodNamed Bd.named
  have hnm := (name_of_methodNamed Bd.named Bd.method).1
  have X0 : Stand p l e ({ frames := 1, cells := 0, slots := 0, locals := 12 } : Room) s m #[(.ref a0)] below meth c s₁ [] 0 0 := Stand.of_body Bd
  have e0 : s₁.heap = h0 := by rw [← hh, Bd.state]; rfl
  have N0 := Fr.nil n0
  have pre0 : ∀ t, Steps p.tables e below (s₁.setTop (mkF m 0 #[.val (.ref a0)] [])) t → Steps p.tables e below (s₁.setTop (entryFrame m #[(.ref a0)] 1)) t := fun t k => castTop (ef_4 m a0) k
  have pre1 : ∀ t, Steps p.tables e below (s₁.setTop (mkF m 1 #[.val (.ref a0)] [(.ref a0)])) t → Steps p.tables e below (s₁.setTop (entryFrame m #[(.ref a0)] 1)) t := fun t k => pre0 t (by
    show Steps p.tables e below (s₁.setTop (mkF m 0 #[.val (.ref a0)] [])) _
    refine XS.aloadN X0.here hx rfl (hb hby d4_0) rfl rfl ?_
    exact k)
  obtain ⟨T2, X2, e2, st2⟩ := initO X0 hx hZ hown (hw _ (List.mem_of_getElem? (i := 19) rfl)) (hw _ (List.mem_of_getElem? (i := 20) rfl)) (hw _ (List.mem_of_getElem? (i := 21) rfl)) e0 (g := (mkF m 1 #[.val (.ref a0)] [(.ref a0)])) rfl (by rw [hml]; rfl) rfl (hb hby d4_1) (by decide) (W := 0) (by show 2 * 0 + _ ≤ _; exact Nat.le_of_eq rfl) (by decide)
  obtain ⟨fs, hr, hrun, hended, hW, hsame⟩ := X2.leave (v := none) (fun _ => rfl)
  refine ⟨_, _, pre1 _ ?_, hrun, hended, _, _, rfl, ?_, ⟨_, rfl⟩, hW, hsame.mono (by decide) (by decide)⟩
  · show Steps p.tables e below (s₁.setTop (mkF m 1 #[.val (.ref a0)] [(.ref a0)])) _
    refine st2 _ ?_
    show Steps p.tables e below (T2.setTop (mkF m 4 #[.val (.ref a0)] [])) _
    exact X2.returnOut hx Bd.returns (hb hby d4_4) hr
  · show Q4 Z a0 h0 n0 _ T2.heap _
    rw [e2]
    exact ⟨rfl, N0, rfl⟩
theorem pn_0 : plainName "com/example/adjacent_moments/adjacentmoments/store/CellRun" = true := by first | (simp [plainName, overriddenIn]; done) | decide +kernel
theorem d3_0 : decode prog_13_method_1_code 0 = .ok (.aload_n 0, 1) := by decide +kernel
theorem pd_2 : parseMethodDescriptor "()V" = some ⟨[], none⟩ := by decide +kernel
theorem d3_1 : decode prog_13_method_1_code 1 = .ok (.invokespecial 1, 3) := by decide +kernel
theorem d3_4 : decode prog_13_method_1_code 4 = .ok (.iload_n 1, 1) := by decide +kernel
theorem d3_5 : decode prog_13_method_1_code 5 = .ok (.ifCond .lt 8, 3) := by decide +kernel
theorem d3_8 : decode prog_13_method_1_code 8 = .ok (.iload_n 1, 1) := by decide +kernel
theorem d3_9 : decode prog_13_method_1_code 9 = .ok (.iload_n 2, 1) := by decide +kernel
theorem d3_10 : decode prog_13_method_1_code 10 = .ok (.if_icmp .le 18, 3) := by decide +kernel
theorem d3_28 : decode prog_13_method_1_code 28 = .ok (.aload_n 0, 1) := by decide +kernel
theorem d3_29 : decode prog_13_method_1_code 29 = .ok (.iload_n 1, 1) := by decide +kernel
theorem d3_30 : decode prog_13_method_1_code 30 = .ok (.putfield 16, 3) := by decide +kernel
theorem d3_33 : decode prog_13_method_1_code 33 = .ok (.aload_n 0, 1) := by decide +kernel
theorem d3_34 : decode prog_13_method_1_code 34 = .ok (.iload_n 2, 1) := by decide +kernel
theorem d3_35 : decode prog_13_method_1_code 35 = .ok (.putfield 22, 3) := by decide +kernel
theorem ef_3 (m : MethodId) (x0 : Addr) (x1 : Int32) (x2 : Int32) : entryFrame m #[(.ref x0), (.int x1), (.int x2)] 3 = mkF m 0 #[.val (.ref x0), .val (.int x1), .val (.int x2)] [] := by first | (simp [entryFrame, mkF, argsToLocals, Value.category]; done) | rfl
def f3_a0_lo (p1 : Int32) (p2 : Int32) : Int32 := p1
def f3_a0_hi (p1 : Int32) (p2 : Int32) : Int32 := p2
def Q3 (Z : State) (a0 : Addr) (p1 : Int32) (p2 : Int32) (u_lo_a0 : Value) (u_hi_a0 : Value) (h0 : Heap) (n0 : Nat) (v : Option Value) (h : Heap) (L : List Loc) : Prop := v = none ∧ Fr n0 L ∧ Keep h0 h [a0] ∧ Exa Z h a0 "com/example/adjacent_moments/adjacentmoments/store/CellRun" ∧ Fld Z h a0 "com/example/adjacent_moments/adjacentmoments/store/CellRun" "lo" "I" (.int (f3_a0_lo p1 p2)) ∧ Fld Z h a0 "com/example/adjacent_moments/adjacentmoments/store/CellRun" "hi" "I" (.int (f3_a0_hi p1 p2))
theorem d3_38 : decode prog_13_method_1_code 38 = .ok (.return_, 1) := by decide +kernel
set_option maxRecDepth 65536 in
set_option maxHeartbeats 40000000 in
theorem rm3 (l : Launch) (Z : State) (aw : Array Value) (hw : ∀ d ∈ tables_1, d.before aw Z = true) (ws : List Jvm.Cond) (a0 : Addr) (p1 : Int32) (p2 : Int32) (u_lo_a0 : Value) (u_hi_a0 : Value) (h0 : Heap) (n0 : Nat) (Z0 : n0 ≤ h0.size) (hr1 : ¬ (p1 < (0 : Int32))) (hr2 : ¬ (p2 < p1)) (E_a0 : Exa Z h0 a0 "com/example/adjacent_moments/adjacentmoments/store/CellRun") (F_lo_a0 : Fld Z h0 a0 "com/example/adjacent_moments/adjacentmoments/store/CellRun" "lo" "I" u_lo_a0) (g_a0 : n0 ≤ a0) (F_hi_a0 : Fld Z h0 a0 "com/example/adjacent_moments/adjacentmoments/store/CellRun" "hi" "I" u_hi_a0) :
    MetFree l (⟨"com/example/adjacent_moments/adjacentmoments/store/CellRun", "<init>", "(II)V"⟩ : MethodName) (head1 (Jvm.Cond.code (⟨"com/example/adjacent_moments/adjacentmoments/store/CellRun", "<init>", "(II)V"⟩ : MethodName) prog_13_method_1_code 3 none :: ws) ({ frames := 2, cells := 0, slots := 0, locals := 24 } : Room)) (fun a U => a = #[(.ref a0), (.int p1), (.int p2)] ∧ Z.Warmed39 U.vm ∧ U.heap = h0) (fun _ _ _ _ _ => True) (fun _ U o U' => ∃ v L, o = .returned v ∧ Q3 Z a0 p1 p2 u_lo_a0 u_hi_a0 h0 n0 v U'.heap L ∧ FrameEnd U o U' L ({ frames := 2, cells := 0, slots := 0, locals := 24 } : Room).cells ({ frames := 2, cells := 0, slots := 0, locals := 24 } : Room).slots) := by
  refine MetFree.of_bodySF (plainFor_of_name pn_0) hisR ?_
  intro p e s m args below meth c s₁ Bd hml0 hP hK
  obtain ⟨rfl, hZ, hh⟩ := hP
  have hx := Bd.exec
  have hby := Bd.bytes
  have hml : c.maxLocals = 3 := hml0
  have hown : s.vm.findClass "com/example/adjacent_moments/adjacentmoments/store/CellRun" = some m.cls := findClass_of_methodNamed Bd.named
  have hnm := (name_of_methodNamed Bd.named Bd.method).1
  have X0 : Stand p l e ({ frames := 2, cells := 0, slots := 0, locals := 24 } : Room) s m #[(.ref a0), (.int p1), (.int p2)] below meth c s₁ [] 0 0 := Stand.of_body Bd
  have e0 : s₁.heap = h0 := by rw [← hh, Bd.state]; rfl
  have N0 := Fr.nil n0
  have pre0 : ∀ t, Steps p.tables e below (s₁.setTop (mkF m 0 #[.val (.ref a0), .val (.int p1), .val (.int p2)] [])) t → Steps p.tables e below (s₁.setTop (entryFrame m #[(.ref a0), (.int p1), (.int p2)] 3)) t := fun t k => castTop (ef_3 m a0 p1 p2) k
  have pre1 : ∀ t, Steps p.tables e below (s₁.setTop (mkF m 1 #[.val (.ref a0), .val (.int p1), .val (.int p2)] [(.ref a0)])) t → Steps p.tables e below (s₁.setTop (entryFrame m #[(.ref a0), (.int p1), (.int p2)] 3)) t := fun t k => pre0 t (by
    show Steps p.tables e below (s₁.setTop (mkF m 0 #[.val (.ref a0), .val (.int p1), .val (.int p2)] [])) _
    refine XS.aloadN X0.here hx rfl (hb hby d3_0) rfl rfl ?_
    exact k)
  obtain ⟨_, _, ⟨T2, L2, k2, n2⟩, -, X2, ⟨Lc2, hQ2, l2, y2, z2⟩, st2⟩ := X0.specialBack hx (y := (⟨"java/lang/Record", "<init>", "()V"⟩ : MethodName)) rfl hown (mvT hZ (hw _ (List.mem_of_getElem? (i := 14) rfl))) (mvT hZ (hw _ (List.mem_of_getElem? (i := 15) rfl))) (mvT hZ (hw _ (List.mem_of_getElem? (i := 18) rfl))) (by decide) (backOf (W := 0) (rm4 l Z aw hw [] a0 h0 n0 Z0) hZ (hw _ (List.mem_of_getElem? (i := 18) rfl)) (hw _ (List.mem_of_getElem? (i := 17) rfl)) (by decide) (by decide)) (g := (mkF m 1 #[.val (.ref a0), .val (.int p1), .val (.int p2)] [(.ref a0)])) rfl (by rw [hml]; rfl) (Steps.refl _) (a := a0) (argsL := []) (rest := []) (lenOf pd_2 rfl) rfl (by show 2 * 0 + _ ≤ _; exact Nat.le_of_eq rfl) (hb hby d3_1) (fun _ _ => ⟨rfl, e0, (by decide : 0 + 0 ≤ _), (by decide : 0 + 0 ≤ _)⟩)
  dsimp only [Pt.U, Pt.locs, Pt.cells, Pt.slots] at X2 l2 y2 z2 st2 hQ2
  subst l2 y2 z2
  obtain ⟨rfl, N2q, e2⟩ := hQ2
  have N2 := Fr.app N0 N2q
  have pre3 : ∀ t, Steps p.tables e below (T2.setTop (mkF m 30 #[.val (.ref a0), .val (.int p1), .val (.int p2)] [(.int p1), (.ref a0)])) t → Steps p.tables e below (s₁.setTop (entryFrame m #[(.ref a0), (.int p1), (.int p2)] 3)) t := fun t k => pre1 t (by
    show Steps p.tables e below (s₁.setTop (mkF m 1 #[.val (.ref a0), .val (.int p1), .val (.int p2)] [(.ref a0)])) _
    refine st2.trans ?_
    show Steps p.tables e below (T2.setTop (mkF m 4 #[.val (.ref a0), .val (.int p1), .val (.int p2)] [])) _
    refine XS.iloadN X2.here hx rfl (hb hby d3_4) rfl ?_
    show Steps p.tables e below (T2.setTop (mkF m 5 #[.val (.ref a0), .val (.int p1), .val (.int p2)] [(.int p1)])) _
    refine XS.ifNo X2.here hx rfl (hb hby d3_5) rfl ((if0 _ _).trans (flt (hr1 : ¬ (p1 < (0 : Int32)))).1) ?_
    show Steps p.tables e below (T2.setTop (mkF m 8 #[.val (.ref a0), .val (.int p1), .val (.int p2)] [])) _
    refine XS.iloadN X2.here hx rfl (hb hby d3_8) rfl ?_
    show Steps p.tables e below (T2.setTop (mkF m 9 #[.val (.ref a0), .val (.int p1), .val (.int p2)] [(.int p1)])) _
    refine XS.iloadN X2.here hx rfl (hb hby d3_9) rfl ?_
    show Steps p.tables e below (T2.setTop (mkF m 10 #[.val (.ref a0), .val (.int p1), .val (.int p2)] [(.int p2), (.int p1)])) _
    refine XS.icmpYes X2.here hx rfl (pc0 := 10) (pc' := 28) rfl (hb hby d3_10) rfl (flt (hr2 : ¬ (p2 < p1))).2.2.2 (by decide) (by decide) ?_
    show Steps p.tables e below (T2.setTop (mkF m 28 #[.val (.ref a0), .val (.int p1), .val (.int p2)] [])) _
    refine XS.aloadN X2.here hx rfl (hb hby d3_28) rfl rfl ?_
    show Steps p.tables e below (T2.setTop (mkF m 29 #[.val (.ref a0), .val (.int p1), .val (.int p2)] [(.ref a0)])) _
    refine XS.iloadN X2.here hx rfl (hb hby d3_29) rfl ?_
    exact k)
  obtain ⟨T4, h4, X4, e4, W4, st4⟩ := putF X2 hx hZ hown (host := "") (Or.inl (hw _ (List.mem_of_getElem? (i := 22) rfl))) Via.refl e2 F_lo_a0 E_a0 (Or.inr ⟨(hw _ (List.mem_of_getElem? (i := 23) rfl)), rfl, hnm⟩) (hw _ (List.mem_of_getElem? (i := 9) rfl)) (ty := .int) (by decide) rfl rfl (g := (mkF m 30 #[.val (.ref a0), .val (.int p1), .val (.int p2)] [(.int p1), (.ref a0)])) rfl rfl (hb hby d3_30)
  have E_a0_4 := E_a0.wr W4
  have F_lo_a0_4 := F_lo_a0.same W4
  have F_hi_a0_4 := F_hi_a0.other W4 (Or.inr (slot_ne (Or.inr (hw _ (List.mem_of_getElem? (i := 25) rfl))) (Or.inr (hw _ (List.mem_of_getElem? (i := 23) rfl))) (by decide) (t := .int) (t' := .int) (by decide) (by decide)))
  have K4 : Keep h0 h4 [a0] := (Keep.refl h0 [a0]).wr W4 (Or.inl (by simp))
  have N4 := Fr.snoc X4 N2 g_a0
  have Z4 : n0 ≤ h4.size := (Nat.le_trans Z0 (Nat.le_of_eq W4.size.symm))
  have pre5 : ∀ t, Steps p.tables e below (T4.setTop (mkF m 35 #[.val (.ref a0), .val (.int p1), .val (.int p2)] [(.int p2), (.ref a0)])) t → Steps p.tables e below (s₁.setTop (entryFrame m #[(.ref a0), (.int p1), (.int p2)] 3)) t := fun t k => pre3 t (by
    show Steps p.tables e below (T2.setTop (mkF m 30 #[.val (.ref a0), .val (.int p1), .val (.int p2)] [(.int p1), (.ref a0)])) _
    refine st4 _ ?_
    show Steps p.tables e below (T4.setTop (mkF m 33 #[.val (.ref a0), .val (.int p1), .val (.int p2)] [])) _
    refine XS.aloadN X4.here hx rfl (hb hby d3_33) rfl rfl ?_
    show Steps p.tables e below (T4.setTop (mkF m 34 #[.val (.ref a0), .val (.int p1), .val (.int p2)] [(.ref a0)])) _
    refine XS.iloadN X4.here hx rfl (hb hby d3_34) rfl ?_
    exact k)
  obtain ⟨T6, h6, X6, e6, W6, st6⟩ := putF X4 hx hZ hown (host := "") (Or.inl (hw _ (List.mem_of_getElem? (i := 24) rfl))) Via.refl e4 F_hi_a0_4 E_a0_4 (Or.inr ⟨(hw _ (List.mem_of_getElem? (i := 25) rfl)), rfl, hnm⟩) (hw _ (List.mem_of_getElem? (i := 9) rfl)) (ty := .int) (by decide) rfl rfl (g := (mkF m 35 #[.val (.ref a0), .val (.int p1), .val (.int p2)] [(.int p2), (.ref a0)])) rfl rfl (hb hby d3_35)
  have E_a0_6 := E_a0_4.wr W6
  have F_lo_a0_6 := F_lo_a0_4.other W6 (Or.inr (slot_ne (Or.inr (hw _ (List.mem_of_getElem? (i := 23) rfl))) (Or.inr (hw _ (List.mem_of_getElem? (i := 25) rfl))) (by decide) (t := .int) (t' := .int) (by decide) (by decide)))
  have F_hi_a0_6 := F_hi_a0_4.same W6
  have K6 : Keep h0 h6 [a0] := K4.wr W6 (Or.inl (by simp))
  have N6 := Fr.snoc X6 N4 g_a0
  have Z6 : n0 ≤ h6.size := (Nat.le_trans Z4 (Nat.le_of_eq W6.size.symm))
  obtain ⟨fs, hr, hrun, hended, hW, hsame⟩ := X6.leave (v := none) (fun _ => rfl)
  refine ⟨_, _, pre5 _ ?_, hrun, hended, _, _, rfl, ?_, ⟨_, rfl⟩, hW, hsame.mono (by decide) (by decide)⟩
  · show Steps p.tables e below (T4.setTop (mkF m 35 #[.val (.ref a0), .val (.int p1), .val (.int p2)] [(.int p2), (.ref a0)])) _
    refine st6 _ ?_
    show Steps p.tables e below (T6.setTop (mkF m 38 #[.val (.ref a0), .val (.int p1), .val (.int p2)] [])) _
    exact X6.returnOut hx Bd.returns (hb hby d3_38) hr
  · show Q3 Z a0 p1 p2 u_lo_a0 u_hi_a0 h0 n0 _ T6.heap _
    rw [e6]
    have hF_a0_lo : p1 = f3_a0_lo p1 p2 := (by rfl)
    have hF_a0_hi : p2 = f3_a0_hi p1 p2 := (by rfl)
    exact ⟨rfl, N6, K6, E_a0_6, (hF_a0_lo ▸ F_lo_a0_6), (hF_a0_hi ▸ F_hi_a0_6)⟩
theorem pn_1 : plainName "com/example/adjacent_moments/adjacentmoments/store/KeyRanges$Range" = true := by first | (simp [plainName, overriddenIn]; done) | decide +kernel
theorem d6_0 : decode prog_24_method_1_code 0 = .ok (.aload_n 0, 1) := by decide +kernel
theorem d6_1 : decode prog_24_method_1_code 1 = .ok (.invokespecial 1, 3) := by decide +kernel
theorem d6_4 : decode prog_24_method_1_code 4 = .ok (.aload_n 0, 1) := by decide +kernel
theorem d6_5 : decode prog_24_method_1_code 5 = .ok (.iload_n 1, 1) := by decide +kernel
theorem d6_6 : decode prog_24_method_1_code 6 = .ok (.putfield 7, 3) := by decide +kernel
theorem d6_9 : decode prog_24_method_1_code 9 = .ok (.aload_n 0, 1) := by decide +kernel
theorem d6_10 : decode prog_24_method_1_code 10 = .ok (.aload_n 2, 1) := by decide +kernel
theorem d6_11 : decode prog_24_method_1_code 11 = .ok (.putfield 13, 3) := by decide +kernel
theorem ef_6 (m : MethodId) (x0 : Addr) (x1 : Int32) (x2 : Addr) : entryFrame m #[(.ref x0), (.int x1), (.ref x2)] 3 = mkF m 0 #[.val (.ref x0), .val (.int x1), .val (.ref x2)] [] := by first | (simp [entryFrame, mkF, argsToLocals, Value.category]; done) | rfl
def f6_a0_bin (p1 : Int32) (a2 : Addr) : Int32 := p1
def f6_a0_cells (p1 : Int32) (a2 : Addr) : Addr := a2
def Q6 (Z : State) (a0 : Addr) (p1 : Int32) (a2 : Addr) (u_bin_a0 : Value) (u_cells_a0 : Value) (h0 : Heap) (n0 : Nat) (v : Option Value) (h : Heap) (L : List Loc) : Prop := v = none ∧ Fr n0 L ∧ Keep h0 h [a0] ∧ Exa Z h a0 "com/example/adjacent_moments/adjacentmoments/store/KeyRanges$Range" ∧ Fld Z h a0 "com/example/adjacent_moments/adjacentmoments/store/KeyRanges$Range" "bin" "I" (.int (f6_a0_bin p1 a2)) ∧ Fld Z h a0 "com/example/adjacent_moments/adjacentmoments/store/KeyRanges$Range" "cells" "Lcom/example/adjacent_moments/adjacentmoments/store/CellRun;" (.ref (f6_a0_cells p1 a2))
theorem d6_14 : decode prog_24_method_1_code 14 = .ok (.return_, 1) := by decide +kernel
set_option maxRecDepth 65536 in
set_option maxHeartbeats 40000000 in
theorem rm6 (l : Launch) (Z : State) (aw : Array Value) (hw : ∀ d ∈ tables_1, d.before aw Z = true) (ws : List Jvm.Cond) (a0 : Addr) (p1 : Int32) (a2 : Addr) (u_bin_a0 : Value) (u_cells_a0 : Value) (h0 : Heap) (n0 : Nat) (Z0 : n0 ≤ h0.size) (E_a0 : Exa Z h0 a0 "com/example/adjacent_moments/adjacentmoments/store/KeyRanges$Range") (F_bin_a0 : Fld Z h0 a0 "com/example/adjacent_moments/adjacentmoments/store/KeyRanges$Range" "bin" "I" u_bin_a0) (g_a0 : n0 ≤ a0) (F_cells_a0 : Fld Z h0 a0 "com/example/adjacent_moments/adjacentmoments/store/KeyRanges$Range" "cells" "Lcom/example/adjacent_moments/adjacentmoments/store/CellRun;" u_cells_a0) :
    MetFree l (⟨"com/example/adjacent_moments/adjacentmoments/store/KeyRanges$Range", "<init>", "(ILcom/example/adjacent_moments/adjacentmoments/store/CellRun;)V"⟩ : MethodName) (head1 (Jvm.Cond.code (⟨"com/example/adjacent_moments/adjacentmoments/store/KeyRanges$Range", "<init>", "(ILcom/example/adjacent_moments/adjacentmoments/store/CellRun;)V"⟩ : MethodName) prog_24_method_1_code 3 none :: ws) ({ frames := 2, cells := 0, slots := 0, locals := 24 } : Room)) (fun a U => a = #[(.ref a0), (.int p1), (.ref a2)] ∧ Z.Warmed39 U.vm ∧ U.heap = h0) (fun _ _ _ _ _ => True) (fun _ U o U' => ∃ v L, o = .returned v ∧ Q6 Z a0 p1 a2 u_bin_a0 u_cells_a0 h0 n0 v U'.heap L ∧ FrameEnd U o U' L ({ frames := 2, cells := 0, slots := 0, locals := 24 } : Room).cells ({ frames := 2, cells := 0, slots := 0, locals := 24 } : Room).slots) := by
  refine MetFree.of_bodySF (plainFor_of_name pn_1) hisR ?_
  intro p e s m args below meth c s₁ Bd hml0 hP hK
  obtain ⟨rfl, hZ, hh⟩ := hP
  have hx := Bd.exec
  have hby := Bd.bytes
  have hml : c.maxLocals = 3 := hml0
  have hown : s.vm.findClass "com/example/adjacent_moments/adjacentmoments/store/KeyRanges$Range" = some m.cls := findClass_of_methodNamed Bd.named
  have hnm := (name_of_methodNamed Bd.named Bd.method).1
  have X0 : Stand p l e ({ frames := 2, cells := 0, slots := 0, locals := 24 } : Room) s m #[(.ref a0), (.int p1), (.ref a2)] below meth c s₁ [] 0 0 := Stand.of_body Bd
  have e0 : s₁.heap = h0 := by rw [← hh, Bd.state]; rfl
  have N0 := Fr.nil n0
  have pre0 : ∀ t, Steps p.tables e below (s₁.setTop (mkF m 0 #[.val (.ref a0), .val (.int p1), .val (.ref a2)] [])) t → Steps p.tables e below (s₁.setTop (entryFrame m #[(.ref a0), (.int p1), (.ref a2)] 3)) t := fun t k => castTop (ef_6 m a0 p1 a2) k
  have pre1 : ∀ t, Steps p.tables e below (s₁.setTop (mkF m 1 #[.val (.ref a0), .val (.int p1), .val (.ref a2)] [(.ref a0)])) t → Steps p.tables e below (s₁.setTop (entryFrame m #[(.ref a0), (.int p1), (.ref a2)] 3)) t := fun t k => pre0 t (by
    show Steps p.tables e below (s₁.setTop (mkF m 0 #[.val (.ref a0), .val (.int p1), .val (.ref a2)] [])) _
    refine XS.aloadN X0.here hx rfl (hb hby d6_0) rfl rfl ?_
    exact k)
  obtain ⟨_, _, ⟨T2, L2, k2, n2⟩, -, X2, ⟨Lc2, hQ2, l2, y2, z2⟩, st2⟩ := X0.specialBack hx (y := (⟨"java/lang/Record", "<init>", "()V"⟩ : MethodName)) rfl hown (mvT hZ (hw _ (List.mem_of_getElem? (i := 32) rfl))) (mvT hZ (hw _ (List.mem_of_getElem? (i := 15) rfl))) (mvT hZ (hw _ (List.mem_of_getElem? (i := 18) rfl))) (by decide) (backOf (W := 0) (rm4 l Z aw hw [] a0 h0 n0 Z0) hZ (hw _ (List.mem_of_getElem? (i := 18) rfl)) (hw _ (List.mem_of_getElem? (i := 17) rfl)) (by decide) (by decide)) (g := (mkF m 1 #[.val (.ref a0), .val (.int p1), .val (.ref a2)] [(.ref a0)])) rfl (by rw [hml]; rfl) (Steps.refl _) (a := a0) (argsL := []) (rest := []) (lenOf pd_2 rfl) rfl (by show 2 * 0 + _ ≤ _; exact Nat.le_of_eq rfl) (hb hby d6_1) (fun _ _ => ⟨rfl, e0, (by decide : 0 + 0 ≤ _), (by decide : 0 + 0 ≤ _)⟩)
  dsimp only [Pt.U, Pt.locs, Pt.cells, Pt.slots] at X2 l2 y2 z2 st2 hQ2
  subst l2 y2 z2
  obtain ⟨rfl, N2q, e2⟩ := hQ2
  have N2 := Fr.app N0 N2q
  have pre3 : ∀ t, Steps p.tables e below (T2.setTop (mkF m 6 #[.val (.ref a0), .val (.int p1), .val (.ref a2)] [(.int p1), (.ref a0)])) t → Steps p.tables e below (s₁.setTop (entryFrame m #[(.ref a0), (.int p1), (.ref a2)] 3)) t := fun t k => pre1 t (by
    show Steps p.tables e below (s₁.setTop (mkF m 1 #[.val (.ref a0), .val (.int p1), .val (.ref a2)] [(.ref a0)])) _
    refine st2.trans ?_
    show Steps p.tables e below (T2.setTop (mkF m 4 #[.val (.ref a0), .val (.int p1), .val (.ref a2)] [])) _
    refine XS.aloadN X2.here hx rfl (hb hby d6_4) rfl rfl ?_
    show Steps p.tables e below (T2.setTop (mkF m 5 #[.val (.ref a0), .val (.int p1), .val (.ref a2)] [(.ref a0)])) _
    refine XS.iloadN X2.here hx rfl (hb hby d6_5) rfl ?_
    exact k)
  obtain ⟨T4, h4, X4, e4, W4, st4⟩ := putF X2 hx hZ hown (host := "") (Or.inl (hw _ (List.mem_of_getElem? (i := 33) rfl))) Via.refl e2 F_bin_a0 E_a0 (Or.inr ⟨(hw _ (List.mem_of_getElem? (i := 34) rfl)), rfl, hnm⟩) (hw _ (List.mem_of_getElem? (i := 27) rfl)) (ty := .int) (by decide) rfl rfl (g := (mkF m 6 #[.val (.ref a0), .val (.int p1), .val (.ref a2)] [(.int p1), (.ref a0)])) rfl rfl (hb hby d6_6)
  have E_a0_4 := E_a0.wr W4
  have F_bin_a0_4 := F_bin_a0.same W4
  have F_cells_a0_4 := F_cells_a0.other W4 (Or.inr (slot_ne (Or.inr (hw _ (List.mem_of_getElem? (i := 36) rfl))) (Or.inr (hw _ (List.mem_of_getElem? (i := 34) rfl))) (by decide) (t := (.object "com/example/adjacent_moments/adjacentmoments/store/CellRun")) (t' := .int) (by decide) (by decide)))
  have K4 : Keep h0 h4 [a0] := (Keep.refl h0 [a0]).wr W4 (Or.inl (by simp))
  have N4 := Fr.snoc X4 N2 g_a0
  have Z4 : n0 ≤ h4.size := (Nat.le_trans Z0 (Nat.le_of_eq W4.size.symm))
  have pre5 : ∀ t, Steps p.tables e below (T4.setTop (mkF m 11 #[.val (.ref a0), .val (.int p1), .val (.ref a2)] [(.ref a2), (.ref a0)])) t → Steps p.tables e below (s₁.setTop (entryFrame m #[(.ref a0), (.int p1), (.ref a2)] 3)) t := fun t k => pre3 t (by
    show Steps p.tables e below (T2.setTop (mkF m 6 #[.val (.ref a0), .val (.int p1), .val (.ref a2)] [(.int p1), (.ref a0)])) _
    refine st4 _ ?_
    show Steps p.tables e below (T4.setTop (mkF m 9 #[.val (.ref a0), .val (.int p1), .val (.ref a2)] [])) _
    refine XS.aloadN X4.here hx rfl (hb hby d6_9) rfl rfl ?_
    show Steps p.tables e below (T4.setTop (mkF m 10 #[.val (.ref a0), .val (.int p1), .val (.ref a2)] [(.ref a0)])) _
    refine XS.aloadN X4.here hx rfl (hb hby d6_10) rfl rfl ?_
    exact k)
  obtain ⟨T6, h6, X6, e6, W6, st6⟩ := putF X4 hx hZ hown (host := "") (Or.inl (hw _ (List.mem_of_getElem? (i := 35) rfl))) Via.refl e4 F_cells_a0_4 E_a0_4 (Or.inr ⟨(hw _ (List.mem_of_getElem? (i := 36) rfl)), rfl, hnm⟩) (hw _ (List.mem_of_getElem? (i := 27) rfl)) (ty := (.object "com/example/adjacent_moments/adjacentmoments/store/CellRun")) (by decide) rfl rfl (g := (mkF m 11 #[.val (.ref a0), .val (.int p1), .val (.ref a2)] [(.ref a2), (.ref a0)])) rfl rfl (hb hby d6_11)
  have E_a0_6 := E_a0_4.wr W6
  have F_bin_a0_6 := F_bin_a0_4.other W6 (Or.inr (slot_ne (Or.inr (hw _ (List.mem_of_getElem? (i := 34) rfl))) (Or.inr (hw _ (List.mem_of_getElem? (i := 36) rfl))) (by decide) (t := .int) (t' := (.object "com/example/adjacent_moments/adjacentmoments/store/CellRun")) (by decide) (by decide)))
  have F_cells_a0_6 := F_cells_a0_4.same W6
  have K6 : Keep h0 h6 [a0] := K4.wr W6 (Or.inl (by simp))
  have N6 := Fr.snoc X6 N4 g_a0
  have Z6 : n0 ≤ h6.size := (Nat.le_trans Z4 (Nat.le_of_eq W6.size.symm))
  obtain ⟨fs, hr, hrun, hended, hW, hsame⟩ := X6.leave (v := none) (fun _ => rfl)
  refine ⟨_, _, pre5 _ ?_, hrun, hended, _, _, rfl, ?_, ⟨_, rfl⟩, hW, hsame.mono (by decide) (by decide)⟩
  · show Steps p.tables e below (T4.setTop (mkF m 11 #[.val (.ref a0), .val (.int p1), .val (.ref a2)] [(.ref a2), (.ref a0)])) _
    refine st6 _ ?_
    show Steps p.tables e below (T6.setTop (mkF m 14 #[.val (.ref a0), .val (.int p1), .val (.ref a2)] [])) _
    exact X6.returnOut hx Bd.returns (hb hby d6_14) hr
  · show Q6 Z a0 p1 a2 u_bin_a0 u_cells_a0 h0 n0 _ T6.heap _
    rw [e6]
    have hF_a0_bin : p1 = f6_a0_bin p1 a2 := (by rfl)
    have hF_a0_cells : a2 = f6_a0_cells p1 a2 := (by rfl)
    exact ⟨rfl, N6, K6, E_a0_6, (hF_a0_bin ▸ F_bin_a0_6), (hF_a0_cells ▸ F_cells_a0_6)⟩
theorem d8_0 : decode prog_13_method_6_code 0 = .ok (.aload_n 0, 1) := by decide +kernel
theorem d8_1 : decode prog_13_method_6_code 1 = .ok (.getfield 16, 3) := by decide +kernel
theorem ef_8 (m : MethodId) (x0 : Addr) : entryFrame m #[(.ref x0)] 1 = mkF m 0 #[.val (.ref x0)] [] := by first | (simp [entryFrame, mkF, argsToLocals, Value.category]; done) | rfl
def f8 (w_lo_a0 : Int32) : Int32 := w_lo_a0
def Q8 (Z : State) (a0 : Addr) (w_lo_a0 : Int32) (h0 : Heap) (n0 : Nat) (v : Option Value) (h : Heap) (L : List Loc) : Prop := v = some (.int (f8 w_lo_a0)) ∧ Fr n0 L ∧ h = h0
theorem d8_4 : decode prog_13_method_6_code 4 = .ok (.ireturn, 1) := by decide +kernel
set_option maxRecDepth 65536 in
set_option maxHeartbeats 40000000 in
theorem rm8 (l : Launch) (Z : State) (aw : Array Value) (hw : ∀ d ∈ tables_1, d.before aw Z = true) (ws : List Jvm.Cond) (a0 : Addr) (w_lo_a0 : Int32) (h0 : Heap) (n0 : Nat) (Z0 : n0 ≤ h0.size) (F_lo_a0 : Fld Z h0 a0 "com/example/adjacent_moments/adjacentmoments/store/CellRun" "lo" "I" (.int w_lo_a0)) :
    MetFree l (⟨"com/example/adjacent_moments/adjacentmoments/store/CellRun", "lo", "()I"⟩ : MethodName) (head1 (Jvm.Cond.code (⟨"com/example/adjacent_moments/adjacentmoments/store/CellRun", "lo", "()I"⟩ : MethodName) prog_13_method_6_code 1 (some .int) :: ws) ({ frames := 0, cells := 0, slots := 0, locals := 0 } : Room)) (fun a U => a = #[(.ref a0)] ∧ Z.Warmed39 U.vm ∧ U.heap = h0) (fun _ _ _ _ _ => True) (fun _ U o U' => ∃ v L, o = .returned v ∧ Q8 Z a0 w_lo_a0 h0 n0 v U'.heap L ∧ FrameEnd U o U' L ({ frames := 0, cells := 0, slots := 0, locals := 0 } : Room).cells ({ frames := 0, cells := 0, slots := 0, locals := 0 } : Room).slots) := by
  refine MetFree.of_bodySF (plainFor_of_name pn_0) hisR ?_
  intro p e s m args below meth c s₁ Bd hml0 hP hK
  obtain ⟨rfl, hZ, hh⟩ := hP
  have hx := Bd.exec
  have hby := Bd.bytes
  have hml : c.maxLocals = 1 := hml0
  have hown : s.vm.findClass "com/example/adjacent_moments/adjacentmoments/store/CellRun" = some m.cls := findClass_of_methodNamed Bd.named
  have hnm := (name_of_methodNamed Bd.named Bd.method).1
  have X0 : Stand p l e ({ frames := 0, cells := 0, slots := 0, locals := 0 } : Room) s m #[(.ref a0)] below meth c s₁ [] 0 0 := Stand.of_body Bd
  have e0 : s₁.heap = h0 := by rw [← hh, Bd.state]; rfl
  have N0 := Fr.nil n0
  have pre0 : ∀ t, Steps p.tables e below (s₁.setTop (mkF m 0 #[.val (.ref a0)] [])) t → Steps p.tables e below (s₁.setTop (entryFrame m #[(.ref a0)] 1)) t := fun t k => castTop (ef_8 m a0) k
  have pre1 : ∀ t, Steps p.tables e below (s₁.setTop (mkF m 1 #[.val (.ref a0)] [(.ref a0)])) t → Steps p.tables e below (s₁.setTop (entryFrame m #[(.ref a0)] 1)) t := fun t k => pre0 t (by
    show Steps p.tables e below (s₁.setTop (mkF m 0 #[.val (.ref a0)] [])) _
    refine XS.aloadN X0.here hx rfl (hb hby d8_0) rfl rfl ?_
    exact k)
  obtain ⟨T2, X2, e2, st2⟩ := getF X0 hx hZ hown (host := "") (Or.inl (hw _ (List.mem_of_getElem? (i := 22) rfl))) Via.refl e0 F_lo_a0 (g := (mkF m 1 #[.val (.ref a0)] [(.ref a0)])) rfl rfl (hb hby d8_1)
  obtain ⟨fs, hr, hrun, hended, hW, hsame⟩ := X2.leave (v := some (.int w_lo_a0)) (fun h => by rw [Bd.returns] at h; cases h)
  refine ⟨_, _, pre1 _ ?_, hrun, hended, _, _, rfl, ?_, ⟨_, rfl⟩, hW, hsame.mono (by decide) (by decide)⟩
  · show Steps p.tables e below (s₁.setTop (mkF m 1 #[.val (.ref a0)] [(.ref a0)])) _
    refine st2 _ ?_
    show Steps p.tables e below (T2.setTop (mkF m 4 #[.val (.ref a0)] [(.int w_lo_a0)])) _
    exact retI X2 hx Bd.returns (hb hby d8_4) hr
  · show Q8 Z a0 w_lo_a0 h0 n0 _ T2.heap _
    rw [e2]
    exact ⟨congrArg (fun z => some (Value.int z)) (by rfl), N0, rfl⟩
theorem d9_0 : decode prog_13_method_7_code 0 = .ok (.aload_n 0, 1) := by decide +kernel
theorem d9_1 : decode prog_13_method_7_code 1 = .ok (.getfield 22, 3) := by decide +kernel
theorem ef_9 (m : MethodId) (x0 : Addr) : entryFrame m #[(.ref x0)] 1 = mkF m 0 #[.val (.ref x0)] [] := by first | (simp [entryFrame, mkF, argsToLocals, Value.category]; done) | rfl
def f9 (w_hi_a0 : Int32) : Int32 := w_hi_a0
def Q9 (Z : State) (a0 : Addr) (w_hi_a0 : Int32) (h0 : Heap) (n0 : Nat) (v : Option Value) (h : Heap) (L : List Loc) : Prop := v = some (.int (f9 w_hi_a0)) ∧ Fr n0 L ∧ h = h0
theorem d9_4 : decode prog_13_method_7_code 4 = .ok (.ireturn, 1) := by decide +kernel
set_option maxRecDepth 65536 in
set_option maxHeartbeats 40000000 in
theorem rm9 (l : Launch) (Z : State) (aw : Array Value) (hw : ∀ d ∈ tables_1, d.before aw Z = true) (ws : List Jvm.Cond) (a0 : Addr) (w_hi_a0 : Int32) (h0 : Heap) (n0 : Nat) (Z0 : n0 ≤ h0.size) (F_hi_a0 : Fld Z h0 a0 "com/example/adjacent_moments/adjacentmoments/store/CellRun" "hi" "I" (.int w_hi_a0)) :
    MetFree l (⟨"com/example/adjacent_moments/adjacentmoments/store/CellRun", "hi", "()I"⟩ : MethodName) (head1 (Jvm.Cond.code (⟨"com/example/adjacent_moments/adjacentmoments/store/CellRun", "hi", "()I"⟩ : MethodName) prog_13_method_7_code 1 (some .int) :: ws) ({ frames := 0, cells := 0, slots := 0, locals := 0 } : Room)) (fun a U => a = #[(.ref a0)] ∧ Z.Warmed39 U.vm ∧ U.heap = h0) (fun _ _ _ _ _ => True) (fun _ U o U' => ∃ v L, o = .returned v ∧ Q9 Z a0 w_hi_a0 h0 n0 v U'.heap L ∧ FrameEnd U o U' L ({ frames := 0, cells := 0, slots := 0, locals := 0 } : Room).cells ({ frames := 0, cells := 0, slots := 0, locals := 0 } : Room).slots) := by
  refine MetFree.of_bodySF (plainFor_of_name pn_0) hisR ?_
  intro p e s m args below meth c s₁ Bd hml0 hP hK
  obtain ⟨rfl, hZ, hh⟩ := hP
  have hx := Bd.exec
  have hby := Bd.bytes
  have hml : c.maxLocals = 1 := hml0
  have hown : s.vm.findClass "com/example/adjacent_moments/adjacentmoments/store/CellRun" = some m.cls := findClass_of_methodNamed Bd.named
  have hnm := (name_of_methodNamed Bd.named Bd.method).1
  have X0 : Stand p l e ({ frames := 0, cells := 0, slots := 0, locals := 0 } : Room) s m #[(.ref a0)] below meth c s₁ [] 0 0 := Stand.of_body Bd
  have e0 : s₁.heap = h0 := by rw [← hh, Bd.state]; rfl
  have N0 := Fr.nil n0
  have pre0 : ∀ t, Steps p.tables e below (s₁.setTop (mkF m 0 #[.val (.ref a0)] [])) t → Steps p.tables e below (s₁.setTop (entryFrame m #[(.ref a0)] 1)) t := fun t k => castTop (ef_9 m a0) k
  have pre1 : ∀ t, Steps p.tables e below (s₁.setTop (mkF m 1 #[.val (.ref a0)] [(.ref a0)])) t → Steps p.tables e below (s₁.setTop (entryFrame m #[(.ref a0)] 1)) t := fun t k => pre0 t (by
    show Steps p.tables e below (s₁.setTop (mkF m 0 #[.val (.ref a0)] [])) _
    refine XS.aloadN X0.here hx rfl (hb hby d9_0) rfl rfl ?_
    exact k)
  obtain ⟨T2, X2, e2, st2⟩ := getF X0 hx hZ hown (host := "") (Or.inl (hw _ (List.mem_of_getElem? (i := 24) rfl))) Via.refl e0 F_hi_a0 (g := (mkF m 1 #[.val (.ref a0)] [(.ref a0)])) rfl rfl (hb hby d9_1)
  obtain ⟨fs, hr, hrun, hended, hW, hsame⟩ := X2.leave (v := some (.int w_hi_a0)) (fun h => by rw [Bd.returns] at h; cases h)
  refine ⟨_, _, pre1 _ ?_, hrun, hended, _, _, rfl, ?_, ⟨_, rfl⟩, hW, hsame.mono (by decide) (by decide)⟩
  · show Steps p.tables e below (s₁.setTop (mkF m 1 #[.val (.ref a0)] [(.ref a0)])) _
    refine st2 _ ?_
    show Steps p.tables e below (T2.setTop (mkF m 4 #[.val (.ref a0)] [(.int w_hi_a0)])) _
    exact retI X2 hx Bd.returns (hb hby d9_4) hr
  · show Q9 Z a0 w_hi_a0 h0 n0 _ T2.heap _
    rw [e2]
    exact ⟨congrArg (fun z => some (Value.int z)) (by rfl), N0, rfl⟩
theorem d7_0 : decode prog_24_method_2_code 0 = .ok (.iload_n 1, 1) := by decide +kernel
theorem d7_1 : decode prog_24_method_2_code 1 = .ok (.aload_n 0, 1) := by decide +kernel
theorem d7_2 : decode prog_24_method_2_code 2 = .ok (.getfield 7, 3) := by decide +kernel
theorem d7_5 : decode prog_24_method_2_code 5 = .ok (.if_icmp .ne 29, 3) := by decide +kernel
theorem d7_8 : decode prog_24_method_2_code 8 = .ok (.iload_n 2, 1) := by decide +kernel
theorem d7_9 : decode prog_24_method_2_code 9 = .ok (.aload_n 0, 1) := by decide +kernel
theorem d7_10 : decode prog_24_method_2_code 10 = .ok (.getfield 13, 3) := by decide +kernel
theorem pd_5 : parseMethodDescriptor "()I" = some ⟨[], some .int⟩ := by decide +kernel
theorem d7_13 : decode prog_24_method_2_code 13 = .ok (.invokevirtual 17, 3) := by decide +kernel
theorem d7_16 : decode prog_24_method_2_code 16 = .ok (.if_icmp .lt 18, 3) := by decide +kernel
theorem d7_34 : decode prog_24_method_2_code 34 = .ok (.iconst 0, 1) := by decide +kernel
theorem d7_19 : decode prog_24_method_2_code 19 = .ok (.iload_n 2, 1) := by decide +kernel
theorem d7_20 : decode prog_24_method_2_code 20 = .ok (.aload_n 0, 1) := by decide +kernel
theorem d7_21 : decode prog_24_method_2_code 21 = .ok (.getfield 13, 3) := by decide +kernel
theorem d7_24 : decode prog_24_method_2_code 24 = .ok (.invokevirtual 23, 3) := by decide +kernel
theorem d7_27 : decode prog_24_method_2_code 27 = .ok (.if_icmp .gt 7, 3) := by decide +kernel
theorem d7_30 : decode prog_24_method_2_code 30 = .ok (.iconst 1, 1) := by decide +kernel
theorem d7_31 : decode prog_24_method_2_code 31 = .ok (.goto 4, 3) := by decide +kernel
theorem ef_7 (m : MethodId) (x0 : Addr) (x1 : Int32) (x2 : Int32) : entryFrame m #[(.ref x0), (.int x1), (.int x2)] 3 = mkF m 0 #[.val (.ref x0), .val (.int x1), .val (.int x2)] [] := by first | (simp [entryFrame, mkF, argsToLocals, Value.category]; done) | rfl
def f7 (p1 : Int32) (p2 : Int32) (w_bin_a0 : Int32) (w_lo_w_cells_a0 : Int32) (w_hi_w_cells_a0 : Int32) : Int32 := (let j17 : Int32 := (if p1 = w_bin_a0 then (if p2 < (f8 w_lo_w_cells_a0) then (0 : Int32) else (if (f9 w_hi_w_cells_a0) < p2 then (0 : Int32) else (1 : Int32))) else (0 : Int32)); (nar .boolean j17))
def Q7 (Z : State) (a0 : Addr) (p1 : Int32) (p2 : Int32) (w_bin_a0 : Int32) (w_cells_a0 : Addr) (w_lo_w_cells_a0 : Int32) (w_hi_w_cells_a0 : Int32) (h0 : Heap) (n0 : Nat) (v : Option Value) (h : Heap) (L : List Loc) : Prop := v = some (.int (f7 p1 p2 w_bin_a0 w_lo_w_cells_a0 w_hi_w_cells_a0)) ∧ Fr n0 L ∧ h = h0
theorem d7_35 : decode prog_24_method_2_code 35 = .ok (.ireturn, 1) := by decide +kernel
set_option maxRecDepth 65536 in
set_option maxHeartbeats 40000000 in
theorem rm7 (l : Launch) (Z : State) (aw : Array Value) (hw : ∀ d ∈ tables_1, d.before aw Z = true) (ws : List Jvm.Cond) (a0 : Addr) (p1 : Int32) (p2 : Int32) (w_bin_a0 : Int32) (w_cells_a0 : Addr) (w_lo_w_cells_a0 : Int32) (w_hi_w_cells_a0 : Int32) (h0 : Heap) (n0 : Nat) (Z0 : n0 ≤ h0.size) (F_bin_a0 : Fld Z h0 a0 "com/example/adjacent_moments/adjacentmoments/store/KeyRanges$Range" "bin" "I" (.int w_bin_a0)) (F_cells_a0 : Fld Z h0 a0 "com/example/adjacent_moments/adjacentmoments/store/KeyRanges$Range" "cells" "Lcom/example/adjacent_moments/adjacentmoments/store/CellRun;" (.ref w_cells_a0)) (F_lo_w_cells_a0 : Fld Z h0 w_cells_a0 "com/example/adjacent_moments/adjacentmoments/store/CellRun" "lo" "I" (.int w_lo_w_cells_a0)) (E_w_cells_a0 : Exa Z h0 w_cells_a0 "com/example/adjacent_moments/adjacentmoments/store/CellRun") (F_hi_w_cells_a0 : Fld Z h0 w_cells_a0 "com/example/adjacent_moments/adjacentmoments/store/CellRun" "hi" "I" (.int w_hi_w_cells_a0)) :
    MetFree l (⟨"com/example/adjacent_moments/adjacentmoments/store/KeyRanges$Range", "holds", "(II)Z"⟩ : MethodName) (head1 (Jvm.Cond.code (⟨"com/example/adjacent_moments/adjacentmoments/store/KeyRanges$Range", "holds", "(II)Z"⟩ : MethodName) prog_24_method_2_code 3 (some .boolean) :: ws) ({ frames := 1, cells := 0, slots := 0, locals := 13 } : Room)) (fun a U => a = #[(.ref a0), (.int p1), (.int p2)] ∧ Z.Warmed39 U.vm ∧ U.heap = h0) (fun _ _ _ _ _ => True) (fun _ U o U' => ∃ v L, o = .returned v ∧ Q7 Z a0 p1 p2 w_bin_a0 w_cells_a0 w_lo_w_cells_a0 w_hi_w_cells_a0 h0 n0 v U'.heap L ∧ FrameEnd U o U' L ({ frames := 1, cells := 0, slots := 0, locals := 13 } : Room).cells ({ frames := 1, cells := 0, slots := 0, locals := 13 } : Room).slots) := by
  refine MetFree.of_bodySF (plainFor_of_name pn_1) hisR ?_
  intro p e s m args below meth c s₁ Bd hml0 hP hK
  obtain ⟨rfl, hZ, hh⟩ := hP
  have hx := Bd.exec
  have hby := Bd.bytes
  have hml : c.maxLocals = 3 := hml0
  have hown : s.vm.findClass "com/example/adjacent_moments/adjacentmoments/store/KeyRanges$Range" = some m.cls := findClass_of_methodNamed Bd.named
  have hnm := (name_of_methodNamed Bd.named Bd.method).1
  have X0 : Stand p l e ({ frames := 1, cells := 0, slots := 0, locals := 13 } : Room) s m #[(.ref a0), (.int p1), (.int p2)] below meth c s₁ [] 0 0 := Stand.of_body Bd
  have e0 : s₁.heap = h0 := by rw [← hh, Bd.state]; rfl
  have N0 := Fr.nil n0
  have pre0 : ∀ t, Steps p.tables e below (s₁.setTop (mkF m 0 #[.val (.ref a0), .val (.int p1), .val (.int p2)] [])) t → Steps p.tables e below (s₁.setTop (entryFrame m #[(.ref a0), (.int p1), (.int p2)] 3)) t := fun t k => castTop (ef_7 m a0 p1 p2) k
  have pre1 : ∀ t, Steps p.tables e below (s₁.setTop (mkF m 2 #[.val (.ref a0), .val (.int p1), .val (.int p2)] [(.ref a0), (.int p1)])) t → Steps p.tables e below (s₁.setTop (entryFrame m #[(.ref a0), (.int p1), (.int p2)] 3)) t := fun t k => pre0 t (by
    show Steps p.tables e below (s₁.setTop (mkF m 0 #[.val (.ref a0), .val (.int p1), .val (.int p2)] [])) _
    refine XS.iloadN X0.here hx rfl (hb hby d7_0) rfl ?_
    show Steps p.tables e below (s₁.setTop (mkF m 1 #[.val (.ref a0), .val (.int p1), .val (.int p2)] [(.int p1)])) _
    refine XS.aloadN X0.here hx rfl (hb hby d7_1) rfl rfl ?_
    exact k)
  obtain ⟨T2, X2, e2, st2⟩ := getF X0 hx hZ hown (host := "") (Or.inl (hw _ (List.mem_of_getElem? (i := 33) rfl))) Via.refl e0 F_bin_a0 (g := (mkF m 2 #[.val (.ref a0), .val (.int p1), .val (.int p2)] [(.ref a0), (.int p1)])) rfl rfl (hb hby d7_2)
  have pre3 : ∀ t, Steps p.tables e below (T2.setTop (mkF m 5 #[.val (.ref a0), .val (.int p1), .val (.int p2)] [(.int w_bin_a0), (.int p1)])) t → Steps p.tables e below (s₁.setTop (entryFrame m #[(.ref a0), (.int p1), (.int p2)] 3)) t := fun t k => pre1 t (by
    show Steps p.tables e below (s₁.setTop (mkF m 2 #[.val (.ref a0), .val (.int p1), .val (.int p2)] [(.ref a0), (.int p1)])) _
    refine st2 _ ?_
    exact k)
  obtain ⟨T19, LjT19, j17, X19, N19, e19, hj17, pre18⟩ : ∃ (T19 : State) (LjT19 : List Loc) (j17 : Int32), Stand p l e ({ frames := 1, cells := 0, slots := 0, locals := 13 } : Room) s m #[(.ref a0), (.int p1), (.int p2)] below meth c T19 LjT19 0 0 ∧ Fr n0 LjT19 ∧ T19.heap = h0 ∧ j17 = (if p1 = w_bin_a0 then (if p2 < (f8 w_lo_w_cells_a0) then (0 : Int32) else (if (f9 w_hi_w_cells_a0) < p2 then (0 : Int32) else (1 : Int32))) else (0 : Int32)) ∧ ∀ t, Steps p.tables e below (T19.setTop (mkF m 35 #[.val (.ref a0), .val (.int p1), .val (.int p2)] [(.int j17)])) t → Steps p.tables e below (s₁.setTop (entryFrame m #[(.ref a0), (.int p1), (.int p2)] 3)) t := by
    by_cases hc4 : p1 = w_bin_a0
    · have pre5 : ∀ t, Steps p.tables e below (T2.setTop (mkF m 10 #[.val (.ref a0), .val (.int p1), .val (.int p2)] [(.ref a0), (.int p2)])) t → Steps p.tables e below (s₁.setTop (entryFrame m #[(.ref a0), (.int p1), (.int p2)] 3)) t := fun t k => pre3 t (by
        show Steps p.tables e below (T2.setTop (mkF m 5 #[.val (.ref a0), .val (.int p1), .val (.int p2)] [(.int w_bin_a0), (.int p1)])) _
        refine XS.icmpNo X2.here hx rfl (hb hby d7_5) rfl (teq hc4).2 ?_
        show Steps p.tables e below (T2.setTop (mkF m 8 #[.val (.ref a0), .val (.int p1), .val (.int p2)] [])) _
        refine XS.iloadN X2.here hx rfl (hb hby d7_8) rfl ?_
        show Steps p.tables e below (T2.setTop (mkF m 9 #[.val (.ref a0), .val (.int p1), .val (.int p2)] [(.int p2)])) _
        refine XS.aloadN X2.here hx rfl (hb hby d7_9) rfl rfl ?_
        exact k)
      obtain ⟨T6, X6, e6, st6⟩ := getF X2 hx hZ hown (host := "") (Or.inl (hw _ (List.mem_of_getElem? (i := 35) rfl))) Via.refl e2 F_cells_a0 (g := (mkF m 10 #[.val (.ref a0), .val (.int p1), .val (.int p2)] [(.ref a0), (.int p2)])) rfl rfl (hb hby d7_10)
      have pre7 : ∀ t, Steps p.tables e below (T6.setTop (mkF m 13 #[.val (.ref a0), .val (.int p1), .val (.int p2)] [(.ref w_cells_a0), (.int p2)])) t → Steps p.tables e below (s₁.setTop (entryFrame m #[(.ref a0), (.int p1), (.int p2)] 3)) t := fun t k => pre5 t (by
        show Steps p.tables e below (T2.setTop (mkF m 10 #[.val (.ref a0), .val (.int p1), .val (.int p2)] [(.ref a0), (.int p2)])) _
        refine st6 _ ?_
        exact k)
      obtain ⟨cq8, kq8, q8a, q8b, q8c⟩ := isOf hZ e6 E_w_cells_a0
      obtain ⟨_, _, ⟨T8, L8, k8, n8⟩, -, X8, ⟨Lc8, hQ8, l8, y8, z8⟩, st8⟩ := X6.virtualBack hx (y := (⟨"com/example/adjacent_moments/adjacentmoments/store/CellRun", "lo", "()I"⟩ : MethodName)) (z := (⟨"com/example/adjacent_moments/adjacentmoments/store/CellRun", "lo", "()I"⟩ : MethodName)) hown (mvT hZ (hw _ (List.mem_of_getElem? (i := 42) rfl))) (mvT hZ (hw _ (List.mem_of_getElem? (i := 43) rfl))) (notFace_of_selects (args := #[]) (mvT hZ (hw _ (List.mem_of_getElem? (i := 45) rfl)))) (mvT hZ (hw _ (List.mem_of_getElem? (i := 45) rfl))) (mvT hZ (hw _ (List.mem_of_getElem? (i := 44) rfl))) (by decide) (backOf (W := 1) (rm8 l Z aw hw [] w_cells_a0 w_lo_w_cells_a0 h0 n0 Z0 F_lo_w_cells_a0) hZ (hw _ (List.mem_of_getElem? (i := 46) rfl)) (hw _ (List.mem_of_getElem? (i := 10) rfl)) (by decide) (by decide)) q8a q8c (g := (mkF m 13 #[.val (.ref a0), .val (.int p1), .val (.int p2)] [(.ref w_cells_a0), (.int p2)])) rfl (by rw [hml]; rfl) (Steps.refl _) (argsL := []) (rest := [(.int p2)]) (lenOf pd_5 rfl) rfl (by show 2 * 0 + _ ≤ _; exact Nat.le_of_eq rfl) (hb hby d7_13) (fun _ _ => ⟨rfl, e6, (by decide : 0 + 0 ≤ _), (by decide : 0 + 0 ≤ _)⟩)
      dsimp only [Pt.U, Pt.locs, Pt.cells, Pt.slots] at X8 l8 y8 z8 st8 hQ8
      subst l8 y8 z8
      obtain ⟨rfl, N8q, e8⟩ := hQ8
      have N8 := Fr.app N0 N8q
      have pre9 : ∀ t, Steps p.tables e below (T8.setTop (mkF m 16 #[.val (.ref a0), .val (.int p1), .val (.int p2)] [(.int (f8 w_lo_w_cells_a0)), (.int p2)])) t → Steps p.tables e below (s₁.setTop (entryFrame m #[(.ref a0), (.int p1), (.int p2)] 3)) t := fun t k => pre7 t (by
        show Steps p.tables e below (T6.setTop (mkF m 13 #[.val (.ref a0), .val (.int p1), .val (.int p2)] [(.ref w_cells_a0), (.int p2)])) _
        refine st8.trans ?_
        exact k)
      by_cases hc10 : p2 < (f8 w_lo_w_cells_a0)
      · exact ⟨_, _, (0 : Int32), X8, N8, e8, (by rw [if_pos hc4, if_pos hc10]), fun t k => pre9 t (by
          show Steps p.tables e below (T8.setTop (mkF m 16 #[.val (.ref a0), .val (.int p1), .val (.int p2)] [(.int (f8 w_lo_w_cells_a0)), (.int p2)])) _
          refine XS.icmpYes X8.here hx rfl (pc0 := 16) (pc' := 34) rfl (hb hby d7_16) rfl (tlt hc10).1 (by decide) (by decide) ?_
          show Steps p.tables e below (T8.setTop (mkF m 34 #[.val (.ref a0), .val (.int p1), .val (.int p2)] [])) _
          refine XS.iconst X8.here hx rfl (hb hby d7_34) ?_
          exact k)⟩
      · have pre11 : ∀ t, Steps p.tables e below (T8.setTop (mkF m 21 #[.val (.ref a0), .val (.int p1), .val (.int p2)] [(.ref a0), (.int p2)])) t → Steps p.tables e below (s₁.setTop (entryFrame m #[(.ref a0), (.int p1), (.int p2)] 3)) t := fun t k => pre9 t (by
          show Steps p.tables e below (T8.setTop (mkF m 16 #[.val (.ref a0), .val (.int p1), .val (.int p2)] [(.int (f8 w_lo_w_cells_a0)), (.int p2)])) _
          refine XS.icmpNo X8.here hx rfl (hb hby d7_16) rfl (flt hc10).1 ?_
          show Steps p.tables e below (T8.setTop (mkF m 19 #[.val (.ref a0), .val (.int p1), .val (.int p2)] [])) _
          refine XS.iloadN X8.here hx rfl (hb hby d7_19) rfl ?_
          show Steps p.tables e below (T8.setTop (mkF m 20 #[.val (.ref a0), .val (.int p1), .val (.int p2)] [(.int p2)])) _
          refine XS.aloadN X8.here hx rfl (hb hby d7_20) rfl rfl ?_
          exact k)
        obtain ⟨T12, X12, e12, st12⟩ := getF X8 hx hZ hown (host := "") (Or.inl (hw _ (List.mem_of_getElem? (i := 35) rfl))) Via.refl e8 F_cells_a0 (g := (mkF m 21 #[.val (.ref a0), .val (.int p1), .val (.int p2)] [(.ref a0), (.int p2)])) rfl rfl (hb hby d7_21)
        have pre13 : ∀ t, Steps p.tables e below (T12.setTop (mkF m 24 #[.val (.ref a0), .val (.int p1), .val (.int p2)] [(.ref w_cells_a0), (.int p2)])) t → Steps p.tables e below (s₁.setTop (entryFrame m #[(.ref a0), (.int p1), (.int p2)] 3)) t := fun t k => pre11 t (by
          show Steps p.tables e below (T8.setTop (mkF m 21 #[.val (.ref a0), .val (.int p1), .val (.int p2)] [(.ref a0), (.int p2)])) _
          refine st12 _ ?_
          exact k)
        obtain ⟨cq14, kq14, q14a, q14b, q14c⟩ := isOf hZ e12 E_w_cells_a0
        obtain ⟨_, _, ⟨T14, L14, k14, n14⟩, -, X14, ⟨Lc14, hQ14, l14, y14, z14⟩, st14⟩ := X12.virtualBack hx (y := (⟨"com/example/adjacent_moments/adjacentmoments/store/CellRun", "hi", "()I"⟩ : MethodName)) (z := (⟨"com/example/adjacent_moments/adjacentmoments/store/CellRun", "hi", "()I"⟩ : MethodName)) hown (mvT hZ (hw _ (List.mem_of_getElem? (i := 47) rfl))) (mvT hZ (hw _ (List.mem_of_getElem? (i := 48) rfl))) (notFace_of_selects (args := #[]) (mvT hZ (hw _ (List.mem_of_getElem? (i := 50) rfl)))) (mvT hZ (hw _ (List.mem_of_getElem? (i := 50) rfl))) (mvT hZ (hw _ (List.mem_of_getElem? (i := 49) rfl))) (by decide) (backOf (W := 1) (rm9 l Z aw hw [] w_cells_a0 w_hi_w_cells_a0 h0 n0 Z0 F_hi_w_cells_a0) hZ (hw _ (List.mem_of_getElem? (i := 51) rfl)) (hw _ (List.mem_of_getElem? (i := 10) rfl)) (by decide) (by decide)) q14a q14c (g := (mkF m 24 #[.val (.ref a0), .val (.int p1), .val (.int p2)] [(.ref w_cells_a0), (.int p2)])) rfl (by rw [hml]; rfl) (Steps.refl _) (argsL := []) (rest := [(.int p2)]) (lenOf pd_5 rfl) rfl (by show 2 * 0 + _ ≤ _; exact Nat.le_of_eq rfl) (hb hby d7_24) (fun _ _ => ⟨rfl, e12, (by decide : 0 + 0 ≤ _), (by decide : 0 + 0 ≤ _)⟩)
        dsimp only [Pt.U, Pt.locs, Pt.cells, Pt.slots] at X14 l14 y14 z14 st14 hQ14
        subst l14 y14 z14
        obtain ⟨rfl, N14q, e14⟩ := hQ14
        have N14 := Fr.app N8 N14q
        have pre15 : ∀ t, Steps p.tables e below (T14.setTop (mkF m 27 #[.val (.ref a0), .val (.int p1), .val (.int p2)] [(.int (f9 w_hi_w_cells_a0)), (.int p2)])) t → Steps p.tables e below (s₁.setTop (entryFrame m #[(.ref a0), (.int p1), (.int p2)] 3)) t := fun t k => pre13 t (by
          show Steps p.tables e below (T12.setTop (mkF m 24 #[.val (.ref a0), .val (.int p1), .val (.int p2)] [(.ref w_cells_a0), (.int p2)])) _
          refine st14.trans ?_
          exact k)
        by_cases hc16 : (f9 w_hi_w_cells_a0) < p2
        · exact ⟨_, _, (0 : Int32), X14, N14, e14, (by rw [if_pos hc4, if_neg hc10, if_pos hc16]), fun t k => pre15 t (by
            show Steps p.tables e below (T14.setTop (mkF m 27 #[.val (.ref a0), .val (.int p1), .val (.int p2)] [(.int (f9 w_hi_w_cells_a0)), (.int p2)])) _
            refine XS.icmpYes X14.here hx rfl (pc0 := 27) (pc' := 34) rfl (hb hby d7_27) rfl (tlt hc16).2.2.1 (by decide) (by decide) ?_
            show Steps p.tables e below (T14.setTop (mkF m 34 #[.val (.ref a0), .val (.int p1), .val (.int p2)] [])) _
            refine XS.iconst X14.here hx rfl (hb hby d7_34) ?_
            exact k)⟩
        · exact ⟨_, _, (1 : Int32), X14, N14, e14, (by rw [if_pos hc4, if_neg hc10, if_neg hc16]), fun t k => pre15 t (by
            show Steps p.tables e below (T14.setTop (mkF m 27 #[.val (.ref a0), .val (.int p1), .val (.int p2)] [(.int (f9 w_hi_w_cells_a0)), (.int p2)])) _
            refine XS.icmpNo X14.here hx rfl (hb hby d7_27) rfl (flt hc16).2.2.1 ?_
            show Steps p.tables e below (T14.setTop (mkF m 30 #[.val (.ref a0), .val (.int p1), .val (.int p2)] [])) _
            refine XS.iconst X14.here hx rfl (hb hby d7_30) ?_
            show Steps p.tables e below (T14.setTop (mkF m 31 #[.val (.ref a0), .val (.int p1), .val (.int p2)] [(.int (1 : Int32))])) _
            refine XS.goto X14.here hx rfl (pc0 := 31) (pc' := 35) rfl (hb hby d7_31) (by decide) (by decide) ?_
            exact k)⟩
    · exact ⟨_, _, (0 : Int32), X2, N0, e2, (by rw [if_neg hc4]), fun t k => pre3 t (by
        show Steps p.tables e below (T2.setTop (mkF m 5 #[.val (.ref a0), .val (.int p1), .val (.int p2)] [(.int w_bin_a0), (.int p1)])) _
        refine XS.icmpYes X2.here hx rfl (pc0 := 5) (pc' := 34) rfl (hb hby d7_5) rfl (feq hc4).2 (by decide) (by decide) ?_
        show Steps p.tables e below (T2.setTop (mkF m 34 #[.val (.ref a0), .val (.int p1), .val (.int p2)] [])) _
        refine XS.iconst X2.here hx rfl (hb hby d7_34) ?_
        exact k)⟩
  obtain ⟨fs, hr, hrun, hended, hW, hsame⟩ := X19.leave (v := some (.int (nar .boolean j17))) (fun h => by rw [Bd.returns] at h; cases h)
  refine ⟨_, _, pre18 _ ?_, hrun, hended, _, _, rfl, ?_, ⟨_, rfl⟩, hW, hsame.mono (by decide) (by decide)⟩
  · show Steps p.tables e below (T19.setTop (mkF m 35 #[.val (.ref a0), .val (.int p1), .val (.int p2)] [(.int j17)])) _
    exact retN X19 hx (t := .boolean) Bd.returns (by simp) (hb hby d7_35) hr
  · show Q7 Z a0 p1 p2 w_bin_a0 w_cells_a0 w_lo_w_cells_a0 w_hi_w_cells_a0 h0 n0 _ T19.heap _
    rw [e19]
    exact ⟨congrArg (fun z => some (Value.int z)) (by subst hj17; rfl), N19, rfl⟩
theorem pn_2 : plainName "com/example/adjacent_moments/adjacentmoments/store/RangeHoldsPinLaw" = true := by first | (simp [plainName, overriddenIn]; done) | decide +kernel
theorem pd_0 : parseMethodDescriptor "(II)I" = some ⟨[.int, .int], some .int⟩ := by decide +kernel
theorem pd_1 : parseMethodDescriptor "(II)V" = some ⟨[.int, .int], none⟩ := by decide +kernel
theorem pd_3 : parseMethodDescriptor "(ILcom/example/adjacent_moments/adjacentmoments/store/CellRun;)V" = some ⟨[.int, (.object "com/example/adjacent_moments/adjacentmoments/store/CellRun")], none⟩ := by decide +kernel
theorem pd_4 : parseMethodDescriptor "(II)Z" = some ⟨[.int, .int], some .boolean⟩ := by decide +kernel
theorem ef_0 (m : MethodId) (x0 : Int32) (x1 : Int32) (x2 : Int32) (x3 : Int32) (x4 : Int32) (x5 : Int32) : entryFrame m #[(.int x0), (.int x1), (.int x2), (.int x3), (.int x4), (.int x5)] maxLocals = mkF m 0 #[.val (.int x0), .val (.int x1), .val (.int x2), .val (.int x3), .val (.int x4), .val (.int x5), .unset, .unset, .unset, .unset, .unset, .unset, .unset, .unset, .unset, .unset, .unset, .unset, .unset, .unset] [] := by first | (simp [entryFrame, mkF, argsToLocals, Value.category, maxLocals]; done) | rfl
def f0 (p0 : Int32) (p1 : Int32) (p2 : Int32) (p3 : Int32) (p4 : Int32) (p5 : Int32) : Int32 := (let v2 : Int32 := (p1 &&& (2147483647 : Int32)); (let v5 : Int32 := (p2 &&& (2147483647 : Int32)); (let v10 : Int32 := (f1 v2 v5); (let v15 : Int32 := (f2 v2 v5); (let v18 : Int32 := (p5 &&& (7 : Int32)); (let j28 : Int32 := (if v18 = (1 : Int32) then (v10 - (1 : Int32)) else (if v18 = (2 : Int32) then v10 else (if v18 = (3 : Int32) then v15 else (if v18 = (4 : Int32) then (v15 + (1 : Int32)) else p4)))); (let v31 : Int32 := (((p5.toUInt32 >>> ((3 : Int32) &&& 31).toUInt32).toInt32) &&& (3 : Int32)); (let j39 : Int32 := (if v31 = (1 : Int32) then p0 else (if v31 = (2 : Int32) then (p0 + (1 : Int32)) else (if v31 = (3 : Int32) then (p0 - (1 : Int32)) else p3))); (let v51 : Int32 := (f7 j39 j28 p0 v10 v15); (let j55 : Int32 := (if j39 = p0 then (1 : Int32) else (0 : Int32)); (let j63 : Int32 := (if (f2 v10 (f1 v15 j28)) = j28 then (1 : Int32) else (0 : Int32)); (let j69 : Int32 := (if j55 = (0 : Int32) then (0 : Int32) else (if j63 = (0 : Int32) then (0 : Int32) else (1 : Int32))); (let j73 : Int32 := (if v51 = j69 then (1 : Int32) else (0 : Int32)); (nar .boolean j73))))))))))))))
def Q0 (Z : State) (p0 : Int32) (p1 : Int32) (p2 : Int32) (p3 : Int32) (p4 : Int32) (p5 : Int32) (h0 : Heap) (n0 : Nat) (v : Option Value) (h : Heap) (L : List Loc) : Prop := v = some (.int (1 : Int32)) ∧ Fr n0 L
theorem own_pre1 (p0 : Int32) (p1 : Int32) (p2 : Int32) (p3 : Int32) (p4 : Int32) (p5 : Int32) (v2 : Int32) (hv2 : v2 = (p1 &&& (2147483647 : Int32))) (v5 : Int32) (hv5 : v5 = (p2 &&& (2147483647 : Int32))) (v10 : Int32) (hv10 : v10 = (f1 v2 v5)) (v15 : Int32) (hv15 : v15 = (f2 v2 v5)) (v18 : Int32) (hv18 : v18 = (p5 &&& (7 : Int32))) (j28 : Int32) (hj28 : j28 = (if v18 = (1 : Int32) then (v10 - (1 : Int32)) else (if v18 = (2 : Int32) then v10 else (if v18 = (3 : Int32) then v15 else (if v18 = (4 : Int32) then (v15 + (1 : Int32)) else p4))))) (v31 : Int32) (hv31 : v31 = (((p5.toUInt32 >>> ((3 : Int32) &&& 31).toUInt32).toInt32) &&& (3 : Int32))) (j39 : Int32) (hj39 : j39 = (if v31 = (1 : Int32) then p0 else (if v31 = (2 : Int32) then (p0 + (1 : Int32)) else (if v31 = (3 : Int32) then (p0 - (1 : Int32)) else p3)))) : ¬ (v10 < (0 : Int32)) := by
  have m0 := c_mask p1 2147483647 31 (by decide) (by decide)
  have m1 := c_mask p2 2147483647 31 (by decide) (by decide)
  have k : ((2 ^ 31 : Nat) : Int) = 2147483648 := by decide
  rw [k] at m0 m1
  rw [← hv2] at m0
  rw [← hv5] at m1
  have e10 : v10 = if v5 < v2 then v5 else v2 := hv10
  have e15 : v15 = if v2 < v5 then v5 else v2 := hv15
  have k0 : (0 : Int32).toInt = 0 := by decide
  simp only [Int32.lt_iff_toInt_lt] at e10 e15 ⊢
  split at e10 <;> split at e15 <;> (have t1 := congrArg Int32.toInt e10; have t2 := congrArg Int32.toInt e15; omega)
theorem own_pre2 (p0 : Int32) (p1 : Int32) (p2 : Int32) (p3 : Int32) (p4 : Int32) (p5 : Int32) (v2 : Int32) (hv2 : v2 = (p1 &&& (2147483647 : Int32))) (v5 : Int32) (hv5 : v5 = (p2 &&& (2147483647 : Int32))) (v10 : Int32) (hv10 : v10 = (f1 v2 v5)) (v15 : Int32) (hv15 : v15 = (f2 v2 v5)) (v18 : Int32) (hv18 : v18 = (p5 &&& (7 : Int32))) (j28 : Int32) (hj28 : j28 = (if v18 = (1 : Int32) then (v10 - (1 : Int32)) else (if v18 = (2 : Int32) then v10 else (if v18 = (3 : Int32) then v15 else (if v18 = (4 : Int32) then (v15 + (1 : Int32)) else p4))))) (v31 : Int32) (hv31 : v31 = (((p5.toUInt32 >>> ((3 : Int32) &&& 31).toUInt32).toInt32) &&& (3 : Int32))) (j39 : Int32) (hj39 : j39 = (if v31 = (1 : Int32) then p0 else (if v31 = (2 : Int32) then (p0 + (1 : Int32)) else (if v31 = (3 : Int32) then (p0 - (1 : Int32)) else p3)))) : ¬ (v15 < v10) := by
  have m0 := c_mask p1 2147483647 31 (by decide) (by decide)
  have m1 := c_mask p2 2147483647 31 (by decide) (by decide)
  have k : ((2 ^ 31 : Nat) : Int) = 2147483648 := by decide
  rw [k] at m0 m1
  rw [← hv2] at m0
  rw [← hv5] at m1
  have e10 : v10 = if v5 < v2 then v5 else v2 := hv10
  have e15 : v15 = if v2 < v5 then v5 else v2 := hv15
  have k0 : (0 : Int32).toInt = 0 := by decide
  simp only [Int32.lt_iff_toInt_lt] at e10 e15 ⊢
  split at e10 <;> split at e15 <;> (have t1 := congrArg Int32.toInt e10; have t2 := congrArg Int32.toInt e15; omega)
set_option maxRecDepth 65536 in
set_option maxHeartbeats 40000000 in
theorem rm0 (l : Launch) (Z : State) (aw : Array Value) (hw : ∀ d ∈ tables_1, d.before aw Z = true) (ws : List Jvm.Cond) (p0 : Int32) (p1 : Int32) (p2 : Int32) (p3 : Int32) (p4 : Int32) (p5 : Int32) (h0 : Heap) (n0 : Nat) (Z0 : n0 ≤ h0.size) (hlaw : f0 p0 p1 p2 p3 p4 p5 = 1) :
    MetFree l x (head1 (Jvm.Cond.code x code maxLocals ret :: ws) room_1) (fun a U => a = #[(.int p0), (.int p1), (.int p2), (.int p3), (.int p4), (.int p5)] ∧ Z.Warmed39 U.vm ∧ U.heap = h0) (fun _ _ _ _ _ => True) (fun _ U o U' => ∃ v L, o = .returned v ∧ Q0 Z p0 p1 p2 p3 p4 p5 h0 n0 v U'.heap L ∧ FrameEnd U o U' L room_1.cells room_1.slots) := by
  refine MetFree.of_bodySF (plainFor_of_name pn_2) hisR ?_
  intro p e s m args below meth c s₁ Bd hml0 hP hK
  obtain ⟨rfl, hZ, hh⟩ := hP
  have hx := Bd.exec
  have hby := Bd.bytes
  have hml : c.maxLocals = 20 := hml0
  have hown : s.vm.findClass "com/example/adjacent_moments/adjacentmoments/store/RangeHoldsPinLaw" = some m.cls := findClass_of_methodNamed Bd.named
  have hnm := (name_of_methodNamed Bd.named Bd.method).1
  have X0 : Stand p l e room_1 s m #[(.int p0), (.int p1), (.int p2), (.int p3), (.int p4), (.int p5)] below meth c s₁ [] 0 0 := Stand.of_body Bd
  have e0 : s₁.heap = h0 := by rw [← hh, Bd.state]; rfl
  have N0 := Fr.nil n0
  have pre0 : ∀ t, Steps p.tables e below (s₁.setTop (mkF m 0 #[.val (.int p0), .val (.int p1), .val (.int p2), .val (.int p3), .val (.int p4), .val (.int p5), .unset, .unset, .unset, .unset, .unset, .unset, .unset, .unset, .unset, .unset, .unset, .unset, .unset, .unset] [])) t → Steps p.tables e below (s₁.setTop (entryFrame m #[(.int p0), (.int p1), (.int p2), (.int p3), (.int p4), (.int p5)] maxLocals)) t := fun t k => castTop (ef_0 m p0 p1 p2 p3 p4 p5) k
  have pre1 : ∀ t, Steps p.tables e below (s₁.setTop (mkF m 4 #[.val (.int p0), .val (.int p1), .val (.int p2), .val (.int p3), .val (.int p4), .val (.int p5), .unset, .unset, .unset, .unset, .unset, .unset, .unset, .unset, .unset, .unset, .unset, .unset, .unset, .unset] [(.int (p1 &&& (2147483647 : Int32)))])) t → Steps p.tables e below (s₁.setTop (entryFrame m #[(.int p0), (.int p1), (.int p2), (.int p3), (.int p4), (.int p5)] maxLocals)) t := fun t k => pre0 t (by
    show Steps p.tables e below (s₁.setTop (mkF m 0 #[.val (.int p0), .val (.int p1), .val (.int p2), .val (.int p3), .val (.int p4), .val (.int p5), .unset, .unset, .unset, .unset, .unset, .unset, .unset, .unset, .unset, .unset, .unset, .unset, .unset, .unset] [])) _
    refine XS.iloadN X0.here hx rfl (hb hby at_0) rfl ?_
    show Steps p.tables e below (s₁.setTop (mkF m 1 #[.val (.int p0), .val (.int p1), .val (.int p2), .val (.int p3), .val (.int p4), .val (.int p5), .unset, .unset, .unset, .unset, .unset, .unset, .unset, .unset, .unset, .unset, .unset, .unset, .unset, .unset] [(.int p1)])) _
    refine X0.ldcInt hx hown (mvT hZ (hw _ (List.mem_of_getElem? (i := 0) rfl))) (g := (mkF m 1 #[.val (.int p0), .val (.int p1), .val (.int p2), .val (.int p3), .val (.int p4), .val (.int p5), .unset, .unset, .unset, .unset, .unset, .unset, .unset, .unset, .unset, .unset, .unset, .unset, .unset, .unset] [(.int p1)])) rfl (hb hby at_1) _ ?_
    show Steps p.tables e below (s₁.setTop (mkF m 3 #[.val (.int p0), .val (.int p1), .val (.int p2), .val (.int p3), .val (.int p4), .val (.int p5), .unset, .unset, .unset, .unset, .unset, .unset, .unset, .unset, .unset, .unset, .unset, .unset, .unset, .unset] [(.int (2147483647 : Int32)), (.int p1)])) _
    refine XS.iand X0.here hx rfl (hb hby at_3) rfl ?_
    exact k)
  obtain ⟨v2, hv2⟩ : ∃ z : Int32, z = (p1 &&& (2147483647 : Int32)) := ⟨_, rfl⟩
  have pre3 : ∀ t, Steps p.tables e below (s₁.setTop (mkF m 4 #[.val (.int p0), .val (.int p1), .val (.int p2), .val (.int p3), .val (.int p4), .val (.int p5), .unset, .unset, .unset, .unset, .unset, .unset, .unset, .unset, .unset, .unset, .unset, .unset, .unset, .unset] [(.int v2)])) t → Steps p.tables e below (s₁.setTop (entryFrame m #[(.int p0), (.int p1), (.int p2), (.int p3), (.int p4), (.int p5)] maxLocals)) t := fun t k => pre1 t (by rw [hv2] at k; exact k)
  have pre4 : ∀ t, Steps p.tables e below (s₁.setTop (mkF m 10 #[.val (.int p0), .val (.int p1), .val (.int p2), .val (.int p3), .val (.int p4), .val (.int p5), .val (.int v2), .unset, .unset, .unset, .unset, .unset, .unset, .unset, .unset, .unset, .unset, .unset, .unset, .unset] [(.int (p2 &&& (2147483647 : Int32)))])) t → Steps p.tables e below (s₁.setTop (entryFrame m #[(.int p0), (.int p1), (.int p2), (.int p3), (.int p4), (.int p5)] maxLocals)) t := fun t k => pre3 t (by
    show Steps p.tables e below (s₁.setTop (mkF m 4 #[.val (.int p0), .val (.int p1), .val (.int p2), .val (.int p3), .val (.int p4), .val (.int p5), .unset, .unset, .unset, .unset, .unset, .unset, .unset, .unset, .unset, .unset, .unset, .unset, .unset, .unset] [(.int v2)])) _
    refine XS.istore X0.here hx rfl (hb hby at_4) rfl (l' := #[.val (.int p0), .val (.int p1), .val (.int p2), .val (.int p3), .val (.int p4), .val (.int p5), .val (.int v2), .unset, .unset, .unset, .unset, .unset, .unset, .unset, .unset, .unset, .unset, .unset, .unset, .unset]) rfl ?_
    show Steps p.tables e below (s₁.setTop (mkF m 6 #[.val (.int p0), .val (.int p1), .val (.int p2), .val (.int p3), .val (.int p4), .val (.int p5), .val (.int v2), .unset, .unset, .unset, .unset, .unset, .unset, .unset, .unset, .unset, .unset, .unset, .unset, .unset] [])) _
    refine XS.iloadN X0.here hx rfl (hb hby at_6) rfl ?_
    show Steps p.tables e below (s₁.setTop (mkF m 7 #[.val (.int p0), .val (.int p1), .val (.int p2), .val (.int p3), .val (.int p4), .val (.int p5), .val (.int v2), .unset, .unset, .unset, .unset, .unset, .unset, .unset, .unset, .unset, .unset, .unset, .unset, .unset] [(.int p2)])) _
    refine X0.ldcInt hx hown (mvT hZ (hw _ (List.mem_of_getElem? (i := 0) rfl))) (g := (mkF m 7 #[.val (.int p0), .val (.int p1), .val (.int p2), .val (.int p3), .val (.int p4), .val (.int p5), .val (.int v2), .unset, .unset, .unset, .unset, .unset, .unset, .unset, .unset, .unset, .unset, .unset, .unset, .unset] [(.int p2)])) rfl (hb hby at_7) _ ?_
    show Steps p.tables e below (s₁.setTop (mkF m 9 #[.val (.int p0), .val (.int p1), .val (.int p2), .val (.int p3), .val (.int p4), .val (.int p5), .val (.int v2), .unset, .unset, .unset, .unset, .unset, .unset, .unset, .unset, .unset, .unset, .unset, .unset, .unset] [(.int (2147483647 : Int32)), (.int p2)])) _
    refine XS.iand X0.here hx rfl (hb hby at_9) rfl ?_
    exact k)
  obtain ⟨v5, hv5⟩ : ∃ z : Int32, z = (p2 &&& (2147483647 : Int32)) := ⟨_, rfl⟩
  have pre6 : ∀ t, Steps p.tables e below (s₁.setTop (mkF m 10 #[.val (.int p0), .val (.int p1), .val (.int p2), .val (.int p3), .val (.int p4), .val (.int p5), .val (.int v2), .unset, .unset, .unset, .unset, .unset, .unset, .unset, .unset, .unset, .unset, .unset, .unset, .unset] [(.int v5)])) t → Steps p.tables e below (s₁.setTop (entryFrame m #[(.int p0), (.int p1), (.int p2), (.int p3), (.int p4), (.int p5)] maxLocals)) t := fun t k => pre4 t (by rw [hv5] at k; exact k)
  have pre7 : ∀ t, Steps p.tables e below (s₁.setTop (mkF m 16 #[.val (.int p0), .val (.int p1), .val (.int p2), .val (.int p3), .val (.int p4), .val (.int p5), .val (.int v2), .val (.int v5), .unset, .unset, .unset, .unset, .unset, .unset, .unset, .unset, .unset, .unset, .unset, .unset] [(.int v5), (.int v2)])) t → Steps p.tables e below (s₁.setTop (entryFrame m #[(.int p0), (.int p1), (.int p2), (.int p3), (.int p4), (.int p5)] maxLocals)) t := fun t k => pre6 t (by
    show Steps p.tables e below (s₁.setTop (mkF m 10 #[.val (.int p0), .val (.int p1), .val (.int p2), .val (.int p3), .val (.int p4), .val (.int p5), .val (.int v2), .unset, .unset, .unset, .unset, .unset, .unset, .unset, .unset, .unset, .unset, .unset, .unset, .unset] [(.int v5)])) _
    refine XS.istore X0.here hx rfl (hb hby at_10) rfl (l' := #[.val (.int p0), .val (.int p1), .val (.int p2), .val (.int p3), .val (.int p4), .val (.int p5), .val (.int v2), .val (.int v5), .unset, .unset, .unset, .unset, .unset, .unset, .unset, .unset, .unset, .unset, .unset, .unset]) rfl ?_
    show Steps p.tables e below (s₁.setTop (mkF m 12 #[.val (.int p0), .val (.int p1), .val (.int p2), .val (.int p3), .val (.int p4), .val (.int p5), .val (.int v2), .val (.int v5), .unset, .unset, .unset, .unset, .unset, .unset, .unset, .unset, .unset, .unset, .unset, .unset] [])) _
    refine XS.iload X0.here hx rfl (hb hby at_12) rfl ?_
    show Steps p.tables e below (s₁.setTop (mkF m 14 #[.val (.int p0), .val (.int p1), .val (.int p2), .val (.int p3), .val (.int p4), .val (.int p5), .val (.int v2), .val (.int v5), .unset, .unset, .unset, .unset, .unset, .unset, .unset, .unset, .unset, .unset, .unset, .unset] [(.int v2)])) _
    refine XS.iload X0.here hx rfl (hb hby at_14) rfl ?_
    exact k)
  obtain ⟨_, _, ⟨T8, L8, k8, n8⟩, -, X8, ⟨Lc8, hQ8, l8, y8, z8⟩, st8⟩ := Jvm.LawKit.callS X0 hx (y := (⟨"java/lang/Math", "min", "(II)I"⟩ : MethodName)) hown (mvT hZ (hw _ (List.mem_of_getElem? (i := 1) rfl))) (mvT hZ (hw _ (List.mem_of_getElem? (i := 2) rfl))) (mvT hZ (hw _ (List.mem_of_getElem? (i := 3) rfl))) (mvT hZ (hw _ (List.mem_of_getElem? (i := 4) rfl))) (by decide) (backOf (W := 0) (rm1 l Z aw hw [] v2 v5 h0 n0 Z0) hZ (hw _ (List.mem_of_getElem? (i := 4) rfl)) (hw _ (List.mem_of_getElem? (i := 3) rfl)) (by decide) (by decide)) (g := (mkF m 16 #[.val (.int p0), .val (.int p1), .val (.int p2), .val (.int p3), .val (.int p4), .val (.int p5), .val (.int v2), .val (.int v5), .unset, .unset, .unset, .unset, .unset, .unset, .unset, .unset, .unset, .unset, .unset, .unset] [(.int v5), (.int v2)])) rfl (by rw [hml]; rfl) (argsL := [(.int v2), (.int v5)]) (rest := []) (lenOf pd_0 rfl) rfl (by show 2 * 0 + _ ≤ _; exact Nat.le_of_eq rfl) (hb hby at_16) (fun _ _ => ⟨rfl, e0, (by decide : 0 + 0 ≤ _), (by decide : 0 + 0 ≤ _)⟩)
  dsimp only [Pt.U, Pt.locs, Pt.cells, Pt.slots] at X8 l8 y8 z8 st8 hQ8
  subst l8 y8 z8
  obtain ⟨rfl, N8q, e8⟩ := hQ8
  have N8 := Fr.app N0 N8q
  have pre9 : ∀ t, Steps p.tables e below (T8.setTop (mkF m 19 #[.val (.int p0), .val (.int p1), .val (.int p2), .val (.int p3), .val (.int p4), .val (.int p5), .val (.int v2), .val (.int v5), .unset, .unset, .unset, .unset, .unset, .unset, .unset, .unset, .unset, .unset, .unset, .unset] [(.int (f1 v2 v5))])) t → Steps p.tables e below (s₁.setTop (entryFrame m #[(.int p0), (.int p1), (.int p2), (.int p3), (.int p4), (.int p5)] maxLocals)) t := fun t k => pre7 t (by
    show Steps p.tables e below (s₁.setTop (mkF m 16 #[.val (.int p0), .val (.int p1), .val (.int p2), .val (.int p3), .val (.int p4), .val (.int p5), .val (.int v2), .val (.int v5), .unset, .unset, .unset, .unset, .unset, .unset, .unset, .unset, .unset, .unset, .unset, .unset] [(.int v5), (.int v2)])) _
    refine st8 _ ?_
    exact k)
  obtain ⟨v10, hv10⟩ : ∃ z : Int32, z = (f1 v2 v5) := ⟨_, rfl⟩
  have pre11 : ∀ t, Steps p.tables e below (T8.setTop (mkF m 19 #[.val (.int p0), .val (.int p1), .val (.int p2), .val (.int p3), .val (.int p4), .val (.int p5), .val (.int v2), .val (.int v5), .unset, .unset, .unset, .unset, .unset, .unset, .unset, .unset, .unset, .unset, .unset, .unset] [(.int v10)])) t → Steps p.tables e below (s₁.setTop (entryFrame m #[(.int p0), (.int p1), (.int p2), (.int p3), (.int p4), (.int p5)] maxLocals)) t := fun t k => pre9 t (by rw [hv10] at k; exact k)
  have pre12 : ∀ t, Steps p.tables e below (T8.setTop (mkF m 25 #[.val (.int p0), .val (.int p1), .val (.int p2), .val (.int p3), .val (.int p4), .val (.int p5), .val (.int v2), .val (.int v5), .val (.int v10), .unset, .unset, .unset, .unset, .unset, .unset, .unset, .unset, .unset, .unset, .unset] [(.int v5), (.int v2)])) t → Steps p.tables e below (s₁.setTop (entryFrame m #[(.int p0), (.int p1), (.int p2), (.int p3), (.int p4), (.int p5)] maxLocals)) t := fun t k => pre11 t (by
    show Steps p.tables e below (T8.setTop (mkF m 19 #[.val (.int p0), .val (.int p1), .val (.int p2), .val (.int p3), .val (.int p4), .val (.int p5), .val (.int v2), .val (.int v5), .unset, .unset, .unset, .unset, .unset, .unset, .unset, .unset, .unset, .unset, .unset, .unset] [(.int v10)])) _
    refine XS.istore X8.here hx rfl (hb hby at_19) rfl (l' := #[.val (.int p0), .val (.int p1), .val (.int p2), .val (.int p3), .val (.int p4), .val (.int p5), .val (.int v2), .val (.int v5), .val (.int v10), .unset, .unset, .unset, .unset, .unset, .unset, .unset, .unset, .unset, .unset, .unset]) rfl ?_
    show Steps p.tables e below (T8.setTop (mkF m 21 #[.val (.int p0), .val (.int p1), .val (.int p2), .val (.int p3), .val (.int p4), .val (.int p5), .val (.int v2), .val (.int v5), .val (.int v10), .unset, .unset, .unset, .unset, .unset, .unset, .unset, .unset, .unset, .unset, .unset] [])) _
    refine XS.iload X8.here hx rfl (hb hby at_21) rfl ?_
    show Steps p.tables e below (T8.setTop (mkF m 23 #[.val (.int p0), .val (.int p1), .val (.int p2), .val (.int p3), .val (.int p4), .val (.int p5), .val (.int v2), .val (.int v5), .val (.int v10), .unset, .unset, .unset, .unset, .unset, .unset, .unset, .unset, .unset, .unset, .unset] [(.int v2)])) _
    refine XS.iload X8.here hx rfl (hb hby at_23) rfl ?_
    exact k)
  obtain ⟨_, _, ⟨T13, L13, k13, n13⟩, -, X13, ⟨Lc13, hQ13, l13, y13, z13⟩, st13⟩ := Jvm.LawKit.callS X8 hx (y := (⟨"java/lang/Math", "max", "(II)I"⟩ : MethodName)) hown (mvT hZ (hw _ (List.mem_of_getElem? (i := 5) rfl))) (mvT hZ (hw _ (List.mem_of_getElem? (i := 6) rfl))) (mvT hZ (hw _ (List.mem_of_getElem? (i := 3) rfl))) (mvT hZ (hw _ (List.mem_of_getElem? (i := 7) rfl))) (by decide) (backOf (W := 0) (rm2 l Z aw hw [] v2 v5 h0 n0 Z0) hZ (hw _ (List.mem_of_getElem? (i := 7) rfl)) (hw _ (List.mem_of_getElem? (i := 3) rfl)) (by decide) (by decide)) (g := (mkF m 25 #[.val (.int p0), .val (.int p1), .val (.int p2), .val (.int p3), .val (.int p4), .val (.int p5), .val (.int v2), .val (.int v5), .val (.int v10), .unset, .unset, .unset, .unset, .unset, .unset, .unset, .unset, .unset, .unset, .unset] [(.int v5), (.int v2)])) rfl (by rw [hml]; rfl) (argsL := [(.int v2), (.int v5)]) (rest := []) (lenOf pd_0 rfl) rfl (by show 2 * 0 + _ ≤ _; exact Nat.le_of_eq rfl) (hb hby at_25) (fun _ _ => ⟨rfl, e8, (by decide : 0 + 0 ≤ _), (by decide : 0 + 0 ≤ _)⟩)
  dsimp only [Pt.U, Pt.locs, Pt.cells, Pt.slots] at X13 l13 y13 z13 st13 hQ13
  subst l13 y13 z13
  obtain ⟨rfl, N13q, e13⟩ := hQ13
  have N13 := Fr.app N8 N13q
  have pre14 : ∀ t, Steps p.tables e below (T13.setTop (mkF m 28 #[.val (.int p0), .val (.int p1), .val (.int p2), .val (.int p3), .val (.int p4), .val (.int p5), .val (.int v2), .val (.int v5), .val (.int v10), .unset, .unset, .unset, .unset, .unset, .unset, .unset, .unset, .unset, .unset, .unset] [(.int (f2 v2 v5))])) t → Steps p.tables e below (s₁.setTop (entryFrame m #[(.int p0), (.int p1), (.int p2), (.int p3), (.int p4), (.int p5)] maxLocals)) t := fun t k => pre12 t (by
    show Steps p.tables e below (T8.setTop (mkF m 25 #[.val (.int p0), .val (.int p1), .val (.int p2), .val (.int p3), .val (.int p4), .val (.int p5), .val (.int v2), .val (.int v5), .val (.int v10), .unset, .unset, .unset, .unset, .unset, .unset, .unset, .unset, .unset, .unset, .unset] [(.int v5), (.int v2)])) _
    refine st13 _ ?_
    exact k)
  obtain ⟨v15, hv15⟩ : ∃ z : Int32, z = (f2 v2 v5) := ⟨_, rfl⟩
  have pre16 : ∀ t, Steps p.tables e below (T13.setTop (mkF m 28 #[.val (.int p0), .val (.int p1), .val (.int p2), .val (.int p3), .val (.int p4), .val (.int p5), .val (.int v2), .val (.int v5), .val (.int v10), .unset, .unset, .unset, .unset, .unset, .unset, .unset, .unset, .unset, .unset, .unset] [(.int v15)])) t → Steps p.tables e below (s₁.setTop (entryFrame m #[(.int p0), (.int p1), (.int p2), (.int p3), (.int p4), (.int p5)] maxLocals)) t := fun t k => pre14 t (by rw [hv15] at k; exact k)
  have pre17 : ∀ t, Steps p.tables e below (T13.setTop (mkF m 35 #[.val (.int p0), .val (.int p1), .val (.int p2), .val (.int p3), .val (.int p4), .val (.int p5), .val (.int v2), .val (.int v5), .val (.int v10), .val (.int v15), .unset, .unset, .unset, .unset, .unset, .unset, .unset, .unset, .unset, .unset] [(.int (p5 &&& (7 : Int32)))])) t → Steps p.tables e below (s₁.setTop (entryFrame m #[(.int p0), (.int p1), (.int p2), (.int p3), (.int p4), (.int p5)] maxLocals)) t := fun t k => pre16 t (by
    show Steps p.tables e below (T13.setTop (mkF m 28 #[.val (.int p0), .val (.int p1), .val (.int p2), .val (.int p3), .val (.int p4), .val (.int p5), .val (.int v2), .val (.int v5), .val (.int v10), .unset, .unset, .unset, .unset, .unset, .unset, .unset, .unset, .unset, .unset, .unset] [(.int v15)])) _
    refine XS.istore X13.here hx rfl (hb hby at_28) rfl (l' := #[.val (.int p0), .val (.int p1), .val (.int p2), .val (.int p3), .val (.int p4), .val (.int p5), .val (.int v2), .val (.int v5), .val (.int v10), .val (.int v15), .unset, .unset, .unset, .unset, .unset, .unset, .unset, .unset, .unset, .unset]) rfl ?_
    show Steps p.tables e below (T13.setTop (mkF m 30 #[.val (.int p0), .val (.int p1), .val (.int p2), .val (.int p3), .val (.int p4), .val (.int p5), .val (.int v2), .val (.int v5), .val (.int v10), .val (.int v15), .unset, .unset, .unset, .unset, .unset, .unset, .unset, .unset, .unset, .unset] [])) _
    refine XS.iload X13.here hx rfl (hb hby at_30) rfl ?_
    show Steps p.tables e below (T13.setTop (mkF m 32 #[.val (.int p0), .val (.int p1), .val (.int p2), .val (.int p3), .val (.int p4), .val (.int p5), .val (.int v2), .val (.int v5), .val (.int v10), .val (.int v15), .unset, .unset, .unset, .unset, .unset, .unset, .unset, .unset, .unset, .unset] [(.int p5)])) _
    refine XS.bipush X13.here hx rfl (hb hby at_32) ?_
    show Steps p.tables e below (T13.setTop (mkF m 34 #[.val (.int p0), .val (.int p1), .val (.int p2), .val (.int p3), .val (.int p4), .val (.int p5), .val (.int v2), .val (.int v5), .val (.int v10), .val (.int v15), .unset, .unset, .unset, .unset, .unset, .unset, .unset, .unset, .unset, .unset] [(.int (7 : Int32)), (.int p5)])) _
    refine XS.iand X13.here hx rfl (hb hby at_34) rfl ?_
    exact k)
  obtain ⟨v18, hv18⟩ : ∃ z : Int32, z = (p5 &&& (7 : Int32)) := ⟨_, rfl⟩
  have pre19 : ∀ t, Steps p.tables e below (T13.setTop (mkF m 35 #[.val (.int p0), .val (.int p1), .val (.int p2), .val (.int p3), .val (.int p4), .val (.int p5), .val (.int v2), .val (.int v5), .val (.int v10), .val (.int v15), .unset, .unset, .unset, .unset, .unset, .unset, .unset, .unset, .unset, .unset] [(.int v18)])) t → Steps p.tables e below (s₁.setTop (entryFrame m #[(.int p0), (.int p1), (.int p2), (.int p3), (.int p4), (.int p5)] maxLocals)) t := fun t k => pre17 t (by rw [hv18] at k; exact k)
  have pre20 : ∀ t, Steps p.tables e below (T13.setTop (mkF m 40 #[.val (.int p0), .val (.int p1), .val (.int p2), .val (.int p3), .val (.int p4), .val (.int p5), .val (.int v2), .val (.int v5), .val (.int v10), .val (.int v15), .val (.int v18), .unset, .unset, .unset, .unset, .unset, .unset, .unset, .unset, .unset] [(.int (1 : Int32)), (.int v18)])) t → Steps p.tables e below (s₁.setTop (entryFrame m #[(.int p0), (.int p1), (.int p2), (.int p3), (.int p4), (.int p5)] maxLocals)) t := fun t k => pre19 t (by
    show Steps p.tables e below (T13.setTop (mkF m 35 #[.val (.int p0), .val (.int p1), .val (.int p2), .val (.int p3), .val (.int p4), .val (.int p5), .val (.int v2), .val (.int v5), .val (.int v10), .val (.int v15), .unset, .unset, .unset, .unset, .unset, .unset, .unset, .unset, .unset, .unset] [(.int v18)])) _
    refine XS.istore X13.here hx rfl (hb hby at_35) rfl (l' := #[.val (.int p0), .val (.int p1), .val (.int p2), .val (.int p3), .val (.int p4), .val (.int p5), .val (.int v2), .val (.int v5), .val (.int v10), .val (.int v15), .val (.int v18), .unset, .unset, .unset, .unset, .unset, .unset, .unset, .unset, .unset]) rfl ?_
    show Steps p.tables e below (T13.setTop (mkF m 37 #[.val (.int p0), .val (.int p1), .val (.int p2), .val (.int p3), .val (.int p4), .val (.int p5), .val (.int v2), .val (.int v5), .val (.int v10), .val (.int v15), .val (.int v18), .unset, .unset, .unset, .unset, .unset, .unset, .unset, .unset, .unset] [])) _
    refine XS.iload X13.here hx rfl (hb hby at_37) rfl ?_
    show Steps p.tables e below (T13.setTop (mkF m 39 #[.val (.int p0), .val (.int p1), .val (.int p2), .val (.int p3), .val (.int p4), .val (.int p5), .val (.int v2), .val (.int v5), .val (.int v10), .val (.int v15), .val (.int v18), .unset, .unset, .unset, .unset, .unset, .unset, .unset, .unset, .unset] [(.int v18)])) _
    refine XS.iconst X13.here hx rfl (hb hby at_39) ?_
    exact k)
  obtain ⟨j28, hj28, pre29⟩ : ∃ (j28 : Int32), j28 = (if v18 = (1 : Int32) then (v10 - (1 : Int32)) else (if v18 = (2 : Int32) then v10 else (if v18 = (3 : Int32) then v15 else (if v18 = (4 : Int32) then (v15 + (1 : Int32)) else p4)))) ∧ ∀ t, Steps p.tables e below (T13.setTop (mkF m 97 #[.val (.int p0), .val (.int p1), .val (.int p2), .val (.int p3), .val (.int p4), .val (.int p5), .val (.int v2), .val (.int v5), .val (.int v10), .val (.int v15), .val (.int v18), .val (.int j28), .unset, .unset, .unset, .unset, .unset, .unset, .unset, .unset] [])) t → Steps p.tables e below (s₁.setTop (entryFrame m #[(.int p0), (.int p1), (.int p2), (.int p3), (.int p4), (.int p5)] maxLocals)) t := by
    by_cases hc21 : v18 = (1 : Int32)
    · exact ⟨(v10 - (1 : Int32)), (by rw [if_pos hc21]), fun t k => pre20 t (by
        show Steps p.tables e below (T13.setTop (mkF m 40 #[.val (.int p0), .val (.int p1), .val (.int p2), .val (.int p3), .val (.int p4), .val (.int p5), .val (.int v2), .val (.int v5), .val (.int v10), .val (.int v15), .val (.int v18), .unset, .unset, .unset, .unset, .unset, .unset, .unset, .unset, .unset] [(.int (1 : Int32)), (.int v18)])) _
        refine XS.icmpNo X13.here hx rfl (hb hby at_40) rfl (teq hc21).2 ?_
        show Steps p.tables e below (T13.setTop (mkF m 43 #[.val (.int p0), .val (.int p1), .val (.int p2), .val (.int p3), .val (.int p4), .val (.int p5), .val (.int v2), .val (.int v5), .val (.int v10), .val (.int v15), .val (.int v18), .unset, .unset, .unset, .unset, .unset, .unset, .unset, .unset, .unset] [])) _
        refine XS.iload X13.here hx rfl (hb hby at_43) rfl ?_
        show Steps p.tables e below (T13.setTop (mkF m 45 #[.val (.int p0), .val (.int p1), .val (.int p2), .val (.int p3), .val (.int p4), .val (.int p5), .val (.int v2), .val (.int v5), .val (.int v10), .val (.int v15), .val (.int v18), .unset, .unset, .unset, .unset, .unset, .unset, .unset, .unset, .unset] [(.int v10)])) _
        refine XS.iconst X13.here hx rfl (hb hby at_45) ?_
        show Steps p.tables e below (T13.setTop (mkF m 46 #[.val (.int p0), .val (.int p1), .val (.int p2), .val (.int p3), .val (.int p4), .val (.int p5), .val (.int v2), .val (.int v5), .val (.int v10), .val (.int v15), .val (.int v18), .unset, .unset, .unset, .unset, .unset, .unset, .unset, .unset, .unset] [(.int (1 : Int32)), (.int v10)])) _
        refine XS.isub X13.here hx rfl (hb hby at_46) rfl ?_
        show Steps p.tables e below (T13.setTop (mkF m 47 #[.val (.int p0), .val (.int p1), .val (.int p2), .val (.int p3), .val (.int p4), .val (.int p5), .val (.int v2), .val (.int v5), .val (.int v10), .val (.int v15), .val (.int v18), .unset, .unset, .unset, .unset, .unset, .unset, .unset, .unset, .unset] [(.int (v10 - (1 : Int32)))])) _
        refine XS.istore X13.here hx rfl (hb hby at_47) rfl (l' := #[.val (.int p0), .val (.int p1), .val (.int p2), .val (.int p3), .val (.int p4), .val (.int p5), .val (.int v2), .val (.int v5), .val (.int v10), .val (.int v15), .val (.int v18), .val (.int (v10 - (1 : Int32))), .unset, .unset, .unset, .unset, .unset, .unset, .unset, .unset]) rfl ?_
        show Steps p.tables e below (T13.setTop (mkF m 49 #[.val (.int p0), .val (.int p1), .val (.int p2), .val (.int p3), .val (.int p4), .val (.int p5), .val (.int v2), .val (.int v5), .val (.int v10), .val (.int v15), .val (.int v18), .val (.int (v10 - (1 : Int32))), .unset, .unset, .unset, .unset, .unset, .unset, .unset, .unset] [])) _
        refine XS.goto X13.here hx rfl (pc0 := 49) (pc' := 97) rfl (hb hby at_49) (by decide) (by decide) ?_
        exact k)⟩
    · have pre22 : ∀ t, Steps p.tables e below (T13.setTop (mkF m 55 #[.val (.int p0), .val (.int p1), .val (.int p2), .val (.int p3), .val (.int p4), .val (.int p5), .val (.int v2), .val (.int v5), .val (.int v10), .val (.int v15), .val (.int v18), .unset, .unset, .unset, .unset, .unset, .unset, .unset, .unset, .unset] [(.int (2 : Int32)), (.int v18)])) t → Steps p.tables e below (s₁.setTop (entryFrame m #[(.int p0), (.int p1), (.int p2), (.int p3), (.int p4), (.int p5)] maxLocals)) t := fun t k => pre20 t (by
        show Steps p.tables e below (T13.setTop (mkF m 40 #[.val (.int p0), .val (.int p1), .val (.int p2), .val (.int p3), .val (.int p4), .val (.int p5), .val (.int v2), .val (.int v5), .val (.int v10), .val (.int v15), .val (.int v18), .unset, .unset, .unset, .unset, .unset, .unset, .unset, .unset, .unset] [(.int (1 : Int32)), (.int v18)])) _
        refine XS.icmpYes X13.here hx rfl (pc0 := 40) (pc' := 52) rfl (hb hby at_40) rfl (feq hc21).2 (by decide) (by decide) ?_
        show Steps p.tables e below (T13.setTop (mkF m 52 #[.val (.int p0), .val (.int p1), .val (.int p2), .val (.int p3), .val (.int p4), .val (.int p5), .val (.int v2), .val (.int v5), .val (.int v10), .val (.int v15), .val (.int v18), .unset, .unset, .unset, .unset, .unset, .unset, .unset, .unset, .unset] [])) _
        refine XS.iload X13.here hx rfl (hb hby at_52) rfl ?_
        show Steps p.tables e below (T13.setTop (mkF m 54 #[.val (.int p0), .val (.int p1), .val (.int p2), .val (.int p3), .val (.int p4), .val (.int p5), .val (.int v2), .val (.int v5), .val (.int v10), .val (.int v15), .val (.int v18), .unset, .unset, .unset, .unset, .unset, .unset, .unset, .unset, .unset] [(.int v18)])) _
        refine XS.iconst X13.here hx rfl (hb hby at_54) ?_
        exact k)
      by_cases hc23 : v18 = (2 : Int32)
      · exact ⟨v10, (by rw [if_neg hc21, if_pos hc23]), fun t k => pre22 t (by
          show Steps p.tables e below (T13.setTop (mkF m 55 #[.val (.int p0), .val (.int p1), .val (.int p2), .val (.int p3), .val (.int p4), .val (.int p5), .val (.int v2), .val (.int v5), .val (.int v10), .val (.int v15), .val (.int v18), .unset, .unset, .unset, .unset, .unset, .unset, .unset, .unset, .unset] [(.int (2 : Int32)), (.int v18)])) _
          refine XS.icmpNo X13.here hx rfl (hb hby at_55) rfl (teq hc23).2 ?_
          show Steps p.tables e below (T13.setTop (mkF m 58 #[.val (.int p0), .val (.int p1), .val (.int p2), .val (.int p3), .val (.int p4), .val (.int p5), .val (.int v2), .val (.int v5), .val (.int v10), .val (.int v15), .val (.int v18), .unset, .unset, .unset, .unset, .unset, .unset, .unset, .unset, .unset] [])) _
          refine XS.iload X13.here hx rfl (hb hby at_58) rfl ?_
          show Steps p.tables e below (T13.setTop (mkF m 60 #[.val (.int p0), .val (.int p1), .val (.int p2), .val (.int p3), .val (.int p4), .val (.int p5), .val (.int v2), .val (.int v5), .val (.int v10), .val (.int v15), .val (.int v18), .unset, .unset, .unset, .unset, .unset, .unset, .unset, .unset, .unset] [(.int v10)])) _
          refine XS.istore X13.here hx rfl (hb hby at_60) rfl (l' := #[.val (.int p0), .val (.int p1), .val (.int p2), .val (.int p3), .val (.int p4), .val (.int p5), .val (.int v2), .val (.int v5), .val (.int v10), .val (.int v15), .val (.int v18), .val (.int v10), .unset, .unset, .unset, .unset, .unset, .unset, .unset, .unset]) rfl ?_
          show Steps p.tables e below (T13.setTop (mkF m 62 #[.val (.int p0), .val (.int p1), .val (.int p2), .val (.int p3), .val (.int p4), .val (.int p5), .val (.int v2), .val (.int v5), .val (.int v10), .val (.int v15), .val (.int v18), .val (.int v10), .unset, .unset, .unset, .unset, .unset, .unset, .unset, .unset] [])) _
          refine XS.goto X13.here hx rfl (pc0 := 62) (pc' := 97) rfl (hb hby at_62) (by decide) (by decide) ?_
          exact k)⟩
      · have pre24 : ∀ t, Steps p.tables e below (T13.setTop (mkF m 68 #[.val (.int p0), .val (.int p1), .val (.int p2), .val (.int p3), .val (.int p4), .val (.int p5), .val (.int v2), .val (.int v5), .val (.int v10), .val (.int v15), .val (.int v18), .unset, .unset, .unset, .unset, .unset, .unset, .unset, .unset, .unset] [(.int (3 : Int32)), (.int v18)])) t → Steps p.tables e below (s₁.setTop (entryFrame m #[(.int p0), (.int p1), (.int p2), (.int p3), (.int p4), (.int p5)] maxLocals)) t := fun t k => pre22 t (by
          show Steps p.tables e below (T13.setTop (mkF m 55 #[.val (.int p0), .val (.int p1), .val (.int p2), .val (.int p3), .val (.int p4), .val (.int p5), .val (.int v2), .val (.int v5), .val (.int v10), .val (.int v15), .val (.int v18), .unset, .unset, .unset, .unset, .unset, .unset, .unset, .unset, .unset] [(.int (2 : Int32)), (.int v18)])) _
          refine XS.icmpYes X13.here hx rfl (pc0 := 55) (pc' := 65) rfl (hb hby at_55) rfl (feq hc23).2 (by decide) (by decide) ?_
          show Steps p.tables e below (T13.setTop (mkF m 65 #[.val (.int p0), .val (.int p1), .val (.int p2), .val (.int p3), .val (.int p4), .val (.int p5), .val (.int v2), .val (.int v5), .val (.int v10), .val (.int v15), .val (.int v18), .unset, .unset, .unset, .unset, .unset, .unset, .unset, .unset, .unset] [])) _
          refine XS.iload X13.here hx rfl (hb hby at_65) rfl ?_
          show Steps p.tables e below (T13.setTop (mkF m 67 #[.val (.int p0), .val (.int p1), .val (.int p2), .val (.int p3), .val (.int p4), .val (.int p5), .val (.int v2), .val (.int v5), .val (.int v10), .val (.int v15), .val (.int v18), .unset, .unset, .unset, .unset, .unset, .unset, .unset, .unset, .unset] [(.int v18)])) _
          refine XS.iconst X13.here hx rfl (hb hby at_67) ?_
          exact k)
        by_cases hc25 : v18 = (3 : Int32)
        · exact ⟨v15, (by rw [if_neg hc21, if_neg hc23, if_pos hc25]), fun t k => pre24 t (by
            show Steps p.tables e below (T13.setTop (mkF m 68 #[.val (.int p0), .val (.int p1), .val (.int p2), .val (.int p3), .val (.int p4), .val (.int p5), .val (.int v2), .val (.int v5), .val (.int v10), .val (.int v15), .val (.int v18), .unset, .unset, .unset, .unset, .unset, .unset, .unset, .unset, .unset] [(.int (3 : Int32)), (.int v18)])) _
            refine XS.icmpNo X13.here hx rfl (hb hby at_68) rfl (teq hc25).2 ?_
            show Steps p.tables e below (T13.setTop (mkF m 71 #[.val (.int p0), .val (.int p1), .val (.int p2), .val (.int p3), .val (.int p4), .val (.int p5), .val (.int v2), .val (.int v5), .val (.int v10), .val (.int v15), .val (.int v18), .unset, .unset, .unset, .unset, .unset, .unset, .unset, .unset, .unset] [])) _
            refine XS.iload X13.here hx rfl (hb hby at_71) rfl ?_
            show Steps p.tables e below (T13.setTop (mkF m 73 #[.val (.int p0), .val (.int p1), .val (.int p2), .val (.int p3), .val (.int p4), .val (.int p5), .val (.int v2), .val (.int v5), .val (.int v10), .val (.int v15), .val (.int v18), .unset, .unset, .unset, .unset, .unset, .unset, .unset, .unset, .unset] [(.int v15)])) _
            refine XS.istore X13.here hx rfl (hb hby at_73) rfl (l' := #[.val (.int p0), .val (.int p1), .val (.int p2), .val (.int p3), .val (.int p4), .val (.int p5), .val (.int v2), .val (.int v5), .val (.int v10), .val (.int v15), .val (.int v18), .val (.int v15), .unset, .unset, .unset, .unset, .unset, .unset, .unset, .unset]) rfl ?_
            show Steps p.tables e below (T13.setTop (mkF m 75 #[.val (.int p0), .val (.int p1), .val (.int p2), .val (.int p3), .val (.int p4), .val (.int p5), .val (.int v2), .val (.int v5), .val (.int v10), .val (.int v15), .val (.int v18), .val (.int v15), .unset, .unset, .unset, .unset, .unset, .unset, .unset, .unset] [])) _
            refine XS.goto X13.here hx rfl (pc0 := 75) (pc' := 97) rfl (hb hby at_75) (by decide) (by decide) ?_
            exact k)⟩
        · have pre26 : ∀ t, Steps p.tables e below (T13.setTop (mkF m 81 #[.val (.int p0), .val (.int p1), .val (.int p2), .val (.int p3), .val (.int p4), .val (.int p5), .val (.int v2), .val (.int v5), .val (.int v10), .val (.int v15), .val (.int v18), .unset, .unset, .unset, .unset, .unset, .unset, .unset, .unset, .unset] [(.int (4 : Int32)), (.int v18)])) t → Steps p.tables e below (s₁.setTop (entryFrame m #[(.int p0), (.int p1), (.int p2), (.int p3), (.int p4), (.int p5)] maxLocals)) t := fun t k => pre24 t (by
            show Steps p.tables e below (T13.setTop (mkF m 68 #[.val (.int p0), .val (.int p1), .val (.int p2), .val (.int p3), .val (.int p4), .val (.int p5), .val (.int v2), .val (.int v5), .val (.int v10), .val (.int v15), .val (.int v18), .unset, .unset, .unset, .unset, .unset, .unset, .unset, .unset, .unset] [(.int (3 : Int32)), (.int v18)])) _
            refine XS.icmpYes X13.here hx rfl (pc0 := 68) (pc' := 78) rfl (hb hby at_68) rfl (feq hc25).2 (by decide) (by decide) ?_
            show Steps p.tables e below (T13.setTop (mkF m 78 #[.val (.int p0), .val (.int p1), .val (.int p2), .val (.int p3), .val (.int p4), .val (.int p5), .val (.int v2), .val (.int v5), .val (.int v10), .val (.int v15), .val (.int v18), .unset, .unset, .unset, .unset, .unset, .unset, .unset, .unset, .unset] [])) _
            refine XS.iload X13.here hx rfl (hb hby at_78) rfl ?_
            show Steps p.tables e below (T13.setTop (mkF m 80 #[.val (.int p0), .val (.int p1), .val (.int p2), .val (.int p3), .val (.int p4), .val (.int p5), .val (.int v2), .val (.int v5), .val (.int v10), .val (.int v15), .val (.int v18), .unset, .unset, .unset, .unset, .unset, .unset, .unset, .unset, .unset] [(.int v18)])) _
            refine XS.iconst X13.here hx rfl (hb hby at_80) ?_
            exact k)
          by_cases hc27 : v18 = (4 : Int32)
          · exact ⟨(v15 + (1 : Int32)), (by rw [if_neg hc21, if_neg hc23, if_neg hc25, if_pos hc27]), fun t k => pre26 t (by
              show Steps p.tables e below (T13.setTop (mkF m 81 #[.val (.int p0), .val (.int p1), .val (.int p2), .val (.int p3), .val (.int p4), .val (.int p5), .val (.int v2), .val (.int v5), .val (.int v10), .val (.int v15), .val (.int v18), .unset, .unset, .unset, .unset, .unset, .unset, .unset, .unset, .unset] [(.int (4 : Int32)), (.int v18)])) _
              refine XS.icmpNo X13.here hx rfl (hb hby at_81) rfl (teq hc27).2 ?_
              show Steps p.tables e below (T13.setTop (mkF m 84 #[.val (.int p0), .val (.int p1), .val (.int p2), .val (.int p3), .val (.int p4), .val (.int p5), .val (.int v2), .val (.int v5), .val (.int v10), .val (.int v15), .val (.int v18), .unset, .unset, .unset, .unset, .unset, .unset, .unset, .unset, .unset] [])) _
              refine XS.iload X13.here hx rfl (hb hby at_84) rfl ?_
              show Steps p.tables e below (T13.setTop (mkF m 86 #[.val (.int p0), .val (.int p1), .val (.int p2), .val (.int p3), .val (.int p4), .val (.int p5), .val (.int v2), .val (.int v5), .val (.int v10), .val (.int v15), .val (.int v18), .unset, .unset, .unset, .unset, .unset, .unset, .unset, .unset, .unset] [(.int v15)])) _
              refine XS.iconst X13.here hx rfl (hb hby at_86) ?_
              show Steps p.tables e below (T13.setTop (mkF m 87 #[.val (.int p0), .val (.int p1), .val (.int p2), .val (.int p3), .val (.int p4), .val (.int p5), .val (.int v2), .val (.int v5), .val (.int v10), .val (.int v15), .val (.int v18), .unset, .unset, .unset, .unset, .unset, .unset, .unset, .unset, .unset] [(.int (1 : Int32)), (.int v15)])) _
              refine XS.iadd X13.here hx rfl (hb hby at_87) rfl ?_
              show Steps p.tables e below (T13.setTop (mkF m 88 #[.val (.int p0), .val (.int p1), .val (.int p2), .val (.int p3), .val (.int p4), .val (.int p5), .val (.int v2), .val (.int v5), .val (.int v10), .val (.int v15), .val (.int v18), .unset, .unset, .unset, .unset, .unset, .unset, .unset, .unset, .unset] [(.int (v15 + (1 : Int32)))])) _
              refine XS.istore X13.here hx rfl (hb hby at_88) rfl (l' := #[.val (.int p0), .val (.int p1), .val (.int p2), .val (.int p3), .val (.int p4), .val (.int p5), .val (.int v2), .val (.int v5), .val (.int v10), .val (.int v15), .val (.int v18), .val (.int (v15 + (1 : Int32))), .unset, .unset, .unset, .unset, .unset, .unset, .unset, .unset]) rfl ?_
              show Steps p.tables e below (T13.setTop (mkF m 90 #[.val (.int p0), .val (.int p1), .val (.int p2), .val (.int p3), .val (.int p4), .val (.int p5), .val (.int v2), .val (.int v5), .val (.int v10), .val (.int v15), .val (.int v18), .val (.int (v15 + (1 : Int32))), .unset, .unset, .unset, .unset, .unset, .unset, .unset, .unset] [])) _
              refine XS.goto X13.here hx rfl (pc0 := 90) (pc' := 97) rfl (hb hby at_90) (by decide) (by decide) ?_
              exact k)⟩
          · exact ⟨p4, (by rw [if_neg hc21, if_neg hc23, if_neg hc25, if_neg hc27]), fun t k => pre26 t (by
              show Steps p.tables e below (T13.setTop (mkF m 81 #[.val (.int p0), .val (.int p1), .val (.int p2), .val (.int p3), .val (.int p4), .val (.int p5), .val (.int v2), .val (.int v5), .val (.int v10), .val (.int v15), .val (.int v18), .unset, .unset, .unset, .unset, .unset, .unset, .unset, .unset, .unset] [(.int (4 : Int32)), (.int v18)])) _
              refine XS.icmpYes X13.here hx rfl (pc0 := 81) (pc' := 93) rfl (hb hby at_81) rfl (feq hc27).2 (by decide) (by decide) ?_
              show Steps p.tables e below (T13.setTop (mkF m 93 #[.val (.int p0), .val (.int p1), .val (.int p2), .val (.int p3), .val (.int p4), .val (.int p5), .val (.int v2), .val (.int v5), .val (.int v10), .val (.int v15), .val (.int v18), .unset, .unset, .unset, .unset, .unset, .unset, .unset, .unset, .unset] [])) _
              refine XS.iload X13.here hx rfl (hb hby at_93) rfl ?_
              show Steps p.tables e below (T13.setTop (mkF m 95 #[.val (.int p0), .val (.int p1), .val (.int p2), .val (.int p3), .val (.int p4), .val (.int p5), .val (.int v2), .val (.int v5), .val (.int v10), .val (.int v15), .val (.int v18), .unset, .unset, .unset, .unset, .unset, .unset, .unset, .unset, .unset] [(.int p4)])) _
              refine XS.istore X13.here hx rfl (hb hby at_95) rfl (l' := #[.val (.int p0), .val (.int p1), .val (.int p2), .val (.int p3), .val (.int p4), .val (.int p5), .val (.int v2), .val (.int v5), .val (.int v10), .val (.int v15), .val (.int v18), .val (.int p4), .unset, .unset, .unset, .unset, .unset, .unset, .unset, .unset]) rfl ?_
              exact k)⟩
  have pre30 : ∀ t, Steps p.tables e below (T13.setTop (mkF m 103 #[.val (.int p0), .val (.int p1), .val (.int p2), .val (.int p3), .val (.int p4), .val (.int p5), .val (.int v2), .val (.int v5), .val (.int v10), .val (.int v15), .val (.int v18), .val (.int j28), .unset, .unset, .unset, .unset, .unset, .unset, .unset, .unset] [(.int (((p5.toUInt32 >>> ((3 : Int32) &&& 31).toUInt32).toInt32) &&& (3 : Int32)))])) t → Steps p.tables e below (s₁.setTop (entryFrame m #[(.int p0), (.int p1), (.int p2), (.int p3), (.int p4), (.int p5)] maxLocals)) t := fun t k => pre29 t (by
    show Steps p.tables e below (T13.setTop (mkF m 97 #[.val (.int p0), .val (.int p1), .val (.int p2), .val (.int p3), .val (.int p4), .val (.int p5), .val (.int v2), .val (.int v5), .val (.int v10), .val (.int v15), .val (.int v18), .val (.int j28), .unset, .unset, .unset, .unset, .unset, .unset, .unset, .unset] [])) _
    refine XS.iload X13.here hx rfl (hb hby at_97) rfl ?_
    show Steps p.tables e below (T13.setTop (mkF m 99 #[.val (.int p0), .val (.int p1), .val (.int p2), .val (.int p3), .val (.int p4), .val (.int p5), .val (.int v2), .val (.int v5), .val (.int v10), .val (.int v15), .val (.int v18), .val (.int j28), .unset, .unset, .unset, .unset, .unset, .unset, .unset, .unset] [(.int p5)])) _
    refine XS.iconst X13.here hx rfl (hb hby at_99) ?_
    show Steps p.tables e below (T13.setTop (mkF m 100 #[.val (.int p0), .val (.int p1), .val (.int p2), .val (.int p3), .val (.int p4), .val (.int p5), .val (.int v2), .val (.int v5), .val (.int v10), .val (.int v15), .val (.int v18), .val (.int j28), .unset, .unset, .unset, .unset, .unset, .unset, .unset, .unset] [(.int (3 : Int32)), (.int p5)])) _
    refine XS.iushr X13.here hx rfl (hb hby at_100) rfl ?_
    show Steps p.tables e below (T13.setTop (mkF m 101 #[.val (.int p0), .val (.int p1), .val (.int p2), .val (.int p3), .val (.int p4), .val (.int p5), .val (.int v2), .val (.int v5), .val (.int v10), .val (.int v15), .val (.int v18), .val (.int j28), .unset, .unset, .unset, .unset, .unset, .unset, .unset, .unset] [(.int ((p5.toUInt32 >>> ((3 : Int32) &&& 31).toUInt32).toInt32))])) _
    refine XS.iconst X13.here hx rfl (hb hby at_101) ?_
    show Steps p.tables e below (T13.setTop (mkF m 102 #[.val (.int p0), .val (.int p1), .val (.int p2), .val (.int p3), .val (.int p4), .val (.int p5), .val (.int v2), .val (.int v5), .val (.int v10), .val (.int v15), .val (.int v18), .val (.int j28), .unset, .unset, .unset, .unset, .unset, .unset, .unset, .unset] [(.int (3 : Int32)), (.int ((p5.toUInt32 >>> ((3 : Int32) &&& 31).toUInt32).toInt32))])) _
    refine XS.iand X13.here hx rfl (hb hby at_102) rfl ?_
    exact k)
  obtain ⟨v31, hv31⟩ : ∃ z : Int32, z = (((p5.toUInt32 >>> ((3 : Int32) &&& 31).toUInt32).toInt32) &&& (3 : Int32)) := ⟨_, rfl⟩
  have pre32 : ∀ t, Steps p.tables e below (T13.setTop (mkF m 103 #[.val (.int p0), .val (.int p1), .val (.int p2), .val (.int p3), .val (.int p4), .val (.int p5), .val (.int v2), .val (.int v5), .val (.int v10), .val (.int v15), .val (.int v18), .val (.int j28), .unset, .unset, .unset, .unset, .unset, .unset, .unset, .unset] [(.int v31)])) t → Steps p.tables e below (s₁.setTop (entryFrame m #[(.int p0), (.int p1), (.int p2), (.int p3), (.int p4), (.int p5)] maxLocals)) t := fun t k => pre30 t (by rw [hv31] at k; exact k)
  have pre33 : ∀ t, Steps p.tables e below (T13.setTop (mkF m 108 #[.val (.int p0), .val (.int p1), .val (.int p2), .val (.int p3), .val (.int p4), .val (.int p5), .val (.int v2), .val (.int v5), .val (.int v10), .val (.int v15), .val (.int v18), .val (.int j28), .val (.int v31), .unset, .unset, .unset, .unset, .unset, .unset, .unset] [(.int (1 : Int32)), (.int v31)])) t → Steps p.tables e below (s₁.setTop (entryFrame m #[(.int p0), (.int p1), (.int p2), (.int p3), (.int p4), (.int p5)] maxLocals)) t := fun t k => pre32 t (by
    show Steps p.tables e below (T13.setTop (mkF m 103 #[.val (.int p0), .val (.int p1), .val (.int p2), .val (.int p3), .val (.int p4), .val (.int p5), .val (.int v2), .val (.int v5), .val (.int v10), .val (.int v15), .val (.int v18), .val (.int j28), .unset, .unset, .unset, .unset, .unset, .unset, .unset, .unset] [(.int v31)])) _
    refine XS.istore X13.here hx rfl (hb hby at_103) rfl (l' := #[.val (.int p0), .val (.int p1), .val (.int p2), .val (.int p3), .val (.int p4), .val (.int p5), .val (.int v2), .val (.int v5), .val (.int v10), .val (.int v15), .val (.int v18), .val (.int j28), .val (.int v31), .unset, .unset, .unset, .unset, .unset, .unset, .unset]) rfl ?_
    show Steps p.tables e below (T13.setTop (mkF m 105 #[.val (.int p0), .val (.int p1), .val (.int p2), .val (.int p3), .val (.int p4), .val (.int p5), .val (.int v2), .val (.int v5), .val (.int v10), .val (.int v15), .val (.int v18), .val (.int j28), .val (.int v31), .unset, .unset, .unset, .unset, .unset, .unset, .unset] [])) _
    refine XS.iload X13.here hx rfl (hb hby at_105) rfl ?_
    show Steps p.tables e below (T13.setTop (mkF m 107 #[.val (.int p0), .val (.int p1), .val (.int p2), .val (.int p3), .val (.int p4), .val (.int p5), .val (.int v2), .val (.int v5), .val (.int v10), .val (.int v15), .val (.int v18), .val (.int j28), .val (.int v31), .unset, .unset, .unset, .unset, .unset, .unset, .unset] [(.int v31)])) _
    refine XS.iconst X13.here hx rfl (hb hby at_107) ?_
    exact k)
  obtain ⟨j39, hj39, pre40⟩ : ∃ (j39 : Int32), j39 = (if v31 = (1 : Int32) then p0 else (if v31 = (2 : Int32) then (p0 + (1 : Int32)) else (if v31 = (3 : Int32) then (p0 - (1 : Int32)) else p3))) ∧ ∀ t, Steps p.tables e below (T13.setTop (mkF m 148 #[.val (.int p0), .val (.int p1), .val (.int p2), .val (.int p3), .val (.int p4), .val (.int p5), .val (.int v2), .val (.int v5), .val (.int v10), .val (.int v15), .val (.int v18), .val (.int j28), .val (.int v31), .val (.int j39), .unset, .unset, .unset, .unset, .unset, .unset] [])) t → Steps p.tables e below (s₁.setTop (entryFrame m #[(.int p0), (.int p1), (.int p2), (.int p3), (.int p4), (.int p5)] maxLocals)) t := by
    by_cases hc34 : v31 = (1 : Int32)
    · exact ⟨p0, (by rw [if_pos hc34]), fun t k => pre33 t (by
        show Steps p.tables e below (T13.setTop (mkF m 108 #[.val (.int p0), .val (.int p1), .val (.int p2), .val (.int p3), .val (.int p4), .val (.int p5), .val (.int v2), .val (.int v5), .val (.int v10), .val (.int v15), .val (.int v18), .val (.int j28), .val (.int v31), .unset, .unset, .unset, .unset, .unset, .unset, .unset] [(.int (1 : Int32)), (.int v31)])) _
        refine XS.icmpNo X13.here hx rfl (hb hby at_108) rfl (teq hc34).2 ?_
        show Steps p.tables e below (T13.setTop (mkF m 111 #[.val (.int p0), .val (.int p1), .val (.int p2), .val (.int p3), .val (.int p4), .val (.int p5), .val (.int v2), .val (.int v5), .val (.int v10), .val (.int v15), .val (.int v18), .val (.int j28), .val (.int v31), .unset, .unset, .unset, .unset, .unset, .unset, .unset] [])) _
        refine XS.iloadN X13.here hx rfl (hb hby at_111) rfl ?_
        show Steps p.tables e below (T13.setTop (mkF m 112 #[.val (.int p0), .val (.int p1), .val (.int p2), .val (.int p3), .val (.int p4), .val (.int p5), .val (.int v2), .val (.int v5), .val (.int v10), .val (.int v15), .val (.int v18), .val (.int j28), .val (.int v31), .unset, .unset, .unset, .unset, .unset, .unset, .unset] [(.int p0)])) _
        refine XS.istore X13.here hx rfl (hb hby at_112) rfl (l' := #[.val (.int p0), .val (.int p1), .val (.int p2), .val (.int p3), .val (.int p4), .val (.int p5), .val (.int v2), .val (.int v5), .val (.int v10), .val (.int v15), .val (.int v18), .val (.int j28), .val (.int v31), .val (.int p0), .unset, .unset, .unset, .unset, .unset, .unset]) rfl ?_
        show Steps p.tables e below (T13.setTop (mkF m 114 #[.val (.int p0), .val (.int p1), .val (.int p2), .val (.int p3), .val (.int p4), .val (.int p5), .val (.int v2), .val (.int v5), .val (.int v10), .val (.int v15), .val (.int v18), .val (.int j28), .val (.int v31), .val (.int p0), .unset, .unset, .unset, .unset, .unset, .unset] [])) _
        refine XS.goto X13.here hx rfl (pc0 := 114) (pc' := 148) rfl (hb hby at_114) (by decide) (by decide) ?_
        exact k)⟩
    · have pre35 : ∀ t, Steps p.tables e below (T13.setTop (mkF m 120 #[.val (.int p0), .val (.int p1), .val (.int p2), .val (.int p3), .val (.int p4), .val (.int p5), .val (.int v2), .val (.int v5), .val (.int v10), .val (.int v15), .val (.int v18), .val (.int j28), .val (.int v31), .unset, .unset, .unset, .unset, .unset, .unset, .unset] [(.int (2 : Int32)), (.int v31)])) t → Steps p.tables e below (s₁.setTop (entryFrame m #[(.int p0), (.int p1), (.int p2), (.int p3), (.int p4), (.int p5)] maxLocals)) t := fun t k => pre33 t (by
        show Steps p.tables e below (T13.setTop (mkF m 108 #[.val (.int p0), .val (.int p1), .val (.int p2), .val (.int p3), .val (.int p4), .val (.int p5), .val (.int v2), .val (.int v5), .val (.int v10), .val (.int v15), .val (.int v18), .val (.int j28), .val (.int v31), .unset, .unset, .unset, .unset, .unset, .unset, .unset] [(.int (1 : Int32)), (.int v31)])) _
        refine XS.icmpYes X13.here hx rfl (pc0 := 108) (pc' := 117) rfl (hb hby at_108) rfl (feq hc34).2 (by decide) (by decide) ?_
        show Steps p.tables e below (T13.setTop (mkF m 117 #[.val (.int p0), .val (.int p1), .val (.int p2), .val (.int p3), .val (.int p4), .val (.int p5), .val (.int v2), .val (.int v5), .val (.int v10), .val (.int v15), .val (.int v18), .val (.int j28), .val (.int v31), .unset, .unset, .unset, .unset, .unset, .unset, .unset] [])) _
        refine XS.iload X13.here hx rfl (hb hby at_117) rfl ?_
        show Steps p.tables e below (T13.setTop (mkF m 119 #[.val (.int p0), .val (.int p1), .val (.int p2), .val (.int p3), .val (.int p4), .val (.int p5), .val (.int v2), .val (.int v5), .val (.int v10), .val (.int v15), .val (.int v18), .val (.int j28), .val (.int v31), .unset, .unset, .unset, .unset, .unset, .unset, .unset] [(.int v31)])) _
        refine XS.iconst X13.here hx rfl (hb hby at_119) ?_
        exact k)
      by_cases hc36 : v31 = (2 : Int32)
      · exact ⟨(p0 + (1 : Int32)), (by rw [if_neg hc34, if_pos hc36]), fun t k => pre35 t (by
          show Steps p.tables e below (T13.setTop (mkF m 120 #[.val (.int p0), .val (.int p1), .val (.int p2), .val (.int p3), .val (.int p4), .val (.int p5), .val (.int v2), .val (.int v5), .val (.int v10), .val (.int v15), .val (.int v18), .val (.int j28), .val (.int v31), .unset, .unset, .unset, .unset, .unset, .unset, .unset] [(.int (2 : Int32)), (.int v31)])) _
          refine XS.icmpNo X13.here hx rfl (hb hby at_120) rfl (teq hc36).2 ?_
          show Steps p.tables e below (T13.setTop (mkF m 123 #[.val (.int p0), .val (.int p1), .val (.int p2), .val (.int p3), .val (.int p4), .val (.int p5), .val (.int v2), .val (.int v5), .val (.int v10), .val (.int v15), .val (.int v18), .val (.int j28), .val (.int v31), .unset, .unset, .unset, .unset, .unset, .unset, .unset] [])) _
          refine XS.iloadN X13.here hx rfl (hb hby at_123) rfl ?_
          show Steps p.tables e below (T13.setTop (mkF m 124 #[.val (.int p0), .val (.int p1), .val (.int p2), .val (.int p3), .val (.int p4), .val (.int p5), .val (.int v2), .val (.int v5), .val (.int v10), .val (.int v15), .val (.int v18), .val (.int j28), .val (.int v31), .unset, .unset, .unset, .unset, .unset, .unset, .unset] [(.int p0)])) _
          refine XS.iconst X13.here hx rfl (hb hby at_124) ?_
          show Steps p.tables e below (T13.setTop (mkF m 125 #[.val (.int p0), .val (.int p1), .val (.int p2), .val (.int p3), .val (.int p4), .val (.int p5), .val (.int v2), .val (.int v5), .val (.int v10), .val (.int v15), .val (.int v18), .val (.int j28), .val (.int v31), .unset, .unset, .unset, .unset, .unset, .unset, .unset] [(.int (1 : Int32)), (.int p0)])) _
          refine XS.iadd X13.here hx rfl (hb hby at_125) rfl ?_
          show Steps p.tables e below (T13.setTop (mkF m 126 #[.val (.int p0), .val (.int p1), .val (.int p2), .val (.int p3), .val (.int p4), .val (.int p5), .val (.int v2), .val (.int v5), .val (.int v10), .val (.int v15), .val (.int v18), .val (.int j28), .val (.int v31), .unset, .unset, .unset, .unset, .unset, .unset, .unset] [(.int (p0 + (1 : Int32)))])) _
          refine XS.istore X13.here hx rfl (hb hby at_126) rfl (l' := #[.val (.int p0), .val (.int p1), .val (.int p2), .val (.int p3), .val (.int p4), .val (.int p5), .val (.int v2), .val (.int v5), .val (.int v10), .val (.int v15), .val (.int v18), .val (.int j28), .val (.int v31), .val (.int (p0 + (1 : Int32))), .unset, .unset, .unset, .unset, .unset, .unset]) rfl ?_
          show Steps p.tables e below (T13.setTop (mkF m 128 #[.val (.int p0), .val (.int p1), .val (.int p2), .val (.int p3), .val (.int p4), .val (.int p5), .val (.int v2), .val (.int v5), .val (.int v10), .val (.int v15), .val (.int v18), .val (.int j28), .val (.int v31), .val (.int (p0 + (1 : Int32))), .unset, .unset, .unset, .unset, .unset, .unset] [])) _
          refine XS.goto X13.here hx rfl (pc0 := 128) (pc' := 148) rfl (hb hby at_128) (by decide) (by decide) ?_
          exact k)⟩
      · have pre37 : ∀ t, Steps p.tables e below (T13.setTop (mkF m 134 #[.val (.int p0), .val (.int p1), .val (.int p2), .val (.int p3), .val (.int p4), .val (.int p5), .val (.int v2), .val (.int v5), .val (.int v10), .val (.int v15), .val (.int v18), .val (.int j28), .val (.int v31), .unset, .unset, .unset, .unset, .unset, .unset, .unset] [(.int (3 : Int32)), (.int v31)])) t → Steps p.tables e below (s₁.setTop (entryFrame m #[(.int p0), (.int p1), (.int p2), (.int p3), (.int p4), (.int p5)] maxLocals)) t := fun t k => pre35 t (by
          show Steps p.tables e below (T13.setTop (mkF m 120 #[.val (.int p0), .val (.int p1), .val (.int p2), .val (.int p3), .val (.int p4), .val (.int p5), .val (.int v2), .val (.int v5), .val (.int v10), .val (.int v15), .val (.int v18), .val (.int j28), .val (.int v31), .unset, .unset, .unset, .unset, .unset, .unset, .unset] [(.int (2 : Int32)), (.int v31)])) _
          refine XS.icmpYes X13.here hx rfl (pc0 := 120) (pc' := 131) rfl (hb hby at_120) rfl (feq hc36).2 (by decide) (by decide) ?_
          show Steps p.tables e below (T13.setTop (mkF m 131 #[.val (.int p0), .val (.int p1), .val (.int p2), .val (.int p3), .val (.int p4), .val (.int p5), .val (.int v2), .val (.int v5), .val (.int v10), .val (.int v15), .val (.int v18), .val (.int j28), .val (.int v31), .unset, .unset, .unset, .unset, .unset, .unset, .unset] [])) _
          refine XS.iload X13.here hx rfl (hb hby at_131) rfl ?_
          show Steps p.tables e below (T13.setTop (mkF m 133 #[.val (.int p0), .val (.int p1), .val (.int p2), .val (.int p3), .val (.int p4), .val (.int p5), .val (.int v2), .val (.int v5), .val (.int v10), .val (.int v15), .val (.int v18), .val (.int j28), .val (.int v31), .unset, .unset, .unset, .unset, .unset, .unset, .unset] [(.int v31)])) _
          refine XS.iconst X13.here hx rfl (hb hby at_133) ?_
          exact k)
        by_cases hc38 : v31 = (3 : Int32)
        · exact ⟨(p0 - (1 : Int32)), (by rw [if_neg hc34, if_neg hc36, if_pos hc38]), fun t k => pre37 t (by
            show Steps p.tables e below (T13.setTop (mkF m 134 #[.val (.int p0), .val (.int p1), .val (.int p2), .val (.int p3), .val (.int p4), .val (.int p5), .val (.int v2), .val (.int v5), .val (.int v10), .val (.int v15), .val (.int v18), .val (.int j28), .val (.int v31), .unset, .unset, .unset, .unset, .unset, .unset, .unset] [(.int (3 : Int32)), (.int v31)])) _
            refine XS.icmpNo X13.here hx rfl (hb hby at_134) rfl (teq hc38).2 ?_
            show Steps p.tables e below (T13.setTop (mkF m 137 #[.val (.int p0), .val (.int p1), .val (.int p2), .val (.int p3), .val (.int p4), .val (.int p5), .val (.int v2), .val (.int v5), .val (.int v10), .val (.int v15), .val (.int v18), .val (.int j28), .val (.int v31), .unset, .unset, .unset, .unset, .unset, .unset, .unset] [])) _
            refine XS.iloadN X13.here hx rfl (hb hby at_137) rfl ?_
            show Steps p.tables e below (T13.setTop (mkF m 138 #[.val (.int p0), .val (.int p1), .val (.int p2), .val (.int p3), .val (.int p4), .val (.int p5), .val (.int v2), .val (.int v5), .val (.int v10), .val (.int v15), .val (.int v18), .val (.int j28), .val (.int v31), .unset, .unset, .unset, .unset, .unset, .unset, .unset] [(.int p0)])) _
            refine XS.iconst X13.here hx rfl (hb hby at_138) ?_
            show Steps p.tables e below (T13.setTop (mkF m 139 #[.val (.int p0), .val (.int p1), .val (.int p2), .val (.int p3), .val (.int p4), .val (.int p5), .val (.int v2), .val (.int v5), .val (.int v10), .val (.int v15), .val (.int v18), .val (.int j28), .val (.int v31), .unset, .unset, .unset, .unset, .unset, .unset, .unset] [(.int (1 : Int32)), (.int p0)])) _
            refine XS.isub X13.here hx rfl (hb hby at_139) rfl ?_
            show Steps p.tables e below (T13.setTop (mkF m 140 #[.val (.int p0), .val (.int p1), .val (.int p2), .val (.int p3), .val (.int p4), .val (.int p5), .val (.int v2), .val (.int v5), .val (.int v10), .val (.int v15), .val (.int v18), .val (.int j28), .val (.int v31), .unset, .unset, .unset, .unset, .unset, .unset, .unset] [(.int (p0 - (1 : Int32)))])) _
            refine XS.istore X13.here hx rfl (hb hby at_140) rfl (l' := #[.val (.int p0), .val (.int p1), .val (.int p2), .val (.int p3), .val (.int p4), .val (.int p5), .val (.int v2), .val (.int v5), .val (.int v10), .val (.int v15), .val (.int v18), .val (.int j28), .val (.int v31), .val (.int (p0 - (1 : Int32))), .unset, .unset, .unset, .unset, .unset, .unset]) rfl ?_
            show Steps p.tables e below (T13.setTop (mkF m 142 #[.val (.int p0), .val (.int p1), .val (.int p2), .val (.int p3), .val (.int p4), .val (.int p5), .val (.int v2), .val (.int v5), .val (.int v10), .val (.int v15), .val (.int v18), .val (.int j28), .val (.int v31), .val (.int (p0 - (1 : Int32))), .unset, .unset, .unset, .unset, .unset, .unset] [])) _
            refine XS.goto X13.here hx rfl (pc0 := 142) (pc' := 148) rfl (hb hby at_142) (by decide) (by decide) ?_
            exact k)⟩
        · exact ⟨p3, (by rw [if_neg hc34, if_neg hc36, if_neg hc38]), fun t k => pre37 t (by
            show Steps p.tables e below (T13.setTop (mkF m 134 #[.val (.int p0), .val (.int p1), .val (.int p2), .val (.int p3), .val (.int p4), .val (.int p5), .val (.int v2), .val (.int v5), .val (.int v10), .val (.int v15), .val (.int v18), .val (.int j28), .val (.int v31), .unset, .unset, .unset, .unset, .unset, .unset, .unset] [(.int (3 : Int32)), (.int v31)])) _
            refine XS.icmpYes X13.here hx rfl (pc0 := 134) (pc' := 145) rfl (hb hby at_134) rfl (feq hc38).2 (by decide) (by decide) ?_
            show Steps p.tables e below (T13.setTop (mkF m 145 #[.val (.int p0), .val (.int p1), .val (.int p2), .val (.int p3), .val (.int p4), .val (.int p5), .val (.int v2), .val (.int v5), .val (.int v10), .val (.int v15), .val (.int v18), .val (.int j28), .val (.int v31), .unset, .unset, .unset, .unset, .unset, .unset, .unset] [])) _
            refine XS.iloadN X13.here hx rfl (hb hby at_145) rfl ?_
            show Steps p.tables e below (T13.setTop (mkF m 146 #[.val (.int p0), .val (.int p1), .val (.int p2), .val (.int p3), .val (.int p4), .val (.int p5), .val (.int v2), .val (.int v5), .val (.int v10), .val (.int v15), .val (.int v18), .val (.int j28), .val (.int v31), .unset, .unset, .unset, .unset, .unset, .unset, .unset] [(.int p3)])) _
            refine XS.istore X13.here hx rfl (hb hby at_146) rfl (l' := #[.val (.int p0), .val (.int p1), .val (.int p2), .val (.int p3), .val (.int p4), .val (.int p5), .val (.int v2), .val (.int v5), .val (.int v10), .val (.int v15), .val (.int v18), .val (.int j28), .val (.int v31), .val (.int p3), .unset, .unset, .unset, .unset, .unset, .unset]) rfl ?_
            exact k)⟩
  obtain ⟨T41, h41, X41, e41, E41, A41, D41, -, st41⟩ := newO X13 hx hZ hown (hw _ (List.mem_of_getElem? (i := 8) rfl)) (hw _ (List.mem_of_getElem? (i := 9) rfl)) (hw _ (List.mem_of_getElem? (i := 10) rfl)) e13 (g := (mkF m 148 #[.val (.int p0), .val (.int p1), .val (.int p2), .val (.int p3), .val (.int p4), .val (.int p5), .val (.int v2), .val (.int v5), .val (.int v10), .val (.int v15), .val (.int v18), .val (.int j28), .val (.int v31), .val (.int j39), .unset, .unset, .unset, .unset, .unset, .unset] [])) rfl (hb hby at_148) (by decide) (by decide)
  obtain ⟨b41, g41⟩ : ∃ z, z = h0.size := ⟨_, rfl⟩
  have g_b41 : n0 ≤ b41 := Nat.le_trans Z0 (Nat.le_of_eq g41.symm)
  have sz_b41 : h0.size ≤ b41 := Nat.le_trans (Keep.refl h0 []).1 (Nat.le_of_eq g41.symm)
  rw [← g41] at A41 D41 st41
  have K41 : Keep h0 h41 [] := (Keep.refl h0 []).ext E41
  have Z41 : n0 ≤ h41.size := Nat.le_trans Z0 E41.1
  have F_lo_b41 : Fld Z h41 b41 "com/example/adjacent_moments/adjacentmoments/store/CellRun" "lo" "I" (.int (0 : Int32)) := D41 (Or.inr (hw _ (List.mem_of_getElem? (i := 23) rfl))) (ty := .int) (by decide)
  have F_hi_b41 : Fld Z h41 b41 "com/example/adjacent_moments/adjacentmoments/store/CellRun" "hi" "I" (.int (0 : Int32)) := D41 (Or.inr (hw _ (List.mem_of_getElem? (i := 25) rfl))) (ty := .int) (by decide)
  have pre42 : ∀ t, Steps p.tables e below (T41.setTop (mkF m 156 #[.val (.int p0), .val (.int p1), .val (.int p2), .val (.int p3), .val (.int p4), .val (.int p5), .val (.int v2), .val (.int v5), .val (.int v10), .val (.int v15), .val (.int v18), .val (.int j28), .val (.int v31), .val (.int j39), .unset, .unset, .unset, .unset, .unset, .unset] [(.int v15), (.int v10), (.ref b41), (.ref b41)])) t → Steps p.tables e below (s₁.setTop (entryFrame m #[(.int p0), (.int p1), (.int p2), (.int p3), (.int p4), (.int p5)] maxLocals)) t := fun t k => pre40 t (by
    show Steps p.tables e below (T13.setTop (mkF m 148 #[.val (.int p0), .val (.int p1), .val (.int p2), .val (.int p3), .val (.int p4), .val (.int p5), .val (.int v2), .val (.int v5), .val (.int v10), .val (.int v15), .val (.int v18), .val (.int j28), .val (.int v31), .val (.int j39), .unset, .unset, .unset, .unset, .unset, .unset] [])) _
    refine st41 _ ?_
    show Steps p.tables e below (T41.setTop (mkF m 151 #[.val (.int p0), .val (.int p1), .val (.int p2), .val (.int p3), .val (.int p4), .val (.int p5), .val (.int v2), .val (.int v5), .val (.int v10), .val (.int v15), .val (.int v18), .val (.int j28), .val (.int v31), .val (.int j39), .unset, .unset, .unset, .unset, .unset, .unset] [(.ref b41)])) _
    refine XS.dup X41.here hx rfl (hb hby at_151) rfl rfl ?_
    show Steps p.tables e below (T41.setTop (mkF m 152 #[.val (.int p0), .val (.int p1), .val (.int p2), .val (.int p3), .val (.int p4), .val (.int p5), .val (.int v2), .val (.int v5), .val (.int v10), .val (.int v15), .val (.int v18), .val (.int j28), .val (.int v31), .val (.int j39), .unset, .unset, .unset, .unset, .unset, .unset] [(.ref b41), (.ref b41)])) _
    refine XS.iload X41.here hx rfl (hb hby at_152) rfl ?_
    show Steps p.tables e below (T41.setTop (mkF m 154 #[.val (.int p0), .val (.int p1), .val (.int p2), .val (.int p3), .val (.int p4), .val (.int p5), .val (.int v2), .val (.int v5), .val (.int v10), .val (.int v15), .val (.int v18), .val (.int j28), .val (.int v31), .val (.int j39), .unset, .unset, .unset, .unset, .unset, .unset] [(.int v10), (.ref b41), (.ref b41)])) _
    refine XS.iload X41.here hx rfl (hb hby at_154) rfl ?_
    exact k)
  have kown_pre1 : ¬ (v10 < (0 : Int32)) := own_pre1 p0 p1 p2 p3 p4 p5 v2 hv2 v5 hv5 v10 hv10 v15 hv15 v18 hv18 j28 hj28 v31 hv31 j39 hj39
  have kown_pre2 : ¬ (v15 < v10) := own_pre2 p0 p1 p2 p3 p4 p5 v2 hv2 v5 hv5 v10 hv10 v15 hv15 v18 hv18 j28 hj28 v31 hv31 j39 hj39
  obtain ⟨_, _, ⟨T43, L43, k43, n43⟩, -, X43, ⟨Lc43, hQ43, l43, y43, z43⟩, st43⟩ := X41.specialBack hx (y := (⟨"com/example/adjacent_moments/adjacentmoments/store/CellRun", "<init>", "(II)V"⟩ : MethodName)) rfl hown (mvT hZ (hw _ (List.mem_of_getElem? (i := 11) rfl))) (mvT hZ (hw _ (List.mem_of_getElem? (i := 12) rfl))) (mvT hZ (hw _ (List.mem_of_getElem? (i := 13) rfl))) (by decide) (backOf (W := 1) (rm3 l Z aw hw [] b41 v10 v15 (.int (0 : Int32)) (.int (0 : Int32)) h41 n0 Z41 kown_pre1 kown_pre2 A41 F_lo_b41 g_b41 F_hi_b41) hZ (hw _ (List.mem_of_getElem? (i := 13) rfl)) (hw _ (List.mem_of_getElem? (i := 10) rfl)) (by decide) (by decide)) (g := (mkF m 156 #[.val (.int p0), .val (.int p1), .val (.int p2), .val (.int p3), .val (.int p4), .val (.int p5), .val (.int v2), .val (.int v5), .val (.int v10), .val (.int v15), .val (.int v18), .val (.int j28), .val (.int v31), .val (.int j39), .unset, .unset, .unset, .unset, .unset, .unset] [(.int v15), (.int v10), (.ref b41), (.ref b41)])) rfl (by rw [hml]; rfl) (Steps.refl _) (a := b41) (argsL := [(.int v10), (.int v15)]) (rest := [(.ref b41)]) (lenOf pd_1 rfl) rfl (by show 2 * 0 + _ ≤ _; exact Nat.le_of_eq rfl) (hb hby at_156) (fun _ _ => ⟨rfl, e41, (by decide : 1 + 0 ≤ _), (by decide : 2 + 0 ≤ _)⟩)
  dsimp only [Pt.U, Pt.locs, Pt.cells, Pt.slots] at X43 l43 y43 z43 st43 hQ43
  subst l43 y43 z43
  obtain ⟨rfl, N43q, K43q, E43_a0, F43_a0_lo, F43_a0_hi⟩ := hQ43
  have N43 := Fr.app N13 N43q
  have A41_43 := A41.keep K43q
  have F43_a0_lo' : Fld Z T43.heap b41 "com/example/adjacent_moments/adjacentmoments/store/CellRun" "lo" "I" (.int v10) := F43_a0_lo
  have F43_a0_hi' : Fld Z T43.heap b41 "com/example/adjacent_moments/adjacentmoments/store/CellRun" "hi" "I" (.int v15) := F43_a0_hi
  have K43 : Keep h0 T43.heap [] := K41.trans K43q (allS (Or.inr sz_b41) all0)
  have Z43 : n0 ≤ T43.heap.size := Nat.le_trans Z41 K43q.1
  have pre44 : ∀ t, Steps p.tables e below (T43.setTop (mkF m 161 #[.val (.int p0), .val (.int p1), .val (.int p2), .val (.int p3), .val (.int p4), .val (.int p5), .val (.int v2), .val (.int v5), .val (.int v10), .val (.int v15), .val (.int v18), .val (.int j28), .val (.int v31), .val (.int j39), .val (.ref b41), .unset, .unset, .unset, .unset, .unset] [])) t → Steps p.tables e below (s₁.setTop (entryFrame m #[(.int p0), (.int p1), (.int p2), (.int p3), (.int p4), (.int p5)] maxLocals)) t := fun t k => pre42 t (by
    show Steps p.tables e below (T41.setTop (mkF m 156 #[.val (.int p0), .val (.int p1), .val (.int p2), .val (.int p3), .val (.int p4), .val (.int p5), .val (.int v2), .val (.int v5), .val (.int v10), .val (.int v15), .val (.int v18), .val (.int j28), .val (.int v31), .val (.int j39), .unset, .unset, .unset, .unset, .unset, .unset] [(.int v15), (.int v10), (.ref b41), (.ref b41)])) _
    refine st43.trans ?_
    show Steps p.tables e below (T43.setTop (mkF m 159 #[.val (.int p0), .val (.int p1), .val (.int p2), .val (.int p3), .val (.int p4), .val (.int p5), .val (.int v2), .val (.int v5), .val (.int v10), .val (.int v15), .val (.int v18), .val (.int j28), .val (.int v31), .val (.int j39), .unset, .unset, .unset, .unset, .unset, .unset] [(.ref b41)])) _
    refine XS.astore X43.here hx rfl (hb hby at_159) rfl rfl (l' := #[.val (.int p0), .val (.int p1), .val (.int p2), .val (.int p3), .val (.int p4), .val (.int p5), .val (.int v2), .val (.int v5), .val (.int v10), .val (.int v15), .val (.int v18), .val (.int j28), .val (.int v31), .val (.int j39), .val (.ref b41), .unset, .unset, .unset, .unset, .unset]) rfl ?_
    exact k)
  obtain ⟨T45, h45, X45, e45, E45, A45, D45, -, st45⟩ := newO X43 hx hZ hown (hw _ (List.mem_of_getElem? (i := 26) rfl)) (hw _ (List.mem_of_getElem? (i := 27) rfl)) (hw _ (List.mem_of_getElem? (i := 28) rfl)) rfl (g := (mkF m 161 #[.val (.int p0), .val (.int p1), .val (.int p2), .val (.int p3), .val (.int p4), .val (.int p5), .val (.int v2), .val (.int v5), .val (.int v10), .val (.int v15), .val (.int v18), .val (.int j28), .val (.int v31), .val (.int j39), .val (.ref b41), .unset, .unset, .unset, .unset, .unset] [])) rfl (hb hby at_161) (by decide) (by decide)
  obtain ⟨b45, g45⟩ : ∃ z, z = T43.heap.size := ⟨_, rfl⟩
  have ne_b41_b45 : b41 ≠ b45 := Nat.ne_of_lt (Nat.lt_of_lt_of_le A41_43.lt (Nat.le_of_eq g45.symm))
  have g_b45 : n0 ≤ b45 := Nat.le_trans Z43 (Nat.le_of_eq g45.symm)
  have sz_b45 : h0.size ≤ b45 := Nat.le_trans K43.1 (Nat.le_of_eq g45.symm)
  rw [← g45] at A45 D45 st45
  have A41_45 := A41_43.ext E45
  have F43_a0_lo'_45 := F43_a0_lo'.ext E45
  have F43_a0_hi'_45 := F43_a0_hi'.ext E45
  have K45 : Keep h0 h45 [] := K43.ext E45
  have Z45 : n0 ≤ h45.size := Nat.le_trans Z43 E45.1
  have F_bin_b45 : Fld Z h45 b45 "com/example/adjacent_moments/adjacentmoments/store/KeyRanges$Range" "bin" "I" (.int (0 : Int32)) := D45 (Or.inr (hw _ (List.mem_of_getElem? (i := 34) rfl))) (ty := .int) (by decide)
  have F_cells_b45 : Fld Z h45 b45 "com/example/adjacent_moments/adjacentmoments/store/KeyRanges$Range" "cells" "Lcom/example/adjacent_moments/adjacentmoments/store/CellRun;" .null := D45 (Or.inr (hw _ (List.mem_of_getElem? (i := 36) rfl))) (ty := (.object "com/example/adjacent_moments/adjacentmoments/store/CellRun")) (by decide)
  have pre46 : ∀ t, Steps p.tables e below (T45.setTop (mkF m 168 #[.val (.int p0), .val (.int p1), .val (.int p2), .val (.int p3), .val (.int p4), .val (.int p5), .val (.int v2), .val (.int v5), .val (.int v10), .val (.int v15), .val (.int v18), .val (.int j28), .val (.int v31), .val (.int j39), .val (.ref b41), .unset, .unset, .unset, .unset, .unset] [(.ref b41), (.int p0), (.ref b45), (.ref b45)])) t → Steps p.tables e below (s₁.setTop (entryFrame m #[(.int p0), (.int p1), (.int p2), (.int p3), (.int p4), (.int p5)] maxLocals)) t := fun t k => pre44 t (by
    show Steps p.tables e below (T43.setTop (mkF m 161 #[.val (.int p0), .val (.int p1), .val (.int p2), .val (.int p3), .val (.int p4), .val (.int p5), .val (.int v2), .val (.int v5), .val (.int v10), .val (.int v15), .val (.int v18), .val (.int j28), .val (.int v31), .val (.int j39), .val (.ref b41), .unset, .unset, .unset, .unset, .unset] [])) _
    refine st45 _ ?_
    show Steps p.tables e below (T45.setTop (mkF m 164 #[.val (.int p0), .val (.int p1), .val (.int p2), .val (.int p3), .val (.int p4), .val (.int p5), .val (.int v2), .val (.int v5), .val (.int v10), .val (.int v15), .val (.int v18), .val (.int j28), .val (.int v31), .val (.int j39), .val (.ref b41), .unset, .unset, .unset, .unset, .unset] [(.ref b45)])) _
    refine XS.dup X45.here hx rfl (hb hby at_164) rfl rfl ?_
    show Steps p.tables e below (T45.setTop (mkF m 165 #[.val (.int p0), .val (.int p1), .val (.int p2), .val (.int p3), .val (.int p4), .val (.int p5), .val (.int v2), .val (.int v5), .val (.int v10), .val (.int v15), .val (.int v18), .val (.int j28), .val (.int v31), .val (.int j39), .val (.ref b41), .unset, .unset, .unset, .unset, .unset] [(.ref b45), (.ref b45)])) _
    refine XS.iloadN X45.here hx rfl (hb hby at_165) rfl ?_
    show Steps p.tables e below (T45.setTop (mkF m 166 #[.val (.int p0), .val (.int p1), .val (.int p2), .val (.int p3), .val (.int p4), .val (.int p5), .val (.int v2), .val (.int v5), .val (.int v10), .val (.int v15), .val (.int v18), .val (.int j28), .val (.int v31), .val (.int j39), .val (.ref b41), .unset, .unset, .unset, .unset, .unset] [(.int p0), (.ref b45), (.ref b45)])) _
    refine XS.aload X45.here hx rfl (hb hby at_166) rfl rfl ?_
    exact k)
  obtain ⟨_, _, ⟨T47, L47, k47, n47⟩, -, X47, ⟨Lc47, hQ47, l47, y47, z47⟩, st47⟩ := X45.specialBack hx (y := (⟨"com/example/adjacent_moments/adjacentmoments/store/KeyRanges$Range", "<init>", "(ILcom/example/adjacent_moments/adjacentmoments/store/CellRun;)V"⟩ : MethodName)) rfl hown (mvT hZ (hw _ (List.mem_of_getElem? (i := 29) rfl))) (mvT hZ (hw _ (List.mem_of_getElem? (i := 30) rfl))) (mvT hZ (hw _ (List.mem_of_getElem? (i := 31) rfl))) (by decide) (backOf (W := 1) (rm6 l Z aw hw [] b45 p0 b41 (.int (0 : Int32)) .null h45 n0 Z45 A45 F_bin_b45 g_b45 F_cells_b45) hZ (hw _ (List.mem_of_getElem? (i := 31) rfl)) (hw _ (List.mem_of_getElem? (i := 28) rfl)) (by decide) (by decide)) (g := (mkF m 168 #[.val (.int p0), .val (.int p1), .val (.int p2), .val (.int p3), .val (.int p4), .val (.int p5), .val (.int v2), .val (.int v5), .val (.int v10), .val (.int v15), .val (.int v18), .val (.int j28), .val (.int v31), .val (.int j39), .val (.ref b41), .unset, .unset, .unset, .unset, .unset] [(.ref b41), (.int p0), (.ref b45), (.ref b45)])) rfl (by rw [hml]; rfl) (Steps.refl _) (a := b45) (argsL := [(.int p0), (.ref b41)]) (rest := [(.ref b45)]) (lenOf pd_3 rfl) rfl (by show 2 * 0 + _ ≤ _; exact Nat.le_of_eq rfl) (hb hby at_168) (fun _ _ => ⟨rfl, e45, (by decide : 2 + 0 ≤ _), (by decide : 4 + 0 ≤ _)⟩)
  dsimp only [Pt.U, Pt.locs, Pt.cells, Pt.slots] at X47 l47 y47 z47 st47 hQ47
  subst l47 y47 z47
  obtain ⟨rfl, N47q, K47q, E47_a0, F47_a0_bin, F47_a0_cells⟩ := hQ47
  have N47 := Fr.app N43 N47q
  have A41_47 := A41_45.keep K47q
  have F43_a0_lo'_47 := F43_a0_lo'_45.keep K47q (ninS ne_b41_b45 nin0)
  have F43_a0_hi'_47 := F43_a0_hi'_45.keep K47q (ninS ne_b41_b45 nin0)
  have A45_47 := A45.keep K47q
  have F47_a0_bin' : Fld Z T47.heap b45 "com/example/adjacent_moments/adjacentmoments/store/KeyRanges$Range" "bin" "I" (.int p0) := F47_a0_bin
  have F47_a0_cells' : Fld Z T47.heap b45 "com/example/adjacent_moments/adjacentmoments/store/KeyRanges$Range" "cells" "Lcom/example/adjacent_moments/adjacentmoments/store/CellRun;" (.ref b41) := F47_a0_cells
  have K47 : Keep h0 T47.heap [] := K45.trans K47q (allS (Or.inr sz_b45) all0)
  have Z47 : n0 ≤ T47.heap.size := Nat.le_trans Z45 K47q.1
  have pre48 : ∀ t, Steps p.tables e below (T47.setTop (mkF m 179 #[.val (.int p0), .val (.int p1), .val (.int p2), .val (.int p3), .val (.int p4), .val (.int p5), .val (.int v2), .val (.int v5), .val (.int v10), .val (.int v15), .val (.int v18), .val (.int j28), .val (.int v31), .val (.int j39), .val (.ref b41), .val (.ref b45), .unset, .unset, .unset, .unset] [(.int j28), (.int j39), (.ref b45)])) t → Steps p.tables e below (s₁.setTop (entryFrame m #[(.int p0), (.int p1), (.int p2), (.int p3), (.int p4), (.int p5)] maxLocals)) t := fun t k => pre46 t (by
    show Steps p.tables e below (T45.setTop (mkF m 168 #[.val (.int p0), .val (.int p1), .val (.int p2), .val (.int p3), .val (.int p4), .val (.int p5), .val (.int v2), .val (.int v5), .val (.int v10), .val (.int v15), .val (.int v18), .val (.int j28), .val (.int v31), .val (.int j39), .val (.ref b41), .unset, .unset, .unset, .unset, .unset] [(.ref b41), (.int p0), (.ref b45), (.ref b45)])) _
    refine st47.trans ?_
    show Steps p.tables e below (T47.setTop (mkF m 171 #[.val (.int p0), .val (.int p1), .val (.int p2), .val (.int p3), .val (.int p4), .val (.int p5), .val (.int v2), .val (.int v5), .val (.int v10), .val (.int v15), .val (.int v18), .val (.int j28), .val (.int v31), .val (.int j39), .val (.ref b41), .unset, .unset, .unset, .unset, .unset] [(.ref b45)])) _
    refine XS.astore X47.here hx rfl (hb hby at_171) rfl rfl (l' := #[.val (.int p0), .val (.int p1), .val (.int p2), .val (.int p3), .val (.int p4), .val (.int p5), .val (.int v2), .val (.int v5), .val (.int v10), .val (.int v15), .val (.int v18), .val (.int j28), .val (.int v31), .val (.int j39), .val (.ref b41), .val (.ref b45), .unset, .unset, .unset, .unset]) rfl ?_
    show Steps p.tables e below (T47.setTop (mkF m 173 #[.val (.int p0), .val (.int p1), .val (.int p2), .val (.int p3), .val (.int p4), .val (.int p5), .val (.int v2), .val (.int v5), .val (.int v10), .val (.int v15), .val (.int v18), .val (.int j28), .val (.int v31), .val (.int j39), .val (.ref b41), .val (.ref b45), .unset, .unset, .unset, .unset] [])) _
    refine XS.aload X47.here hx rfl (hb hby at_173) rfl rfl ?_
    show Steps p.tables e below (T47.setTop (mkF m 175 #[.val (.int p0), .val (.int p1), .val (.int p2), .val (.int p3), .val (.int p4), .val (.int p5), .val (.int v2), .val (.int v5), .val (.int v10), .val (.int v15), .val (.int v18), .val (.int j28), .val (.int v31), .val (.int j39), .val (.ref b41), .val (.ref b45), .unset, .unset, .unset, .unset] [(.ref b45)])) _
    refine XS.iload X47.here hx rfl (hb hby at_175) rfl ?_
    show Steps p.tables e below (T47.setTop (mkF m 177 #[.val (.int p0), .val (.int p1), .val (.int p2), .val (.int p3), .val (.int p4), .val (.int p5), .val (.int v2), .val (.int v5), .val (.int v10), .val (.int v15), .val (.int v18), .val (.int j28), .val (.int v31), .val (.int j39), .val (.ref b41), .val (.ref b45), .unset, .unset, .unset, .unset] [(.int j39), (.ref b45)])) _
    refine XS.iload X47.here hx rfl (hb hby at_177) rfl ?_
    exact k)
  obtain ⟨cq49, kq49, q49a, q49b, q49c⟩ := isOf hZ rfl A45_47
  obtain ⟨_, _, ⟨T49, L49, k49, n49⟩, -, X49, ⟨Lc49, hQ49, l49, y49, z49⟩, st49⟩ := X47.virtualBack hx (y := (⟨"com/example/adjacent_moments/adjacentmoments/store/KeyRanges$Range", "holds", "(II)Z"⟩ : MethodName)) (z := (⟨"com/example/adjacent_moments/adjacentmoments/store/KeyRanges$Range", "holds", "(II)Z"⟩ : MethodName)) hown (mvT hZ (hw _ (List.mem_of_getElem? (i := 37) rfl))) (mvT hZ (hw _ (List.mem_of_getElem? (i := 38) rfl))) (notFace_of_selects (args := #[]) (mvT hZ (hw _ (List.mem_of_getElem? (i := 40) rfl)))) (mvT hZ (hw _ (List.mem_of_getElem? (i := 40) rfl))) (mvT hZ (hw _ (List.mem_of_getElem? (i := 39) rfl))) (by decide) (backOf (W := 0) (rm7 l Z aw hw [] b45 j39 j28 p0 b41 v10 v15 T47.heap n0 Z47 F47_a0_bin' F47_a0_cells' F43_a0_lo'_47 A41_47 F43_a0_hi'_47) hZ (hw _ (List.mem_of_getElem? (i := 41) rfl)) (hw _ (List.mem_of_getElem? (i := 28) rfl)) (by decide) (by decide)) q49a q49c (g := (mkF m 179 #[.val (.int p0), .val (.int p1), .val (.int p2), .val (.int p3), .val (.int p4), .val (.int p5), .val (.int v2), .val (.int v5), .val (.int v10), .val (.int v15), .val (.int v18), .val (.int j28), .val (.int v31), .val (.int j39), .val (.ref b41), .val (.ref b45), .unset, .unset, .unset, .unset] [(.int j28), (.int j39), (.ref b45)])) rfl (by rw [hml]; rfl) (Steps.refl _) (argsL := [(.int j39), (.int j28)]) (rest := []) (lenOf pd_4 rfl) rfl (by show 2 * 0 + _ ≤ _; exact Nat.le_of_eq rfl) (hb hby at_179) (fun _ _ => ⟨rfl, rfl, (by decide : 2 + 0 ≤ _), (by decide : 4 + 0 ≤ _)⟩)
  dsimp only [Pt.U, Pt.locs, Pt.cells, Pt.slots] at X49 l49 y49 z49 st49 hQ49
  subst l49 y49 z49
  obtain ⟨rfl, N49q, e49⟩ := hQ49
  have N49 := Fr.app N47 N49q
  have pre50 : ∀ t, Steps p.tables e below (T49.setTop (mkF m 182 #[.val (.int p0), .val (.int p1), .val (.int p2), .val (.int p3), .val (.int p4), .val (.int p5), .val (.int v2), .val (.int v5), .val (.int v10), .val (.int v15), .val (.int v18), .val (.int j28), .val (.int v31), .val (.int j39), .val (.ref b41), .val (.ref b45), .unset, .unset, .unset, .unset] [(.int (f7 j39 j28 p0 v10 v15))])) t → Steps p.tables e below (s₁.setTop (entryFrame m #[(.int p0), (.int p1), (.int p2), (.int p3), (.int p4), (.int p5)] maxLocals)) t := fun t k => pre48 t (by
    show Steps p.tables e below (T47.setTop (mkF m 179 #[.val (.int p0), .val (.int p1), .val (.int p2), .val (.int p3), .val (.int p4), .val (.int p5), .val (.int v2), .val (.int v5), .val (.int v10), .val (.int v15), .val (.int v18), .val (.int j28), .val (.int v31), .val (.int j39), .val (.ref b41), .val (.ref b45), .unset, .unset, .unset, .unset] [(.int j28), (.int j39), (.ref b45)])) _
    refine st49.trans ?_
    exact k)
  obtain ⟨v51, hv51⟩ : ∃ z : Int32, z = (f7 j39 j28 p0 v10 v15) := ⟨_, rfl⟩
  have pre52 : ∀ t, Steps p.tables e below (T49.setTop (mkF m 182 #[.val (.int p0), .val (.int p1), .val (.int p2), .val (.int p3), .val (.int p4), .val (.int p5), .val (.int v2), .val (.int v5), .val (.int v10), .val (.int v15), .val (.int v18), .val (.int j28), .val (.int v31), .val (.int j39), .val (.ref b41), .val (.ref b45), .unset, .unset, .unset, .unset] [(.int v51)])) t → Steps p.tables e below (s₁.setTop (entryFrame m #[(.int p0), (.int p1), (.int p2), (.int p3), (.int p4), (.int p5)] maxLocals)) t := fun t k => pre50 t (by rw [hv51] at k; exact k)
  have pre53 : ∀ t, Steps p.tables e below (T49.setTop (mkF m 187 #[.val (.int p0), .val (.int p1), .val (.int p2), .val (.int p3), .val (.int p4), .val (.int p5), .val (.int v2), .val (.int v5), .val (.int v10), .val (.int v15), .val (.int v18), .val (.int j28), .val (.int v31), .val (.int j39), .val (.ref b41), .val (.ref b45), .val (.int v51), .unset, .unset, .unset] [(.int p0), (.int j39)])) t → Steps p.tables e below (s₁.setTop (entryFrame m #[(.int p0), (.int p1), (.int p2), (.int p3), (.int p4), (.int p5)] maxLocals)) t := fun t k => pre52 t (by
    show Steps p.tables e below (T49.setTop (mkF m 182 #[.val (.int p0), .val (.int p1), .val (.int p2), .val (.int p3), .val (.int p4), .val (.int p5), .val (.int v2), .val (.int v5), .val (.int v10), .val (.int v15), .val (.int v18), .val (.int j28), .val (.int v31), .val (.int j39), .val (.ref b41), .val (.ref b45), .unset, .unset, .unset, .unset] [(.int v51)])) _
    refine XS.istore X49.here hx rfl (hb hby at_182) rfl (l' := #[.val (.int p0), .val (.int p1), .val (.int p2), .val (.int p3), .val (.int p4), .val (.int p5), .val (.int v2), .val (.int v5), .val (.int v10), .val (.int v15), .val (.int v18), .val (.int j28), .val (.int v31), .val (.int j39), .val (.ref b41), .val (.ref b45), .val (.int v51), .unset, .unset, .unset]) rfl ?_
    show Steps p.tables e below (T49.setTop (mkF m 184 #[.val (.int p0), .val (.int p1), .val (.int p2), .val (.int p3), .val (.int p4), .val (.int p5), .val (.int v2), .val (.int v5), .val (.int v10), .val (.int v15), .val (.int v18), .val (.int j28), .val (.int v31), .val (.int j39), .val (.ref b41), .val (.ref b45), .val (.int v51), .unset, .unset, .unset] [])) _
    refine XS.iload X49.here hx rfl (hb hby at_184) rfl ?_
    show Steps p.tables e below (T49.setTop (mkF m 186 #[.val (.int p0), .val (.int p1), .val (.int p2), .val (.int p3), .val (.int p4), .val (.int p5), .val (.int v2), .val (.int v5), .val (.int v10), .val (.int v15), .val (.int v18), .val (.int j28), .val (.int v31), .val (.int j39), .val (.ref b41), .val (.ref b45), .val (.int v51), .unset, .unset, .unset] [(.int j39)])) _
    refine XS.iloadN X49.here hx rfl (hb hby at_186) rfl ?_
    exact k)
  obtain ⟨j55, hj55, pre56⟩ : ∃ (j55 : Int32), j55 = (if j39 = p0 then (1 : Int32) else (0 : Int32)) ∧ ∀ t, Steps p.tables e below (T49.setTop (mkF m 195 #[.val (.int p0), .val (.int p1), .val (.int p2), .val (.int p3), .val (.int p4), .val (.int p5), .val (.int v2), .val (.int v5), .val (.int v10), .val (.int v15), .val (.int v18), .val (.int j28), .val (.int v31), .val (.int j39), .val (.ref b41), .val (.ref b45), .val (.int v51), .unset, .unset, .unset] [(.int j55)])) t → Steps p.tables e below (s₁.setTop (entryFrame m #[(.int p0), (.int p1), (.int p2), (.int p3), (.int p4), (.int p5)] maxLocals)) t := by
    by_cases hc54 : j39 = p0
    · exact ⟨(1 : Int32), (by rw [if_pos hc54]), fun t k => pre53 t (by
        show Steps p.tables e below (T49.setTop (mkF m 187 #[.val (.int p0), .val (.int p1), .val (.int p2), .val (.int p3), .val (.int p4), .val (.int p5), .val (.int v2), .val (.int v5), .val (.int v10), .val (.int v15), .val (.int v18), .val (.int j28), .val (.int v31), .val (.int j39), .val (.ref b41), .val (.ref b45), .val (.int v51), .unset, .unset, .unset] [(.int p0), (.int j39)])) _
        refine XS.icmpNo X49.here hx rfl (hb hby at_187) rfl (teq hc54).2 ?_
        show Steps p.tables e below (T49.setTop (mkF m 190 #[.val (.int p0), .val (.int p1), .val (.int p2), .val (.int p3), .val (.int p4), .val (.int p5), .val (.int v2), .val (.int v5), .val (.int v10), .val (.int v15), .val (.int v18), .val (.int j28), .val (.int v31), .val (.int j39), .val (.ref b41), .val (.ref b45), .val (.int v51), .unset, .unset, .unset] [])) _
        refine XS.iconst X49.here hx rfl (hb hby at_190) ?_
        show Steps p.tables e below (T49.setTop (mkF m 191 #[.val (.int p0), .val (.int p1), .val (.int p2), .val (.int p3), .val (.int p4), .val (.int p5), .val (.int v2), .val (.int v5), .val (.int v10), .val (.int v15), .val (.int v18), .val (.int j28), .val (.int v31), .val (.int j39), .val (.ref b41), .val (.ref b45), .val (.int v51), .unset, .unset, .unset] [(.int (1 : Int32))])) _
        refine XS.goto X49.here hx rfl (pc0 := 191) (pc' := 195) rfl (hb hby at_191) (by decide) (by decide) ?_
        exact k)⟩
    · exact ⟨(0 : Int32), (by rw [if_neg hc54]), fun t k => pre53 t (by
        show Steps p.tables e below (T49.setTop (mkF m 187 #[.val (.int p0), .val (.int p1), .val (.int p2), .val (.int p3), .val (.int p4), .val (.int p5), .val (.int v2), .val (.int v5), .val (.int v10), .val (.int v15), .val (.int v18), .val (.int j28), .val (.int v31), .val (.int j39), .val (.ref b41), .val (.ref b45), .val (.int v51), .unset, .unset, .unset] [(.int p0), (.int j39)])) _
        refine XS.icmpYes X49.here hx rfl (pc0 := 187) (pc' := 194) rfl (hb hby at_187) rfl (feq hc54).2 (by decide) (by decide) ?_
        show Steps p.tables e below (T49.setTop (mkF m 194 #[.val (.int p0), .val (.int p1), .val (.int p2), .val (.int p3), .val (.int p4), .val (.int p5), .val (.int v2), .val (.int v5), .val (.int v10), .val (.int v15), .val (.int v18), .val (.int j28), .val (.int v31), .val (.int j39), .val (.ref b41), .val (.ref b45), .val (.int v51), .unset, .unset, .unset] [])) _
        refine XS.iconst X49.here hx rfl (hb hby at_194) ?_
        exact k)⟩
  have pre57 : ∀ t, Steps p.tables e below (T49.setTop (mkF m 203 #[.val (.int p0), .val (.int p1), .val (.int p2), .val (.int p3), .val (.int p4), .val (.int p5), .val (.int v2), .val (.int v5), .val (.int v10), .val (.int v15), .val (.int v18), .val (.int j28), .val (.int v31), .val (.int j39), .val (.ref b41), .val (.ref b45), .val (.int v51), .val (.int j55), .unset, .unset] [(.int j28), (.int v15), (.int v10)])) t → Steps p.tables e below (s₁.setTop (entryFrame m #[(.int p0), (.int p1), (.int p2), (.int p3), (.int p4), (.int p5)] maxLocals)) t := fun t k => pre56 t (by
    show Steps p.tables e below (T49.setTop (mkF m 195 #[.val (.int p0), .val (.int p1), .val (.int p2), .val (.int p3), .val (.int p4), .val (.int p5), .val (.int v2), .val (.int v5), .val (.int v10), .val (.int v15), .val (.int v18), .val (.int j28), .val (.int v31), .val (.int j39), .val (.ref b41), .val (.ref b45), .val (.int v51), .unset, .unset, .unset] [(.int j55)])) _
    refine XS.istore X49.here hx rfl (hb hby at_195) rfl (l' := #[.val (.int p0), .val (.int p1), .val (.int p2), .val (.int p3), .val (.int p4), .val (.int p5), .val (.int v2), .val (.int v5), .val (.int v10), .val (.int v15), .val (.int v18), .val (.int j28), .val (.int v31), .val (.int j39), .val (.ref b41), .val (.ref b45), .val (.int v51), .val (.int j55), .unset, .unset]) rfl ?_
    show Steps p.tables e below (T49.setTop (mkF m 197 #[.val (.int p0), .val (.int p1), .val (.int p2), .val (.int p3), .val (.int p4), .val (.int p5), .val (.int v2), .val (.int v5), .val (.int v10), .val (.int v15), .val (.int v18), .val (.int j28), .val (.int v31), .val (.int j39), .val (.ref b41), .val (.ref b45), .val (.int v51), .val (.int j55), .unset, .unset] [])) _
    refine XS.iload X49.here hx rfl (hb hby at_197) rfl ?_
    show Steps p.tables e below (T49.setTop (mkF m 199 #[.val (.int p0), .val (.int p1), .val (.int p2), .val (.int p3), .val (.int p4), .val (.int p5), .val (.int v2), .val (.int v5), .val (.int v10), .val (.int v15), .val (.int v18), .val (.int j28), .val (.int v31), .val (.int j39), .val (.ref b41), .val (.ref b45), .val (.int v51), .val (.int j55), .unset, .unset] [(.int v10)])) _
    refine XS.iload X49.here hx rfl (hb hby at_199) rfl ?_
    show Steps p.tables e below (T49.setTop (mkF m 201 #[.val (.int p0), .val (.int p1), .val (.int p2), .val (.int p3), .val (.int p4), .val (.int p5), .val (.int v2), .val (.int v5), .val (.int v10), .val (.int v15), .val (.int v18), .val (.int j28), .val (.int v31), .val (.int j39), .val (.ref b41), .val (.ref b45), .val (.int v51), .val (.int j55), .unset, .unset] [(.int v15), (.int v10)])) _
    refine XS.iload X49.here hx rfl (hb hby at_201) rfl ?_
    exact k)
  obtain ⟨_, _, ⟨T58, L58, k58, n58⟩, -, X58, ⟨Lc58, hQ58, l58, y58, z58⟩, st58⟩ := Jvm.LawKit.callS X49 hx (y := (⟨"java/lang/Math", "min", "(II)I"⟩ : MethodName)) hown (mvT hZ (hw _ (List.mem_of_getElem? (i := 1) rfl))) (mvT hZ (hw _ (List.mem_of_getElem? (i := 2) rfl))) (mvT hZ (hw _ (List.mem_of_getElem? (i := 3) rfl))) (mvT hZ (hw _ (List.mem_of_getElem? (i := 4) rfl))) (by decide) (backOf (W := 1) (rm1 l Z aw hw [] v15 j28 T47.heap n0 Z47) hZ (hw _ (List.mem_of_getElem? (i := 4) rfl)) (hw _ (List.mem_of_getElem? (i := 3) rfl)) (by decide) (by decide)) (g := (mkF m 203 #[.val (.int p0), .val (.int p1), .val (.int p2), .val (.int p3), .val (.int p4), .val (.int p5), .val (.int v2), .val (.int v5), .val (.int v10), .val (.int v15), .val (.int v18), .val (.int j28), .val (.int v31), .val (.int j39), .val (.ref b41), .val (.ref b45), .val (.int v51), .val (.int j55), .unset, .unset] [(.int j28), (.int v15), (.int v10)])) rfl (by rw [hml]; rfl) (argsL := [(.int v15), (.int j28)]) (rest := [(.int v10)]) (lenOf pd_0 rfl) rfl (by show 2 * 0 + _ ≤ _; exact Nat.le_of_eq rfl) (hb hby at_203) (fun _ _ => ⟨rfl, e49, (by decide : 2 + 0 ≤ _), (by decide : 4 + 0 ≤ _)⟩)
  dsimp only [Pt.U, Pt.locs, Pt.cells, Pt.slots] at X58 l58 y58 z58 st58 hQ58
  subst l58 y58 z58
  obtain ⟨rfl, N58q, e58⟩ := hQ58
  have N58 := Fr.app N49 N58q
  have pre59 : ∀ t, Steps p.tables e below (T58.setTop (mkF m 206 #[.val (.int p0), .val (.int p1), .val (.int p2), .val (.int p3), .val (.int p4), .val (.int p5), .val (.int v2), .val (.int v5), .val (.int v10), .val (.int v15), .val (.int v18), .val (.int j28), .val (.int v31), .val (.int j39), .val (.ref b41), .val (.ref b45), .val (.int v51), .val (.int j55), .unset, .unset] [(.int (f1 v15 j28)), (.int v10)])) t → Steps p.tables e below (s₁.setTop (entryFrame m #[(.int p0), (.int p1), (.int p2), (.int p3), (.int p4), (.int p5)] maxLocals)) t := fun t k => pre57 t (by
    show Steps p.tables e below (T49.setTop (mkF m 203 #[.val (.int p0), .val (.int p1), .val (.int p2), .val (.int p3), .val (.int p4), .val (.int p5), .val (.int v2), .val (.int v5), .val (.int v10), .val (.int v15), .val (.int v18), .val (.int j28), .val (.int v31), .val (.int j39), .val (.ref b41), .val (.ref b45), .val (.int v51), .val (.int j55), .unset, .unset] [(.int j28), (.int v15), (.int v10)])) _
    refine st58 _ ?_
    exact k)
  obtain ⟨_, _, ⟨T60, L60, k60, n60⟩, -, X60, ⟨Lc60, hQ60, l60, y60, z60⟩, st60⟩ := Jvm.LawKit.callS X58 hx (y := (⟨"java/lang/Math", "max", "(II)I"⟩ : MethodName)) hown (mvT hZ (hw _ (List.mem_of_getElem? (i := 5) rfl))) (mvT hZ (hw _ (List.mem_of_getElem? (i := 6) rfl))) (mvT hZ (hw _ (List.mem_of_getElem? (i := 3) rfl))) (mvT hZ (hw _ (List.mem_of_getElem? (i := 7) rfl))) (by decide) (backOf (W := 0) (rm2 l Z aw hw [] v10 (f1 v15 j28) T47.heap n0 Z47) hZ (hw _ (List.mem_of_getElem? (i := 7) rfl)) (hw _ (List.mem_of_getElem? (i := 3) rfl)) (by decide) (by decide)) (g := (mkF m 206 #[.val (.int p0), .val (.int p1), .val (.int p2), .val (.int p3), .val (.int p4), .val (.int p5), .val (.int v2), .val (.int v5), .val (.int v10), .val (.int v15), .val (.int v18), .val (.int j28), .val (.int v31), .val (.int j39), .val (.ref b41), .val (.ref b45), .val (.int v51), .val (.int j55), .unset, .unset] [(.int (f1 v15 j28)), (.int v10)])) rfl (by rw [hml]; rfl) (argsL := [(.int v10), (.int (f1 v15 j28))]) (rest := []) (lenOf pd_0 rfl) rfl (by show 2 * 0 + _ ≤ _; exact Nat.le_of_eq rfl) (hb hby at_206) (fun _ _ => ⟨rfl, e58, (by decide : 2 + 0 ≤ _), (by decide : 4 + 0 ≤ _)⟩)
  dsimp only [Pt.U, Pt.locs, Pt.cells, Pt.slots] at X60 l60 y60 z60 st60 hQ60
  subst l60 y60 z60
  obtain ⟨rfl, N60q, e60⟩ := hQ60
  have N60 := Fr.app N58 N60q
  have pre61 : ∀ t, Steps p.tables e below (T60.setTop (mkF m 211 #[.val (.int p0), .val (.int p1), .val (.int p2), .val (.int p3), .val (.int p4), .val (.int p5), .val (.int v2), .val (.int v5), .val (.int v10), .val (.int v15), .val (.int v18), .val (.int j28), .val (.int v31), .val (.int j39), .val (.ref b41), .val (.ref b45), .val (.int v51), .val (.int j55), .unset, .unset] [(.int j28), (.int (f2 v10 (f1 v15 j28)))])) t → Steps p.tables e below (s₁.setTop (entryFrame m #[(.int p0), (.int p1), (.int p2), (.int p3), (.int p4), (.int p5)] maxLocals)) t := fun t k => pre59 t (by
    show Steps p.tables e below (T58.setTop (mkF m 206 #[.val (.int p0), .val (.int p1), .val (.int p2), .val (.int p3), .val (.int p4), .val (.int p5), .val (.int v2), .val (.int v5), .val (.int v10), .val (.int v15), .val (.int v18), .val (.int j28), .val (.int v31), .val (.int j39), .val (.ref b41), .val (.ref b45), .val (.int v51), .val (.int j55), .unset, .unset] [(.int (f1 v15 j28)), (.int v10)])) _
    refine st60 _ ?_
    show Steps p.tables e below (T60.setTop (mkF m 209 #[.val (.int p0), .val (.int p1), .val (.int p2), .val (.int p3), .val (.int p4), .val (.int p5), .val (.int v2), .val (.int v5), .val (.int v10), .val (.int v15), .val (.int v18), .val (.int j28), .val (.int v31), .val (.int j39), .val (.ref b41), .val (.ref b45), .val (.int v51), .val (.int j55), .unset, .unset] [(.int (f2 v10 (f1 v15 j28)))])) _
    refine XS.iload X60.here hx rfl (hb hby at_209) rfl ?_
    exact k)
  obtain ⟨j63, hj63, pre64⟩ : ∃ (j63 : Int32), j63 = (if (f2 v10 (f1 v15 j28)) = j28 then (1 : Int32) else (0 : Int32)) ∧ ∀ t, Steps p.tables e below (T60.setTop (mkF m 219 #[.val (.int p0), .val (.int p1), .val (.int p2), .val (.int p3), .val (.int p4), .val (.int p5), .val (.int v2), .val (.int v5), .val (.int v10), .val (.int v15), .val (.int v18), .val (.int j28), .val (.int v31), .val (.int j39), .val (.ref b41), .val (.ref b45), .val (.int v51), .val (.int j55), .unset, .unset] [(.int j63)])) t → Steps p.tables e below (s₁.setTop (entryFrame m #[(.int p0), (.int p1), (.int p2), (.int p3), (.int p4), (.int p5)] maxLocals)) t := by
    by_cases hc62 : (f2 v10 (f1 v15 j28)) = j28
    · exact ⟨(1 : Int32), (by rw [if_pos hc62]), fun t k => pre61 t (by
        show Steps p.tables e below (T60.setTop (mkF m 211 #[.val (.int p0), .val (.int p1), .val (.int p2), .val (.int p3), .val (.int p4), .val (.int p5), .val (.int v2), .val (.int v5), .val (.int v10), .val (.int v15), .val (.int v18), .val (.int j28), .val (.int v31), .val (.int j39), .val (.ref b41), .val (.ref b45), .val (.int v51), .val (.int j55), .unset, .unset] [(.int j28), (.int (f2 v10 (f1 v15 j28)))])) _
        refine XS.icmpNo X60.here hx rfl (hb hby at_211) rfl (teq hc62).2 ?_
        show Steps p.tables e below (T60.setTop (mkF m 214 #[.val (.int p0), .val (.int p1), .val (.int p2), .val (.int p3), .val (.int p4), .val (.int p5), .val (.int v2), .val (.int v5), .val (.int v10), .val (.int v15), .val (.int v18), .val (.int j28), .val (.int v31), .val (.int j39), .val (.ref b41), .val (.ref b45), .val (.int v51), .val (.int j55), .unset, .unset] [])) _
        refine XS.iconst X60.here hx rfl (hb hby at_214) ?_
        show Steps p.tables e below (T60.setTop (mkF m 215 #[.val (.int p0), .val (.int p1), .val (.int p2), .val (.int p3), .val (.int p4), .val (.int p5), .val (.int v2), .val (.int v5), .val (.int v10), .val (.int v15), .val (.int v18), .val (.int j28), .val (.int v31), .val (.int j39), .val (.ref b41), .val (.ref b45), .val (.int v51), .val (.int j55), .unset, .unset] [(.int (1 : Int32))])) _
        refine XS.goto X60.here hx rfl (pc0 := 215) (pc' := 219) rfl (hb hby at_215) (by decide) (by decide) ?_
        exact k)⟩
    · exact ⟨(0 : Int32), (by rw [if_neg hc62]), fun t k => pre61 t (by
        show Steps p.tables e below (T60.setTop (mkF m 211 #[.val (.int p0), .val (.int p1), .val (.int p2), .val (.int p3), .val (.int p4), .val (.int p5), .val (.int v2), .val (.int v5), .val (.int v10), .val (.int v15), .val (.int v18), .val (.int j28), .val (.int v31), .val (.int j39), .val (.ref b41), .val (.ref b45), .val (.int v51), .val (.int j55), .unset, .unset] [(.int j28), (.int (f2 v10 (f1 v15 j28)))])) _
        refine XS.icmpYes X60.here hx rfl (pc0 := 211) (pc' := 218) rfl (hb hby at_211) rfl (feq hc62).2 (by decide) (by decide) ?_
        show Steps p.tables e below (T60.setTop (mkF m 218 #[.val (.int p0), .val (.int p1), .val (.int p2), .val (.int p3), .val (.int p4), .val (.int p5), .val (.int v2), .val (.int v5), .val (.int v10), .val (.int v15), .val (.int v18), .val (.int j28), .val (.int v31), .val (.int j39), .val (.ref b41), .val (.ref b45), .val (.int v51), .val (.int j55), .unset, .unset] [])) _
        refine XS.iconst X60.here hx rfl (hb hby at_218) ?_
        exact k)⟩
  have pre65 : ∀ t, Steps p.tables e below (T60.setTop (mkF m 223 #[.val (.int p0), .val (.int p1), .val (.int p2), .val (.int p3), .val (.int p4), .val (.int p5), .val (.int v2), .val (.int v5), .val (.int v10), .val (.int v15), .val (.int v18), .val (.int j28), .val (.int v31), .val (.int j39), .val (.ref b41), .val (.ref b45), .val (.int v51), .val (.int j55), .val (.int j63), .unset] [(.int j55)])) t → Steps p.tables e below (s₁.setTop (entryFrame m #[(.int p0), (.int p1), (.int p2), (.int p3), (.int p4), (.int p5)] maxLocals)) t := fun t k => pre64 t (by
    show Steps p.tables e below (T60.setTop (mkF m 219 #[.val (.int p0), .val (.int p1), .val (.int p2), .val (.int p3), .val (.int p4), .val (.int p5), .val (.int v2), .val (.int v5), .val (.int v10), .val (.int v15), .val (.int v18), .val (.int j28), .val (.int v31), .val (.int j39), .val (.ref b41), .val (.ref b45), .val (.int v51), .val (.int j55), .unset, .unset] [(.int j63)])) _
    refine XS.istore X60.here hx rfl (hb hby at_219) rfl (l' := #[.val (.int p0), .val (.int p1), .val (.int p2), .val (.int p3), .val (.int p4), .val (.int p5), .val (.int v2), .val (.int v5), .val (.int v10), .val (.int v15), .val (.int v18), .val (.int j28), .val (.int v31), .val (.int j39), .val (.ref b41), .val (.ref b45), .val (.int v51), .val (.int j55), .val (.int j63), .unset]) rfl ?_
    show Steps p.tables e below (T60.setTop (mkF m 221 #[.val (.int p0), .val (.int p1), .val (.int p2), .val (.int p3), .val (.int p4), .val (.int p5), .val (.int v2), .val (.int v5), .val (.int v10), .val (.int v15), .val (.int v18), .val (.int j28), .val (.int v31), .val (.int j39), .val (.ref b41), .val (.ref b45), .val (.int v51), .val (.int j55), .val (.int j63), .unset] [])) _
    refine XS.iload X60.here hx rfl (hb hby at_221) rfl ?_
    exact k)
  obtain ⟨j69, hj69, pre70⟩ : ∃ (j69 : Int32), j69 = (if j55 = (0 : Int32) then (0 : Int32) else (if j63 = (0 : Int32) then (0 : Int32) else (1 : Int32))) ∧ ∀ t, Steps p.tables e below (T60.setTop (mkF m 236 #[.val (.int p0), .val (.int p1), .val (.int p2), .val (.int p3), .val (.int p4), .val (.int p5), .val (.int v2), .val (.int v5), .val (.int v10), .val (.int v15), .val (.int v18), .val (.int j28), .val (.int v31), .val (.int j39), .val (.ref b41), .val (.ref b45), .val (.int v51), .val (.int j55), .val (.int j63), .unset] [(.int j69)])) t → Steps p.tables e below (s₁.setTop (entryFrame m #[(.int p0), (.int p1), (.int p2), (.int p3), (.int p4), (.int p5)] maxLocals)) t := by
    by_cases hc66 : j55 = (0 : Int32)
    · exact ⟨(0 : Int32), (by rw [if_pos hc66]), fun t k => pre65 t (by
        show Steps p.tables e below (T60.setTop (mkF m 223 #[.val (.int p0), .val (.int p1), .val (.int p2), .val (.int p3), .val (.int p4), .val (.int p5), .val (.int v2), .val (.int v5), .val (.int v10), .val (.int v15), .val (.int v18), .val (.int j28), .val (.int v31), .val (.int j39), .val (.ref b41), .val (.ref b45), .val (.int v51), .val (.int j55), .val (.int j63), .unset] [(.int j55)])) _
        refine XS.ifYes X60.here hx rfl (pc0 := 223) (pc' := 235) rfl (hb hby at_223) rfl ((if0 _ _).trans (teq hc66).1) (by decide) (by decide) ?_
        show Steps p.tables e below (T60.setTop (mkF m 235 #[.val (.int p0), .val (.int p1), .val (.int p2), .val (.int p3), .val (.int p4), .val (.int p5), .val (.int v2), .val (.int v5), .val (.int v10), .val (.int v15), .val (.int v18), .val (.int j28), .val (.int v31), .val (.int j39), .val (.ref b41), .val (.ref b45), .val (.int v51), .val (.int j55), .val (.int j63), .unset] [])) _
        refine XS.iconst X60.here hx rfl (hb hby at_235) ?_
        exact k)⟩
    · have pre67 : ∀ t, Steps p.tables e below (T60.setTop (mkF m 228 #[.val (.int p0), .val (.int p1), .val (.int p2), .val (.int p3), .val (.int p4), .val (.int p5), .val (.int v2), .val (.int v5), .val (.int v10), .val (.int v15), .val (.int v18), .val (.int j28), .val (.int v31), .val (.int j39), .val (.ref b41), .val (.ref b45), .val (.int v51), .val (.int j55), .val (.int j63), .unset] [(.int j63)])) t → Steps p.tables e below (s₁.setTop (entryFrame m #[(.int p0), (.int p1), (.int p2), (.int p3), (.int p4), (.int p5)] maxLocals)) t := fun t k => pre65 t (by
        show Steps p.tables e below (T60.setTop (mkF m 223 #[.val (.int p0), .val (.int p1), .val (.int p2), .val (.int p3), .val (.int p4), .val (.int p5), .val (.int v2), .val (.int v5), .val (.int v10), .val (.int v15), .val (.int v18), .val (.int j28), .val (.int v31), .val (.int j39), .val (.ref b41), .val (.ref b45), .val (.int v51), .val (.int j55), .val (.int j63), .unset] [(.int j55)])) _
        refine XS.ifNo X60.here hx rfl (hb hby at_223) rfl ((if0 _ _).trans (feq hc66).1) ?_
        show Steps p.tables e below (T60.setTop (mkF m 226 #[.val (.int p0), .val (.int p1), .val (.int p2), .val (.int p3), .val (.int p4), .val (.int p5), .val (.int v2), .val (.int v5), .val (.int v10), .val (.int v15), .val (.int v18), .val (.int j28), .val (.int v31), .val (.int j39), .val (.ref b41), .val (.ref b45), .val (.int v51), .val (.int j55), .val (.int j63), .unset] [])) _
        refine XS.iload X60.here hx rfl (hb hby at_226) rfl ?_
        exact k)
      by_cases hc68 : j63 = (0 : Int32)
      · exact ⟨(0 : Int32), (by rw [if_neg hc66, if_pos hc68]), fun t k => pre67 t (by
          show Steps p.tables e below (T60.setTop (mkF m 228 #[.val (.int p0), .val (.int p1), .val (.int p2), .val (.int p3), .val (.int p4), .val (.int p5), .val (.int v2), .val (.int v5), .val (.int v10), .val (.int v15), .val (.int v18), .val (.int j28), .val (.int v31), .val (.int j39), .val (.ref b41), .val (.ref b45), .val (.int v51), .val (.int j55), .val (.int j63), .unset] [(.int j63)])) _
          refine XS.ifYes X60.here hx rfl (pc0 := 228) (pc' := 235) rfl (hb hby at_228) rfl ((if0 _ _).trans (teq hc68).1) (by decide) (by decide) ?_
          show Steps p.tables e below (T60.setTop (mkF m 235 #[.val (.int p0), .val (.int p1), .val (.int p2), .val (.int p3), .val (.int p4), .val (.int p5), .val (.int v2), .val (.int v5), .val (.int v10), .val (.int v15), .val (.int v18), .val (.int j28), .val (.int v31), .val (.int j39), .val (.ref b41), .val (.ref b45), .val (.int v51), .val (.int j55), .val (.int j63), .unset] [])) _
          refine XS.iconst X60.here hx rfl (hb hby at_235) ?_
          exact k)⟩
      · exact ⟨(1 : Int32), (by rw [if_neg hc66, if_neg hc68]), fun t k => pre67 t (by
          show Steps p.tables e below (T60.setTop (mkF m 228 #[.val (.int p0), .val (.int p1), .val (.int p2), .val (.int p3), .val (.int p4), .val (.int p5), .val (.int v2), .val (.int v5), .val (.int v10), .val (.int v15), .val (.int v18), .val (.int j28), .val (.int v31), .val (.int j39), .val (.ref b41), .val (.ref b45), .val (.int v51), .val (.int j55), .val (.int j63), .unset] [(.int j63)])) _
          refine XS.ifNo X60.here hx rfl (hb hby at_228) rfl ((if0 _ _).trans (feq hc68).1) ?_
          show Steps p.tables e below (T60.setTop (mkF m 231 #[.val (.int p0), .val (.int p1), .val (.int p2), .val (.int p3), .val (.int p4), .val (.int p5), .val (.int v2), .val (.int v5), .val (.int v10), .val (.int v15), .val (.int v18), .val (.int j28), .val (.int v31), .val (.int j39), .val (.ref b41), .val (.ref b45), .val (.int v51), .val (.int j55), .val (.int j63), .unset] [])) _
          refine XS.iconst X60.here hx rfl (hb hby at_231) ?_
          show Steps p.tables e below (T60.setTop (mkF m 232 #[.val (.int p0), .val (.int p1), .val (.int p2), .val (.int p3), .val (.int p4), .val (.int p5), .val (.int v2), .val (.int v5), .val (.int v10), .val (.int v15), .val (.int v18), .val (.int j28), .val (.int v31), .val (.int j39), .val (.ref b41), .val (.ref b45), .val (.int v51), .val (.int j55), .val (.int j63), .unset] [(.int (1 : Int32))])) _
          refine XS.goto X60.here hx rfl (pc0 := 232) (pc' := 236) rfl (hb hby at_232) (by decide) (by decide) ?_
          exact k)⟩
  have pre71 : ∀ t, Steps p.tables e below (T60.setTop (mkF m 242 #[.val (.int p0), .val (.int p1), .val (.int p2), .val (.int p3), .val (.int p4), .val (.int p5), .val (.int v2), .val (.int v5), .val (.int v10), .val (.int v15), .val (.int v18), .val (.int j28), .val (.int v31), .val (.int j39), .val (.ref b41), .val (.ref b45), .val (.int v51), .val (.int j55), .val (.int j63), .val (.int j69)] [(.int j69), (.int v51)])) t → Steps p.tables e below (s₁.setTop (entryFrame m #[(.int p0), (.int p1), (.int p2), (.int p3), (.int p4), (.int p5)] maxLocals)) t := fun t k => pre70 t (by
    show Steps p.tables e below (T60.setTop (mkF m 236 #[.val (.int p0), .val (.int p1), .val (.int p2), .val (.int p3), .val (.int p4), .val (.int p5), .val (.int v2), .val (.int v5), .val (.int v10), .val (.int v15), .val (.int v18), .val (.int j28), .val (.int v31), .val (.int j39), .val (.ref b41), .val (.ref b45), .val (.int v51), .val (.int j55), .val (.int j63), .unset] [(.int j69)])) _
    refine XS.istore X60.here hx rfl (hb hby at_236) rfl (l' := #[.val (.int p0), .val (.int p1), .val (.int p2), .val (.int p3), .val (.int p4), .val (.int p5), .val (.int v2), .val (.int v5), .val (.int v10), .val (.int v15), .val (.int v18), .val (.int j28), .val (.int v31), .val (.int j39), .val (.ref b41), .val (.ref b45), .val (.int v51), .val (.int j55), .val (.int j63), .val (.int j69)]) rfl ?_
    show Steps p.tables e below (T60.setTop (mkF m 238 #[.val (.int p0), .val (.int p1), .val (.int p2), .val (.int p3), .val (.int p4), .val (.int p5), .val (.int v2), .val (.int v5), .val (.int v10), .val (.int v15), .val (.int v18), .val (.int j28), .val (.int v31), .val (.int j39), .val (.ref b41), .val (.ref b45), .val (.int v51), .val (.int j55), .val (.int j63), .val (.int j69)] [])) _
    refine XS.iload X60.here hx rfl (hb hby at_238) rfl ?_
    show Steps p.tables e below (T60.setTop (mkF m 240 #[.val (.int p0), .val (.int p1), .val (.int p2), .val (.int p3), .val (.int p4), .val (.int p5), .val (.int v2), .val (.int v5), .val (.int v10), .val (.int v15), .val (.int v18), .val (.int j28), .val (.int v31), .val (.int j39), .val (.ref b41), .val (.ref b45), .val (.int v51), .val (.int j55), .val (.int j63), .val (.int j69)] [(.int v51)])) _
    refine XS.iload X60.here hx rfl (hb hby at_240) rfl ?_
    exact k)
  obtain ⟨j73, hj73, pre74⟩ : ∃ (j73 : Int32), j73 = (if v51 = j69 then (1 : Int32) else (0 : Int32)) ∧ ∀ t, Steps p.tables e below (T60.setTop (mkF m 250 #[.val (.int p0), .val (.int p1), .val (.int p2), .val (.int p3), .val (.int p4), .val (.int p5), .val (.int v2), .val (.int v5), .val (.int v10), .val (.int v15), .val (.int v18), .val (.int j28), .val (.int v31), .val (.int j39), .val (.ref b41), .val (.ref b45), .val (.int v51), .val (.int j55), .val (.int j63), .val (.int j69)] [(.int j73)])) t → Steps p.tables e below (s₁.setTop (entryFrame m #[(.int p0), (.int p1), (.int p2), (.int p3), (.int p4), (.int p5)] maxLocals)) t := by
    by_cases hc72 : v51 = j69
    · exact ⟨(1 : Int32), (by rw [if_pos hc72]), fun t k => pre71 t (by
        show Steps p.tables e below (T60.setTop (mkF m 242 #[.val (.int p0), .val (.int p1), .val (.int p2), .val (.int p3), .val (.int p4), .val (.int p5), .val (.int v2), .val (.int v5), .val (.int v10), .val (.int v15), .val (.int v18), .val (.int j28), .val (.int v31), .val (.int j39), .val (.ref b41), .val (.ref b45), .val (.int v51), .val (.int j55), .val (.int j63), .val (.int j69)] [(.int j69), (.int v51)])) _
        refine XS.icmpNo X60.here hx rfl (hb hby at_242) rfl (teq hc72).2 ?_
        show Steps p.tables e below (T60.setTop (mkF m 245 #[.val (.int p0), .val (.int p1), .val (.int p2), .val (.int p3), .val (.int p4), .val (.int p5), .val (.int v2), .val (.int v5), .val (.int v10), .val (.int v15), .val (.int v18), .val (.int j28), .val (.int v31), .val (.int j39), .val (.ref b41), .val (.ref b45), .val (.int v51), .val (.int j55), .val (.int j63), .val (.int j69)] [])) _
        refine XS.iconst X60.here hx rfl (hb hby at_245) ?_
        show Steps p.tables e below (T60.setTop (mkF m 246 #[.val (.int p0), .val (.int p1), .val (.int p2), .val (.int p3), .val (.int p4), .val (.int p5), .val (.int v2), .val (.int v5), .val (.int v10), .val (.int v15), .val (.int v18), .val (.int j28), .val (.int v31), .val (.int j39), .val (.ref b41), .val (.ref b45), .val (.int v51), .val (.int j55), .val (.int j63), .val (.int j69)] [(.int (1 : Int32))])) _
        refine XS.goto X60.here hx rfl (pc0 := 246) (pc' := 250) rfl (hb hby at_246) (by decide) (by decide) ?_
        exact k)⟩
    · exact ⟨(0 : Int32), (by rw [if_neg hc72]), fun t k => pre71 t (by
        show Steps p.tables e below (T60.setTop (mkF m 242 #[.val (.int p0), .val (.int p1), .val (.int p2), .val (.int p3), .val (.int p4), .val (.int p5), .val (.int v2), .val (.int v5), .val (.int v10), .val (.int v15), .val (.int v18), .val (.int j28), .val (.int v31), .val (.int j39), .val (.ref b41), .val (.ref b45), .val (.int v51), .val (.int j55), .val (.int j63), .val (.int j69)] [(.int j69), (.int v51)])) _
        refine XS.icmpYes X60.here hx rfl (pc0 := 242) (pc' := 249) rfl (hb hby at_242) rfl (feq hc72).2 (by decide) (by decide) ?_
        show Steps p.tables e below (T60.setTop (mkF m 249 #[.val (.int p0), .val (.int p1), .val (.int p2), .val (.int p3), .val (.int p4), .val (.int p5), .val (.int v2), .val (.int v5), .val (.int v10), .val (.int v15), .val (.int v18), .val (.int j28), .val (.int v31), .val (.int j39), .val (.ref b41), .val (.ref b45), .val (.int v51), .val (.int j55), .val (.int j63), .val (.int j69)] [])) _
        refine XS.iconst X60.here hx rfl (hb hby at_249) ?_
        exact k)⟩
  obtain ⟨fs, hr, hrun, hended, hW, hsame⟩ := X60.leave (v := some (.int (nar .boolean j73))) (fun h => by rw [Bd.returns] at h; cases h)
  refine ⟨_, _, pre74 _ ?_, hrun, hended, _, _, rfl, ?_, ⟨_, rfl⟩, hW, hsame.mono (by decide) (by decide)⟩
  · show Steps p.tables e below (T60.setTop (mkF m 250 #[.val (.int p0), .val (.int p1), .val (.int p2), .val (.int p3), .val (.int p4), .val (.int p5), .val (.int v2), .val (.int v5), .val (.int v10), .val (.int v15), .val (.int v18), .val (.int j28), .val (.int v31), .val (.int j39), .val (.ref b41), .val (.ref b45), .val (.int v51), .val (.int j55), .val (.int j63), .val (.int j69)] [(.int j73)])) _
    exact retN X60 hx (t := .boolean) Bd.returns (by simp) (hb hby at_250) hr
  · show Q0 Z p0 p1 p2 p3 p4 p5 h0 n0 _ T60.heap _
    rw [e60]
    have hv : (nar .boolean j73) = f0 p0 p1 p2 p3 p4 p5 := (by subst hj73 hj69 hj63 hj55 hv51 hj39 hv31 hj28 hv18 hv15 hv10 hv5 hv2; rfl)
    exact ⟨congrArg (fun z => some (Value.int z)) (hv.trans hlaw), N60⟩
theorem own_fin (lo hi cell rb bin : Int32) (h : ¬ hi < lo) : nar .boolean (if f7 rb cell bin lo hi = (if (if rb = bin then (1 : Int32) else (0 : Int32)) = (0 : Int32) then (0 : Int32) else (if (if f2 lo (f1 hi cell) = cell then (1 : Int32) else (0 : Int32)) = (0 : Int32) then (0 : Int32) else (1 : Int32))) then (1 : Int32) else (0 : Int32)) = 1 := by
  have n1 : ¬ ((1 : Int32) = 0) := by decide
  have e : (f2 lo (f1 hi cell) = cell) ↔ (¬ cell < lo ∧ ¬ hi < cell) := by
    show ((if lo < (if cell < hi then cell else hi) then (if cell < hi then cell else hi) else lo) = cell) ↔ _
    rw [Int32.lt_iff_toInt_lt] at h
    simp only [Int32.lt_iff_toInt_lt]
    rw [← Int32.toInt_inj]
    repeat' split
    all_goals omega
  have f : f7 rb cell bin lo hi = nar .boolean (if rb = bin then (if cell < lo then (0 : Int32) else (if hi < cell then (0 : Int32) else (1 : Int32))) else (0 : Int32)) := rfl
  rw [f]
  by_cases q : rb = bin
  · simp only [if_pos q, if_neg n1]
    by_cases a : cell < lo
    · have z : ¬ (f2 lo (f1 hi cell) = cell) := fun y => (e.mp y).1 a
      simp only [if_pos a, if_neg z, if_true]; decide
    · by_cases b : hi < cell
      · have z : ¬ (f2 lo (f1 hi cell) = cell) := fun y => (e.mp y).2 b
        simp only [if_neg a, if_pos b, if_neg z, if_true]; decide
      · simp only [if_neg a, if_neg b, if_pos (e.mpr ⟨a, b⟩), if_neg n1]; decide
  · simp only [if_neg q, if_true]; decide
theorem own_law (p0 p1 p2 p3 p4 p5 : Int32) : f0 p0 p1 p2 p3 p4 p5 = 1 :=
  own_fin _ _ _ _ _ (own_pre2 p0 p1 p2 p3 p4 p5 _ rfl _ rfl _ rfl _ rfl _ rfl _ rfl _ rfl _ rfl)

set_option maxRecDepth 65536 in
set_option maxHeartbeats 40000000 in
theorem comes_1 {Post : Tables → Env → Array Value → State → Outcome → State → Prop} (hpost : ∀ tb e args s v u, (limb_1_1.after args s (.returned v) u = true ∧ limb_1_2.after args s (.returned v) u = true ∧ True) → FrameEnd s (.returned v) u (Jvm.fieldLocs frame_1_writes args s ++ Jvm.arrayLocs frame_1_arrays args s ++ Jvm.staticLocs frame_1_statics s) 16 128 → Post tb e args s (.returned v) u) :
    ArmFor flags0 classFile x code maxLocals ret World_1 tables_1 room_1 Calls_1 rest_1 Pre_1 Post := by
  intro l hfl _ _ p e ha hc hk s m args below hf hA hF happ hP
  obtain ⟨hcalls, hrest, hpre⟩ := hP
  obtain ⟨-, -, -, hnamed, -, -, -, hat⟩ := (Spec.applies_iff hf).mp happ
  obtain ⟨hg, hn⟩ := and_e (Cond.before_iff.mp (show (Jvm.Cond.and given_1 narrow_1).before args s = true from hpre))
  obtain ⟨g1, g2⟩ := and_e hg
  obtain ⟨g3, g4⟩ := and_e g2
  obtain ⟨g5, g6⟩ := and_e g4
  obtain ⟨g7, g8⟩ := and_e g6
  obtain ⟨g9, g10⟩ := and_e g8
  obtain ⟨g11, g12⟩ := and_e g10
  obtain ⟨w0, w1, w2, w3, w4, w5, rfl⟩ : ∃ w0 w1 w2 w3 w4 w5 : Value, args = #[w0, w1, w2, w3, w4, w5] := by
    have hs : args.size = 6 := by simpa [Cond.value, given_1] using g1
    obtain ⟨L⟩ := args
    match L, hs with
    | [w0, w1, w2, w3, w4, w5], _ => exact ⟨w0, w1, w2, w3, w4, w5, rfl⟩
  have hw := fun d (hd : d ∈ tables_1) => atoms_spec (ws := Jvm.Cond.code x code maxLocals ret :: tables_1) hat d (List.mem_cons_of_mem _ hd)
  have hfit : Fit s := fun {y c} hc i hi => by
    obtain ⟨ha, rfl⟩ := Array.getElem?_eq_some_iff.mp hc
    have q := List.all_eq_true.mp ((Array.all_eq_true_iff_forall_mem.mp hF) _ (Array.getElem_mem ha)) i (List.mem_range.mpr hi)
    simpa [Array.getElem?_eq_getElem hi] using q
  obtain ⟨i0, ei0⟩ := is_v g3
  obtain rfl : w0 = (.int i0) := Option.some.inj ei0
  obtain ⟨i1, ei1⟩ := is_v g5
  obtain rfl : w1 = (.int i1) := Option.some.inj ei1
  obtain ⟨i2, ei2⟩ := is_v g7
  obtain rfl : w2 = (.int i2) := Option.some.inj ei2
  obtain ⟨i3, ei3⟩ := is_v g9
  obtain rfl : w3 = (.int i3) := Option.some.inj ei3
  obtain ⟨i4, ei4⟩ := is_v g11
  obtain rfl : w4 = (.int i4) := Option.some.inj ei4
  obtain ⟨i5, ei5⟩ := is_v g12
  obtain rfl : w5 = (.int i5) := Option.some.inj ei5
  obtain ⟨n, o, h1, h2, h3, _, L, rfl, ⟨rfl, N⟩, hq⟩ := rm0 l s _ hw tables_1 i0 i1 i2 i3 i4 i5 s.heap s.heap.size (Nat.le_refl _) (own_law i0 i1 i2 i3 i4 i5) p e ha hc hk s m _ below hf ((Spec.applies_iff_loose hf).mp happ).1 ⟨rfl, State.Warmed39.refl s, rfl⟩ trivial
  refine ⟨n, _, h1, h2, h3, hpost _ _ _ _ _ _ ⟨Cond.after_iff.mpr rfl, Cond.after_iff.mpr (eq_i res_at (Term.int_eval (1)) rfl), trivial⟩ ⟨hq.1, hq.2.1, (hq.2.2.sift fun y hy => Or.inr (N y hy)).mono (by decide) (by decide)⟩⟩
theorem main_1_1 : Claimed_1_1 := comes_1 fun _ _ _ _ _ _ h hF => ⟨h.1, hF⟩
theorem main_1_2 : Claimed_1_2 := comes_1 fun _ _ _ _ _ _ h hF => ⟨h.2.1, hF⟩
end Jvm.Pilot.@@N@@
namespace Jvm.Pilot.@@N@@
open Jvm Jvm.ClassFile Sem Op Lib Jvm.Free Jvm.Stand Jvm.Pilot.@@N@@.Jvm.D
/-! MADE BY PROGRAM (witnessworld.py) out of the Statement's table words and the real class files: 12 classes; the members and pool entries that the words name. The judged class is class 1, her method 1. -/
namespace start1
open Jvm.ClassFile
def u (s : String) : CpInfo := .utf8 (stringToUtf16 s)
/-- a pool by its gaps: so many unusable entries, then the entry; so many at the end -/
def gap : Nat → List CpInfo → List CpInfo
  | 0, r => r
  | n + 1, r => .unusable :: gap n r
def poolList (es : List (Nat × CpInfo)) (last : Nat) : List CpInfo := es.foldr (fun e r => gap e.1 (e.2 :: r)) (gap last [])
def pool (es : List (Nat × CpInfo)) (last : Nat) : Array CpInfo := ⟨poolList es last⟩
def fileOf (pool : Array CpInfo) (this : Nat) (attrs : Array Attribute := #[]) (ms : Array MethodInfo := #[]) (fl : Nat := 33) (sup : Nat := 0) (ifs : Array Nat := #[]) (fds : Array FieldInfo := #[]) : ClassFile where
  minorVersion := 0
  majorVersion := 65
  constantPool := pool
  accessFlags := fl
  thisClass := this
  superClass := sup
  interfaces := ifs
  fields := fds
  methods := ms
  attributes := attrs
def plain (name : String) (sup : Option ClassId) : Class where
  name := name
  kind := .ordinary
  loader := none
  accessFlags := 33
  super := sup
  interfaces := #[]
  cf := none
  fields := #[]
  methods := #[]
  instanceTypes := #[]
  staticTypes := #[]
  resolved := #[]
  callSites := []
  init := .initialized
  statics := none
  mirror := none

def pool0 : Array CpInfo := pool [(5, u "<init>"), (0, u "()V"), (1, .class_ 10), (1, u "java/lang/Object")] 113

def k0c0 : Code := { maxStack := 0, maxLocals := 1, code := object_method_1_code, exceptionTable := #[], attributes := #[] }
def k0m0 : Method := { name := "<init>", desc := "()V", sig := { parameters := [], returnType := none }, accessFlags := 1, code := some k0c0 }
/-- java/lang/Object -/
def k0 : Class := { plain "java/lang/Object" none with
  accessFlags := 33
  interfaces := #[]
  cf := some (fileOf pool0 8 #[] #[{ accessFlags := 1, nameIndex := 5, descriptorIndex := 6, attributes := #[] }] 33 0 #[] #[])
  fields := #[]
  methods := #[k0m0]
  instanceTypes := #[]
  staticTypes := #[]
  resolved := Array.replicate 124 none
  statics := none }

def pool1 : Array CpInfo := pool [(2, .class_ 4), (1, u "java/lang/Object"), (0, u "<init>"), (0, u "()V"), (0, .integer 2147483647), (0, .methodref 9 10), (0, .class_ 11), (0, .nameAndType 12 13), (0, u "java/lang/Math"), (0, u "min"), (0, u "(II)I"), (0, .methodref 9 15), (0, .nameAndType 16 13), (0, u "max"), (0, .class_ 18), (0, u "com/example/adjacent_moments/adjacentmoments/store/CellRun"), (0, .methodref 17 20), (0, .nameAndType 5 21), (0, u "(II)V"), (0, .class_ 23), (0, u "com/example/adjacent_moments/adjacentmoments/store/KeyRanges$Range"), (0, .methodref 22 25), (0, .nameAndType 5 26), (0, u "(ILcom/example/adjacent_moments/adjacentmoments/store/CellRun;)V"), (0, .methodref 22 28), (0, .nameAndType 29 30), (0, u "holds"), (0, u "(II)Z"), (0, .class_ 32), (0, u "com/example/adjacent_moments/adjacentmoments/store/RangeHoldsPinLaw"), (2, u "law"), (0, u "(IIIIII)Z")] 7

def k1m0 : Method := { name := "<init>", desc := "()V", sig := { parameters := [], returnType := none }, accessFlags := 2, code := none }
def k1c1 : Code := { maxStack := 4, maxLocals := 20, code := code, exceptionTable := #[], attributes := #[] }
def k1m1 : Method := { name := "law", desc := "(IIIIII)Z", sig := { parameters := [.int, .int, .int, .int, .int, .int], returnType := some .boolean }, accessFlags := 9, code := some k1c1 }
/-- com/example/adjacent_moments/adjacentmoments/store/RangeHoldsPinLaw -/
def k1 : Class := { plain "com/example/adjacent_moments/adjacentmoments/store/RangeHoldsPinLaw" (some 0) with
  accessFlags := 49
  interfaces := #[]
  cf := some (fileOf pool1 31 #[] #[{ accessFlags := 2, nameIndex := 5, descriptorIndex := 6, attributes := #[] }, { accessFlags := 9, nameIndex := 35, descriptorIndex := 36, attributes := #[] }] 49 2 #[] #[])
  fields := #[]
  methods := #[k1m0, k1m1]
  instanceTypes := #[]
  staticTypes := #[]
  resolved := Array.replicate 44 none
  statics := none }

def pool2 : Array CpInfo := pool [(1, .class_ 2), (0, u "java/lang/Math"), (1, .class_ 6), (1, u "java/lang/Object"), (0, u "<init>"), (0, u "()V"), (89, .class_ 100), (1, u "java/lang/Math$RandomNumberGeneratorHolder"), (71, u "negativeZeroFloatBits"), (0, u "J"), (2, u "negativeZeroDoubleBits"), (21, u "max"), (2, u "min"), (43, u "$assertionsDisabled"), (0, u "Z"), (88, u "(II)I"), (2, u "twoToTheDoubleScaleDown"), (0, u "D"), (4, u "twoToTheDoubleScaleUp"), (9, u "E"), (3, u "PI"), (2, u "TAU"), (2, u "DEGREES_TO_RADIANS"), (0, u "RADIANS_TO_DEGREES")] 94

def k2m0 : Method := { name := "<init>", desc := "()V", sig := { parameters := [], returnType := none }, accessFlags := 2, code := none }
def k2c1 : Code := { maxStack := 2, maxLocals := 2, code := jdk_29_method_65_code, exceptionTable := #[], attributes := #[] }
def k2m1 : Method := { name := "max", desc := "(II)I", sig := { parameters := [.int, .int], returnType := some .int }, accessFlags := 9, code := some k2c1 }
def k2c2 : Code := { maxStack := 2, maxLocals := 2, code := jdk_29_method_69_code, exceptionTable := #[], attributes := #[] }
def k2m2 : Method := { name := "min", desc := "(II)I", sig := { parameters := [.int, .int], returnType := some .int }, accessFlags := 9, code := some k2c2 }
/-- java/lang/Math -/
def k2 : Class := { plain "java/lang/Math" (some 0) with
  accessFlags := 49
  interfaces := #[]
  cf := some (fileOf pool2 1 #[.nestMembers #[98]] #[{ accessFlags := 2, nameIndex := 7, descriptorIndex := 8, attributes := #[] }, { accessFlags := 9, nameIndex := 198, descriptorIndex := 335, attributes := #[] }, { accessFlags := 9, nameIndex := 201, descriptorIndex := 335, attributes := #[] }] 49 4 #[] #[{ accessFlags := 25, nameIndex := 354, descriptorIndex := 339, attributes := #[] }, { accessFlags := 25, nameIndex := 358, descriptorIndex := 339, attributes := #[] }, { accessFlags := 25, nameIndex := 361, descriptorIndex := 339, attributes := #[] }, { accessFlags := 26, nameIndex := 364, descriptorIndex := 339, attributes := #[] }, { accessFlags := 26, nameIndex := 365, descriptorIndex := 339, attributes := #[] }, { accessFlags := 26, nameIndex := 172, descriptorIndex := 173, attributes := #[] }, { accessFlags := 26, nameIndex := 176, descriptorIndex := 173, attributes := #[] }, { accessFlags := 8, nameIndex := 344, descriptorIndex := 339, attributes := #[] }, { accessFlags := 8, nameIndex := 338, descriptorIndex := 339, attributes := #[] }, { accessFlags := 4120, nameIndex := 245, descriptorIndex := 246, attributes := #[] }])
  fields := #[{ name := "E", type := .double, accessFlags := 25, slot := 0, constantValue := 0 }, { name := "PI", type := .double, accessFlags := 25, slot := 1, constantValue := 0 }, { name := "TAU", type := .double, accessFlags := 25, slot := 2, constantValue := 0 }, { name := "DEGREES_TO_RADIANS", type := .double, accessFlags := 26, slot := 3, constantValue := 0 }, { name := "RADIANS_TO_DEGREES", type := .double, accessFlags := 26, slot := 4, constantValue := 0 }, { name := "negativeZeroFloatBits", type := .long, accessFlags := 26, slot := 5, constantValue := 0 }, { name := "negativeZeroDoubleBits", type := .long, accessFlags := 26, slot := 6, constantValue := 0 }, { name := "twoToTheDoubleScaleUp", type := .double, accessFlags := 8, slot := 7, constantValue := 0 }, { name := "twoToTheDoubleScaleDown", type := .double, accessFlags := 8, slot := 8, constantValue := 0 }, { name := "$assertionsDisabled", type := .boolean, accessFlags := 4120, slot := 9, constantValue := 0 }]
  methods := #[k2m0, k2m1, k2m2]
  instanceTypes := #[]
  staticTypes := #[.double, .double, .double, .double, .double, .long, .long, .double, .double, .boolean]
  resolved := Array.replicate 460 none
  statics := none }

def pool3 : Array CpInfo := pool [(1, .methodref 2 3), (0, .class_ 4), (0, .nameAndType 5 6), (0, u "java/lang/Object"), (0, u "<init>"), (0, u "()V"), (0, .class_ 8), (0, u "java/lang/Record")] 13

def k3c0 : Code := { maxStack := 1, maxLocals := 1, code := jdk_30_method_1_code, exceptionTable := #[], attributes := #[] }
def k3m0 : Method := { name := "<init>", desc := "()V", sig := { parameters := [], returnType := none }, accessFlags := 4, code := some k3c0 }
/-- java/lang/Record -/
def k3 : Class := { plain "java/lang/Record" (some 0) with
  accessFlags := 1057
  interfaces := #[]
  cf := some (fileOf pool3 7 #[] #[{ accessFlags := 4, nameIndex := 5, descriptorIndex := 6, attributes := #[] }] 1057 2 #[] #[])
  fields := #[]
  methods := #[k3m0]
  instanceTypes := #[]
  staticTypes := #[]
  resolved := Array.replicate 22 none
  statics := none }

def pool4 : Array CpInfo := pool [(1, .methodref 2 3), (0, .class_ 4), (0, .nameAndType 5 6), (0, u "java/lang/Record"), (0, u "<init>"), (0, u "()V"), (9, .fieldref 17 18), (0, .class_ 19), (0, .nameAndType 20 21), (0, u "com/example/adjacent_moments/adjacentmoments/store/CellRun"), (0, u "lo"), (0, u "I"), (0, .fieldref 17 23), (0, .nameAndType 24 21), (0, u "hi"), (22, u "()I"), (10, u "(II)V")] 54

def k4c0 : Code := { maxStack := 4, maxLocals := 3, code := prog_13_method_1_code, exceptionTable := #[], attributes := #[] }
def k4m0 : Method := { name := "<init>", desc := "(II)V", sig := { parameters := [.int, .int], returnType := none }, accessFlags := 1, code := some k4c0 }
def k4c1 : Code := { maxStack := 1, maxLocals := 1, code := prog_13_method_6_code, exceptionTable := #[], attributes := #[] }
def k4m1 : Method := { name := "lo", desc := "()I", sig := { parameters := [], returnType := some .int }, accessFlags := 1, code := some k4c1 }
def k4c2 : Code := { maxStack := 1, maxLocals := 1, code := prog_13_method_7_code, exceptionTable := #[], attributes := #[] }
def k4m2 : Method := { name := "hi", desc := "()I", sig := { parameters := [], returnType := some .int }, accessFlags := 1, code := some k4c2 }
/-- com/example/adjacent_moments/adjacentmoments/store/CellRun -/
def k4 : Class := { plain "com/example/adjacent_moments/adjacentmoments/store/CellRun" (some 3) with
  accessFlags := 49
  interfaces := #[]
  cf := some (fileOf pool4 17 #[] #[{ accessFlags := 1, nameIndex := 5, descriptorIndex := 58, attributes := #[] }, { accessFlags := 1, nameIndex := 20, descriptorIndex := 47, attributes := #[] }, { accessFlags := 1, nameIndex := 24, descriptorIndex := 47, attributes := #[] }] 49 2 #[] #[{ accessFlags := 18, nameIndex := 20, descriptorIndex := 21, attributes := #[] }, { accessFlags := 18, nameIndex := 24, descriptorIndex := 21, attributes := #[] }])
  fields := #[{ name := "lo", type := .int, accessFlags := 18, slot := 0, constantValue := 0 }, { name := "hi", type := .int, accessFlags := 18, slot := 1, constantValue := 0 }]
  methods := #[k4m0, k4m1, k4m2]
  instanceTypes := #[.int, .int]
  staticTypes := #[]
  resolved := Array.replicate 113 none
  statics := none }

def pool5 : Array CpInfo := pool [(1, .methodref 2 3), (0, .class_ 4), (0, .nameAndType 5 6), (0, u "java/lang/Record"), (0, u "<init>"), (0, u "()V"), (0, .fieldref 8 9), (0, .class_ 10), (0, .nameAndType 11 12), (0, u "com/example/adjacent_moments/adjacentmoments/store/KeyRanges$Range"), (0, u "bin"), (0, u "I"), (0, .fieldref 8 14), (0, .nameAndType 15 16), (0, u "cells"), (0, u "Lcom/example/adjacent_moments/adjacentmoments/store/CellRun;"), (0, .methodref 18 19), (0, .class_ 20), (0, .nameAndType 21 22), (0, u "com/example/adjacent_moments/adjacentmoments/store/CellRun"), (0, u "lo"), (0, u "()I"), (0, .methodref 18 24), (0, .nameAndType 25 22), (0, u "hi"), (12, u "(ILcom/example/adjacent_moments/adjacentmoments/store/CellRun;)V"), (3, u "holds"), (0, u "(II)Z"), (7, .class_ 52), (0, u "com/example/adjacent_moments/adjacentmoments/store/KeyRanges")] 20

def k5c0 : Code := { maxStack := 2, maxLocals := 3, code := prog_24_method_1_code, exceptionTable := #[], attributes := #[] }
def k5m0 : Method := { name := "<init>", desc := "(ILcom/example/adjacent_moments/adjacentmoments/store/CellRun;)V", sig := { parameters := [.int, (.object "com/example/adjacent_moments/adjacentmoments/store/CellRun")], returnType := none }, accessFlags := 1, code := some k5c0 }
def k5c1 : Code := { maxStack := 2, maxLocals := 3, code := prog_24_method_2_code, exceptionTable := #[], attributes := #[] }
def k5m1 : Method := { name := "holds", desc := "(II)Z", sig := { parameters := [.int, .int], returnType := some .boolean }, accessFlags := 0, code := some k5c1 }
/-- com/example/adjacent_moments/adjacentmoments/store/KeyRanges$Range -/
def k5 : Class := { plain "com/example/adjacent_moments/adjacentmoments/store/KeyRanges$Range" (some 3) with
  accessFlags := 49
  interfaces := #[]
  cf := some (fileOf pool5 8 #[.nestHost 51] #[{ accessFlags := 1, nameIndex := 5, descriptorIndex := 38, attributes := #[] }, { accessFlags := 0, nameIndex := 42, descriptorIndex := 43, attributes := #[] }] 49 2 #[] #[{ accessFlags := 18, nameIndex := 11, descriptorIndex := 12, attributes := #[] }, { accessFlags := 18, nameIndex := 15, descriptorIndex := 16, attributes := #[] }])
  fields := #[{ name := "bin", type := .int, accessFlags := 18, slot := 0, constantValue := 0 }, { name := "cells", type := (.object "com/example/adjacent_moments/adjacentmoments/store/CellRun"), accessFlags := 18, slot := 1, constantValue := 0 }]
  methods := #[k5m0, k5m1]
  instanceTypes := #[.int, (.object "com/example/adjacent_moments/adjacentmoments/store/CellRun")]
  staticTypes := #[]
  resolved := Array.replicate 73 none
  statics := none }

def pool6 : Array CpInfo := pool [(1, u "java/lang/Cloneable"), (0, .class_ 1), (0, u "java/lang/Object"), (0, .class_ 3)] 3

/-- java/lang/Cloneable -/
def k6 : Class := { plain "java/lang/Cloneable" (some 0) with
  accessFlags := 1537
  interfaces := #[]
  cf := some (fileOf pool6 2 #[] #[] 1537 4 #[] #[])
  fields := #[]
  methods := #[]
  instanceTypes := #[]
  staticTypes := #[]
  resolved := Array.replicate 8 none
  statics := none }

def pool7 : Array CpInfo := pool [(1, u "java/io/Serializable"), (0, .class_ 1), (0, u "java/lang/Object"), (0, .class_ 3)] 3

/-- java/io/Serializable -/
def k7 : Class := { plain "java/io/Serializable" (some 0) with
  accessFlags := 1537
  interfaces := #[]
  cf := some (fileOf pool7 2 #[] #[] 1537 4 #[] #[])
  fields := #[]
  methods := #[]
  instanceTypes := #[]
  staticTypes := #[]
  resolved := Array.replicate 8 none
  statics := none }

/-- the primitive byte -/
def k8 : Class := { plain "byte" none with kind := .primitive 'B', accessFlags := 0x411 }
/-- [B -/
def k9 : Class := { plain "[B" (some 0) with kind := .array 8 .byte, interfaces := #[6, 7], accessFlags := 1041 }

/-- the primitive int -/
def k10 : Class := { plain "int" none with kind := .primitive 'I', accessFlags := 0x411 }
/-- [I -/
def k11 : Class := { plain "[I" (some 0) with kind := .array 10 .int, interfaces := #[6, 7], accessFlags := 1041 }

def heap : Heap := #[]
def classes : Array Class := #[k0, k1, k2, k3, k4, k5, k6, k7, k8, k9, k10, k11]
def interned : List (Array UInt16 × Addr) := []
def slotsUsed : Nat := 0
def theMethod : MethodId := ⟨1, 1⟩
def args0 : Array Value := #[.int 1, .int 5, .int 9, .int 1, .int 6, .int 0]
def aboutOver (below : List Frame) : State where
  vm := { classes := classes, interned := interned.toArray }
  heap := heap
  slotsUsed := slotsUsed
  threads := #[{ frames := .invoking theMethod args0 :: below }]
def below0 : List Frame := [.native { method := ⟨0, 0⟩, args := #[] }]
def about1 : State := aboutOver below0
def p0 : Program := .bare "" "" ""
def e0 : Env := launch0.env 0 0 0
theorem w_frames : about1.frames = Frame.invoking theMethod args0 :: below0 := rfl
set_option maxRecDepth 65536 in
theorem w_args : argsFit about1.vm theMethod args0 = true := by decide +kernel
set_option maxRecDepth 65536 in
theorem w_heap : heapFits about1 = true := by decide +kernel
set_option maxRecDepth 65536 in
theorem w_runnable : about1.curStatus? = some .runnable := by decide +kernel
set_option maxRecDepth 65536 in
theorem w_alone : about1.alone = true := by decide +kernel
set_option maxRecDepth 65536 in
theorem w_named : about1.methodNamed? x = some theMethod := by decide +kernel
set_option maxRecDepth 65536 in
theorem w_hears : about1.hears theMethod below0 = true := by decide +kernel
set_option maxRecDepth 65536 in
theorem w_ripe : about1.ripe theMethod args0 below0 = true := by decide +kernel
theorem w_running : about1.status = .running := rfl
set_option maxRecDepth 65536 in
theorem w_room : about1.hasRoom e0.platform room_1 = true :=
  launch0.hasRoom_least _ room_1 (by decide +kernel) (by decide +kernel) (by decide +kernel) (by decide +kernel) (by decide +kernel) (by decide +kernel)
theorem allAtoms_all (ts : List Jvm.Cond) (a : Array Jvm.Value) (st : Jvm.State) : (allAtoms ts).before a st = ts.all (fun c => c.before a st) := by
  induction ts with
  | nil => rfl
  | cons c t ih =>
    show (Jvm.Cond.and c (allAtoms t)).before a st = _
    rw [Jvm.Cond.before_and, ih, List.all_cons]
def words1 : List Jvm.Cond := Jvm.Cond.code x code maxLocals ret :: tables_1
/-- a 'code' word, met by the world's own term for the bytes: nothing is compared byte by byte -/
theorem code_word {y : MethodName} {bytes : ByteArray} {mx : Nat} {rt : Option FieldType} {a : Array Value} {s : State} {m : MethodId} {meth : Method} {c : Code} (h1 : s.methodNamed? y = some m) (h2 : s.vm.method? m = some meth) (h3 : meth.code = some c) (h4 : c.code = bytes)
    (h5 : (c.maxLocals == mx && c.exceptionTable.isEmpty && decide (c.maxStack ≤ mostOperands) && decide (meth.sig.returnType = rt) && !meth.locks && decide (parseMethodDescriptor y.desc = some meth.sig)) = true) : (Jvm.Cond.code y bytes mx rt).before a s = true := by
  simp only [Bool.and_eq_true, beq_iff_eq, Bool.not_eq_true', decide_eq_true_eq] at h5
  obtain ⟨⟨⟨⟨⟨g1, g2⟩, g3⟩, g4⟩, g5⟩, g6⟩ := h5
  simp [Cond.before, Cond.holds, Cond.value, h1, h2, h3, h4, g1, g2, g3, g4, g5, g6]
def isCode : Jvm.Cond → Bool
  | .code _ _ _ _ => true
  | _ => false
theorem all_split {L : List Jvm.Cond} {P : Jvm.Cond → Bool} (h1 : L.all (fun c => isCode c || P c) = true) (h2 : ∀ c ∈ L.filter isCode, P c = true) : L.all P = true := by
  refine List.all_eq_true.mpr fun c hc => ?_
  have h := List.all_eq_true.mp h1 c hc
  rcases Bool.eq_false_or_eq_true (isCode c) with hi | hi
  · exact h2 c (List.mem_filter.mpr ⟨hc, hi⟩)
  · simpa [hi] using h
set_option maxRecDepth 65536 in
theorem w_c0 : (Jvm.Cond.code x code maxLocals ret).before args0 about1 = true := code_word (m := ⟨1, 1⟩) (meth := k1m1) (c := k1c1) (by decide +kernel) rfl rfl rfl (by decide +kernel)
set_option maxRecDepth 65536 in
theorem w_c1 : (Jvm.Cond.code ({ cls := "java/lang/Math", name := "min", desc := "(II)I" } : Jvm.MethodName) jdk_29_method_69_code (2 : Nat) (Option.some Jvm.ClassFile.FieldType.int)).before args0 about1 = true := code_word (m := ⟨2, 2⟩) (meth := k2m2) (c := k2c2) (by decide +kernel) rfl rfl rfl (by decide +kernel)
set_option maxRecDepth 65536 in
theorem w_c2 : (Jvm.Cond.code ({ cls := "java/lang/Math", name := "max", desc := "(II)I" } : Jvm.MethodName) jdk_29_method_65_code (2 : Nat) (Option.some Jvm.ClassFile.FieldType.int)).before args0 about1 = true := code_word (m := ⟨2, 1⟩) (meth := k2m1) (c := k2c1) (by decide +kernel) rfl rfl rfl (by decide +kernel)
set_option maxRecDepth 65536 in
theorem w_c3 : (Jvm.Cond.code ({ cls := "com/example/adjacent_moments/adjacentmoments/store/CellRun", name := "<init>", desc := "(II)V" } : Jvm.MethodName) prog_13_method_1_code (3 : Nat) (Option.none : Option Jvm.ClassFile.FieldType)).before args0 about1 = true := code_word (m := ⟨4, 0⟩) (meth := k4m0) (c := k4c0) (by decide +kernel) rfl rfl rfl (by decide +kernel)
set_option maxRecDepth 65536 in
theorem w_c4 : (Jvm.Cond.code ({ cls := "java/lang/Record", name := "<init>", desc := "()V" } : Jvm.MethodName) jdk_30_method_1_code (1 : Nat) (Option.none : Option Jvm.ClassFile.FieldType)).before args0 about1 = true := code_word (m := ⟨3, 0⟩) (meth := k3m0) (c := k3c0) (by decide +kernel) rfl rfl rfl (by decide +kernel)
set_option maxRecDepth 65536 in
theorem w_c5 : (Jvm.Cond.code ({ cls := "java/lang/Object", name := "<init>", desc := "()V" } : Jvm.MethodName) object_method_1_code (1 : Nat) (Option.none : Option Jvm.ClassFile.FieldType)).before args0 about1 = true := code_word (m := ⟨0, 0⟩) (meth := k0m0) (c := k0c0) (by decide +kernel) rfl rfl rfl (by decide +kernel)
set_option maxRecDepth 65536 in
theorem w_c6 : (Jvm.Cond.code ({ cls := "com/example/adjacent_moments/adjacentmoments/store/KeyRanges$Range", name := "<init>", desc := "(ILcom/example/adjacent_moments/adjacentmoments/store/CellRun;)V" } : Jvm.MethodName) prog_24_method_1_code (3 : Nat) (Option.none : Option Jvm.ClassFile.FieldType)).before args0 about1 = true := code_word (m := ⟨5, 0⟩) (meth := k5m0) (c := k5c0) (by decide +kernel) rfl rfl rfl (by decide +kernel)
set_option maxRecDepth 65536 in
theorem w_c7 : (Jvm.Cond.code ({ cls := "com/example/adjacent_moments/adjacentmoments/store/KeyRanges$Range", name := "holds", desc := "(II)Z" } : Jvm.MethodName) prog_24_method_2_code (3 : Nat) (Option.some Jvm.ClassFile.FieldType.boolean)).before args0 about1 = true := code_word (m := ⟨5, 1⟩) (meth := k5m1) (c := k5c1) (by decide +kernel) rfl rfl rfl (by decide +kernel)
set_option maxRecDepth 65536 in
theorem w_c8 : (Jvm.Cond.code ({ cls := "com/example/adjacent_moments/adjacentmoments/store/CellRun", name := "lo", desc := "()I" } : Jvm.MethodName) prog_13_method_6_code (1 : Nat) (Option.some Jvm.ClassFile.FieldType.int)).before args0 about1 = true := code_word (m := ⟨4, 1⟩) (meth := k4m1) (c := k4c1) (by decide +kernel) rfl rfl rfl (by decide +kernel)
set_option maxRecDepth 65536 in
theorem w_c9 : (Jvm.Cond.code ({ cls := "com/example/adjacent_moments/adjacentmoments/store/CellRun", name := "hi", desc := "()I" } : Jvm.MethodName) prog_13_method_7_code (1 : Nat) (Option.some Jvm.ClassFile.FieldType.int)).before args0 about1 = true := code_word (m := ⟨4, 2⟩) (meth := k4m2) (c := k4c2) (by decide +kernel) rfl rfl rfl (by decide +kernel)
def codes1 : List Jvm.Cond := [Jvm.Cond.code x code maxLocals ret, Jvm.Cond.code ({ cls := "java/lang/Math", name := "min", desc := "(II)I" } : Jvm.MethodName) jdk_29_method_69_code (2 : Nat) (Option.some Jvm.ClassFile.FieldType.int), Jvm.Cond.code ({ cls := "java/lang/Math", name := "max", desc := "(II)I" } : Jvm.MethodName) jdk_29_method_65_code (2 : Nat) (Option.some Jvm.ClassFile.FieldType.int), Jvm.Cond.code ({ cls := "com/example/adjacent_moments/adjacentmoments/store/CellRun", name := "<init>", desc := "(II)V" } : Jvm.MethodName) prog_13_method_1_code (3 : Nat) (Option.none : Option Jvm.ClassFile.FieldType), Jvm.Cond.code ({ cls := "java/lang/Record", name := "<init>", desc := "()V" } : Jvm.MethodName) jdk_30_method_1_code (1 : Nat) (Option.none : Option Jvm.ClassFile.FieldType), Jvm.Cond.code ({ cls := "java/lang/Object", name := "<init>", desc := "()V" } : Jvm.MethodName) object_method_1_code (1 : Nat) (Option.none : Option Jvm.ClassFile.FieldType), Jvm.Cond.code ({ cls := "com/example/adjacent_moments/adjacentmoments/store/KeyRanges$Range", name := "<init>", desc := "(ILcom/example/adjacent_moments/adjacentmoments/store/CellRun;)V" } : Jvm.MethodName) prog_24_method_1_code (3 : Nat) (Option.none : Option Jvm.ClassFile.FieldType), Jvm.Cond.code ({ cls := "com/example/adjacent_moments/adjacentmoments/store/KeyRanges$Range", name := "holds", desc := "(II)Z" } : Jvm.MethodName) prog_24_method_2_code (3 : Nat) (Option.some Jvm.ClassFile.FieldType.boolean), Jvm.Cond.code ({ cls := "com/example/adjacent_moments/adjacentmoments/store/CellRun", name := "lo", desc := "()I" } : Jvm.MethodName) prog_13_method_6_code (1 : Nat) (Option.some Jvm.ClassFile.FieldType.int), Jvm.Cond.code ({ cls := "com/example/adjacent_moments/adjacentmoments/store/CellRun", name := "hi", desc := "()I" } : Jvm.MethodName) prog_13_method_7_code (1 : Nat) (Option.some Jvm.ClassFile.FieldType.int)]
set_option maxRecDepth 65536 in
theorem codes_eq : words1.filter isCode = codes1 := rfl
theorem w_codes : ∀ c ∈ words1.filter isCode, c.before args0 about1 = true := by
  rw [codes_eq]
  intro c hc
  simp only [codes1, List.mem_cons, List.not_mem_nil, or_false] at hc
  rcases hc with rfl | rfl | rfl | rfl | rfl | rfl | rfl | rfl | rfl | rfl
  · exact w_c0
  · exact w_c1
  · exact w_c2
  · exact w_c3
  · exact w_c4
  · exact w_c5
  · exact w_c6
  · exact w_c7
  · exact w_c8
  · exact w_c9
set_option maxRecDepth 65536 in
theorem w_t1 : (words1.take 24).all (fun c => isCode c || c.before args0 about1) = true := by decide +kernel
set_option maxRecDepth 65536 in
theorem w_t2 : ((words1.drop 24).take 24).all (fun c => isCode c || c.before args0 about1) = true := by decide +kernel
set_option maxRecDepth 65536 in
theorem w_t3 : ((words1.drop 24).drop 24).all (fun c => isCode c || c.before args0 about1) = true := by decide +kernel
theorem w_tables : (allAtoms (Jvm.Cond.code x code maxLocals ret :: tables_1)).before args0 about1 = true := by
  rw [allAtoms_all]
  show words1.all (fun c => c.before args0 about1) = true
  refine all_split ?_ w_codes
  rw [← List.take_append_drop 24 words1, List.all_append, w_t1, ← List.take_append_drop 24 (words1.drop 24), List.all_append, w_t2, w_t3]
  rfl
set_option maxRecDepth 65536 in
theorem w_case : (Jvm.Cond.and given_1 narrow_1).before args0 about1 = true := by decide +kernel
theorem w_applies : (headSpec (Jvm.Cond.code x code maxLocals ret :: tables_1) room_1).applies x e0.platform about1 = true :=
  (Spec.applies_iff w_frames).mpr ⟨w_running, w_runnable, w_alone, w_named, w_hears, w_ripe, w_room, w_tables⟩
theorem atStart : AtStart classFile x code maxLocals ret World_1 tables_1 room_1 Calls_1 rest_1 Pre_1 launch0 p0 e0 about1 theMethod args0 below0 :=
  ⟨lists_1, trivial, launch0.admits_env _ _ _, launch0.least_env, fairChoices_fair.cas, fairChoices_fair.clock, w_frames, w_args, w_heap, w_applies, trivial, trivial, w_case⟩
end start1
theorem witness_1 : WitnessClaimed_1 := ⟨start1.p0, start1.e0, start1.about1, start1.theMethod, start1.args0, start1.below0, start1.atStart⟩
end Jvm.Pilot.@@N@@
