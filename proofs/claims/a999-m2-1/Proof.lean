import JvmDerived
import JvmDerived.Pilot.@@N@@Statement
import JvmDerived.Pilot.@@N@@Code
set_option linter.unusedVariables false
set_option linter.unusedSimpArgs false
namespace Jvm.RoadKit
open Sem ClassFile Op Lib Jvm.Stand Jvm.Free Jvm.LawKit
section New
variable {p : Program} {l : Launch} {e : Env} {R : Room} {s : State} {m : MethodId} {args : Array Value} {below : List Frame} {meth : Method} {c : Code} {T : State} {locs : List Loc} {cells slots : Nat}
theorem retI (X : Stand p l e R s m args below meth c T locs cells slots) (hx : p.tables.exec = Jvm.exec) {pc : Nat} {Ls : Array Slot} {z : Int32} {rest : List Value} (hret : meth.sig.returnType = some .int) (hd : decode c.code pc = .ok (.ireturn, 1)) {fs : List Frame}
    (hl : ∀ (f : JFrame) (acts : List Action), f.method = m → f.locked = none → f.entered = [] → (doReturn e (T.setTop f) acts (some (.int z))).1 = T.setFrames fs) : Steps p.tables e below (T.setTop (mkF m pc Ls (.int z :: rest))) (T.setFrames fs) := by
  have hm' : T.vm.method? m = some meth := X.method'
  have hn : narrow .int (.int z) = .int z := rfl
  show Steps p.tables e below (T.setTop { method := m, pc := pc, locals := Ls, stack := _ :: rest, locked := none }) _
  jvm_step X.here [X.here.top, hx, hd, hm', hret, hn]
  first | (intro acts; rw [hl _ acts rfl rfl rfl]) | rw [hl _ _ rfl rfl rfl]
  exact Steps.refl _
end New
end Jvm.RoadKit
namespace Jvm.Pilot.@@N@@
open Jvm Jvm.ClassFile Sem Op Lib Jvm.Free Jvm.Stand Jvm.LawKit Jvm.RoadKit Bundle Jvm.Pilot.@@N@@.Jvm.D
theorem own_exa_plain {Z : State} {h : Heap} {a : Addr} {C : String} (F : Exa Z h a C) : ∀ cell : Cell, h[a]? = some cell → cell.vm.isStatics = false := fun cell hc => by
  obtain ⟨cell', k, h1, -, -, h4, -⟩ := F
  rw [hc] at h1; cases h1; exact h4
theorem own_sta_keep {Z : State} {h h' : Heap} {ws : List Addr} {C n d : String} {v : Value} (F : Sta Z h C n d v) (K : Keep h h' ws) (q : ∀ x ∈ ws, ∀ cell : Cell, h[x]? = some cell → cell.vm.isStatics = false) : Sta Z h' C n d v := by
  obtain ⟨cf, i, k, f, st, cell, h1, h2, h3, h4, h5, h6, r⟩ := F
  refine ⟨cf, i, k, f, st, cell, h1, h2, h3, h4, K.2.1 st cell h5 (fun hm => ?_), h6, r⟩
  have e := q st hm cell h5
  rw [h6] at e; cases e

theorem pn_6 : plainName "java/util/AbstractMap" = true := by first | (simp [plainName, overriddenIn]; done) | decide +kernel
theorem d4_0 : decode jdk_71_method_1_code 0 = .ok (.aload_n 0, 1) := by decide +kernel
theorem d4_1 : decode jdk_71_method_1_code 1 = .ok (.invokespecial 1, 3) := by decide +kernel
theorem ef_4 (m : MethodId) (x0 : Addr) : entryFrame m #[(.ref x0)] 1 = mkF m 0 #[.val (.ref x0)] [] := by first | (simp [entryFrame, mkF, argsToLocals, Value.category]; done) | rfl
def Q4 (Z : State) (a0 : Addr) (h0 : Heap) (n0 : Nat) (v : Option Value) (h : Heap) (L : List Loc) : Prop := v = none ∧ Fr n0 L ∧ h = h0
theorem d4_4 : decode jdk_71_method_1_code 4 = .ok (.return_, 1) := by decide +kernel
set_option maxRecDepth 65536 in
set_option maxHeartbeats 40000000 in
theorem rm4 (l : Launch) (Z : State) (aw : Array Value) (hw : ∀ d ∈ tables_1, d.before aw Z = true) (ws : List Jvm.Cond) (a0 : Addr) (h0 : Heap) (n0 : Nat) (Z0 : n0 ≤ h0.size) :
    MetFree l (⟨"java/util/AbstractMap", "<init>", "()V"⟩ : MethodName) (head1 (Jvm.Cond.code (⟨"java/util/AbstractMap", "<init>", "()V"⟩ : MethodName) jdk_71_method_1_code 1 none :: ws) ({ frames := 1, cells := 0, slots := 0, locals := 12 } : Room)) (fun a U => a = #[(.ref a0)] ∧ Z.Warmed39 U.vm ∧ U.heap = h0) (fun _ _ _ _ _ => True) (fun _ U o U' => ∃ v L, o = .returned v ∧ Q4 Z a0 h0 n0 v U'.heap L ∧ FrameEnd U o U' L ({ frames := 1, cells := 0, slots := 0, locals := 12 } : Room).cells ({ frames := 1, cells := 0, slots := 0, locals := 12 } : Room).slots) := by
  refine MetFree.of_bodySF (plainFor_of_name pn_6) hisR ?_
  intro p e s m args below meth c s₁ Bd hml0 hP hK
  obtain ⟨rfl, hZ, hh⟩ := hP
  have hx := Bd.exec
  have hby := Bd.bytes
  have hml : c.maxLocals = 1 := hml0
  have hown : s.vm.findClass "java/util/AbstractMap" = some m.cls := findClass_of_methodNamed Bd.named
  have hnm := (name_of_methodNamed Bd.named Bd.method).1
  have X0 : Stand p l e ({ frames := 1, cells := 0, slots := 0, locals := 12 } : Room) s m #[(.ref a0)] below meth c s₁ [] 0 0 := Stand.of_body Bd
  have e0 : s₁.heap = h0 := by rw [← hh, Bd.state]; rfl
  have N0 := Fr.nil n0
  have pre0 : ∀ t, Steps p.tables e below (s₁.setTop (mkF m 0 #[.val (.ref a0)] [])) t → Steps p.tables e below (s₁.setTop (entryFrame m #[(.ref a0)] 1)) t := fun t k => castTop (ef_4 m a0) k
  have pre1 : ∀ t, Steps p.tables e below (s₁.setTop (mkF m 1 #[.val (.ref a0)] [(.ref a0)])) t → Steps p.tables e below (s₁.setTop (entryFrame m #[(.ref a0)] 1)) t := fun t k => pre0 t (by
    show Steps p.tables e below (s₁.setTop (mkF m 0 #[.val (.ref a0)] [])) _
    refine XS.aloadN X0.here hx rfl (hb hby d4_0) rfl rfl ?_
    exact k)
  obtain ⟨T2, X2, e2, st2⟩ := initO X0 hx hZ hown (hw _ (List.mem_of_getElem? (i := 22) rfl)) (hw _ (List.mem_of_getElem? (i := 8) rfl)) (hw _ (List.mem_of_getElem? (i := 9) rfl)) e0 (g := (mkF m 1 #[.val (.ref a0)] [(.ref a0)])) rfl (by rw [hml]; rfl) rfl (hb hby d4_1) (by decide) (W := 0) (by show 2 * 0 + _ ≤ _; exact Nat.le_of_eq rfl) (by decide)
  obtain ⟨fs, hr, hrun, hended, hW, hsame⟩ := X2.leave (v := none) (fun _ => rfl)
  refine ⟨_, _, pre1 _ ?_, hrun, hended, _, _, rfl, ?_, ⟨_, rfl⟩, hW, hsame.mono (by decide) (by decide)⟩
  · show Steps p.tables e below (s₁.setTop (mkF m 1 #[.val (.ref a0)] [(.ref a0)])) _
    refine st2 _ ?_
    show Steps p.tables e below (T2.setTop (mkF m 4 #[.val (.ref a0)] [])) _
    exact X2.returnOut hx Bd.returns (hb hby d4_4) hr
  · show Q4 Z a0 h0 n0 _ T2.heap _
    rw [e2]
    exact ⟨rfl, N0, rfl⟩
theorem pn_8 : plainName "java/util/HashMap" = true := by first | (simp [plainName, overriddenIn]; done) | decide +kernel
theorem d3_0 : decode jdk_69_method_7_code 0 = .ok (.aload_n 0, 1) := by decide +kernel
theorem pd_0 : parseMethodDescriptor "()V" = some ⟨[], none⟩ := by decide +kernel
theorem d3_1 : decode jdk_69_method_7_code 1 = .ok (.invokespecial 43, 3) := by decide +kernel
theorem d3_4 : decode jdk_69_method_7_code 4 = .ok (.aload_n 0, 1) := by decide +kernel
theorem d3_5 : decode jdk_69_method_7_code 5 = .ok (.ldc 92, 2) := by decide +kernel
theorem d3_7 : decode jdk_69_method_7_code 7 = .ok (.putfield 81, 3) := by decide +kernel
theorem ef_3 (m : MethodId) (x0 : Addr) : entryFrame m #[(.ref x0)] 1 = mkF m 0 #[.val (.ref x0)] [] := by first | (simp [entryFrame, mkF, argsToLocals, Value.category]; done) | rfl
def Q3 (Z : State) (a0 : Addr) (u_loadFactor_a0 : Value) (h0 : Heap) (n0 : Nat) (v : Option Value) (h : Heap) (L : List Loc) : Prop := v = none ∧ Fr n0 L ∧ Keep h0 h [a0] ∧ Exa Z h a0 "java/util/HashMap"
theorem d3_10 : decode jdk_69_method_7_code 10 = .ok (.return_, 1) := by decide +kernel
set_option maxRecDepth 65536 in
set_option maxHeartbeats 40000000 in
theorem rm3 (l : Launch) (Z : State) (aw : Array Value) (hw : ∀ d ∈ tables_1, d.before aw Z = true) (ws : List Jvm.Cond) (a0 : Addr) (u_loadFactor_a0 : Value) (h0 : Heap) (n0 : Nat) (Z0 : n0 ≤ h0.size) (E_a0 : Exa Z h0 a0 "java/util/HashMap") (F_loadFactor_a0 : Fld Z h0 a0 "java/util/HashMap" "loadFactor" "F" u_loadFactor_a0) (g_a0 : n0 ≤ a0) :
    MetFree l (⟨"java/util/HashMap", "<init>", "()V"⟩ : MethodName) (head1 (Jvm.Cond.code (⟨"java/util/HashMap", "<init>", "()V"⟩ : MethodName) jdk_69_method_7_code 1 none :: ws) ({ frames := 2, cells := 0, slots := 0, locals := 24 } : Room)) (fun a U => a = #[(.ref a0)] ∧ Z.Warmed39 U.vm ∧ U.heap = h0) (fun _ _ _ _ _ => True) (fun _ U o U' => ∃ v L, o = .returned v ∧ Q3 Z a0 u_loadFactor_a0 h0 n0 v U'.heap L ∧ FrameEnd U o U' L ({ frames := 2, cells := 0, slots := 0, locals := 24 } : Room).cells ({ frames := 2, cells := 0, slots := 0, locals := 24 } : Room).slots) := by
  refine MetFree.of_bodySF (plainFor_of_name pn_8) hisR ?_
  intro p e s m args below meth c s₁ Bd hml0 hP hK
  obtain ⟨rfl, hZ, hh⟩ := hP
  have hx := Bd.exec
  have hby := Bd.bytes
  have hml : c.maxLocals = 1 := hml0
  have hown : s.vm.findClass "java/util/HashMap" = some m.cls := findClass_of_methodNamed Bd.named
  have hnm := (name_of_methodNamed Bd.named Bd.method).1
  have X0 : Stand p l e ({ frames := 2, cells := 0, slots := 0, locals := 24 } : Room) s m #[(.ref a0)] below meth c s₁ [] 0 0 := Stand.of_body Bd
  have e0 : s₁.heap = h0 := by rw [← hh, Bd.state]; rfl
  have N0 := Fr.nil n0
  have pre0 : ∀ t, Steps p.tables e below (s₁.setTop (mkF m 0 #[.val (.ref a0)] [])) t → Steps p.tables e below (s₁.setTop (entryFrame m #[(.ref a0)] 1)) t := fun t k => castTop (ef_3 m a0) k
  have pre1 : ∀ t, Steps p.tables e below (s₁.setTop (mkF m 1 #[.val (.ref a0)] [(.ref a0)])) t → Steps p.tables e below (s₁.setTop (entryFrame m #[(.ref a0)] 1)) t := fun t k => pre0 t (by
    show Steps p.tables e below (s₁.setTop (mkF m 0 #[.val (.ref a0)] [])) _
    refine XS.aloadN X0.here hx rfl (hb hby d3_0) rfl rfl ?_
    exact k)
  obtain ⟨_, _, ⟨T2, L2, k2, n2⟩, -, X2, ⟨Lc2, hQ2, l2, y2, z2⟩, st2⟩ := X0.specialBack hx (y := (⟨"java/util/AbstractMap", "<init>", "()V"⟩ : MethodName)) rfl hown (mvT hZ (hw _ (List.mem_of_getElem? (i := 16) rfl))) (mvT hZ (hw _ (List.mem_of_getElem? (i := 17) rfl))) (mvT hZ (hw _ (List.mem_of_getElem? (i := 21) rfl))) (by decide) (backOf (W := 0) (rm4 l Z aw hw [] a0 h0 n0 Z0) hZ (hw _ (List.mem_of_getElem? (i := 21) rfl)) (hw _ (List.mem_of_getElem? (i := 20) rfl)) (by decide) (by decide)) (g := (mkF m 1 #[.val (.ref a0)] [(.ref a0)])) rfl (by rw [hml]; rfl) (Steps.refl _) (a := a0) (argsL := []) (rest := []) (lenOf pd_0 rfl) rfl (by show 2 * 0 + _ ≤ _; exact Nat.le_of_eq rfl) (hb hby d3_1) (fun _ _ => ⟨rfl, e0, (by decide : 0 + 0 ≤ _), (by decide : 0 + 0 ≤ _)⟩)
  dsimp only [Pt.U, Pt.locs, Pt.cells, Pt.slots] at X2 l2 y2 z2 st2 hQ2
  subst l2 y2 z2
  obtain ⟨rfl, N2q, e2⟩ := hQ2
  have N2 := Fr.app N0 N2q
  have pre3 : ∀ t, Steps p.tables e below (T2.setTop (mkF m 7 #[.val (.ref a0)] [(.float (1061158912 : UInt32)), (.ref a0)])) t → Steps p.tables e below (s₁.setTop (entryFrame m #[(.ref a0)] 1)) t := fun t k => pre1 t (by
    show Steps p.tables e below (s₁.setTop (mkF m 1 #[.val (.ref a0)] [(.ref a0)])) _
    refine st2.trans ?_
    show Steps p.tables e below (T2.setTop (mkF m 4 #[.val (.ref a0)] [])) _
    refine XS.aloadN X2.here hx rfl (hb hby d3_4) rfl rfl ?_
    show Steps p.tables e below (T2.setTop (mkF m 5 #[.val (.ref a0)] [(.ref a0)])) _
    refine X2.ldcFloatC hx hown (mvT hZ (hw _ (List.mem_of_getElem? (i := 23) rfl))) (g := (mkF m 5 #[.val (.ref a0)] [(.ref a0)])) rfl (hb hby d3_5) _ ?_
    exact k)
  obtain ⟨T4, h4, X4, e4, W4, st4⟩ := putF X2 hx hZ hown (host := "") (Or.inl (hw _ (List.mem_of_getElem? (i := 24) rfl))) Via.refl e2 F_loadFactor_a0 E_a0 (Or.inr ⟨(hw _ (List.mem_of_getElem? (i := 25) rfl)), rfl, hnm⟩) (hw _ (List.mem_of_getElem? (i := 11) rfl)) (ty := .float) (by decide) rfl rfl (g := (mkF m 7 #[.val (.ref a0)] [(.float (1061158912 : UInt32)), (.ref a0)])) rfl rfl (hb hby d3_7)
  have E_a0_4 := E_a0.wr W4
  have F_loadFactor_a0_4 := F_loadFactor_a0.same W4
  have K4 : Keep h0 h4 [a0] := (Keep.refl h0 [a0]).wr W4 (Or.inl (by simp))
  have N4 := Fr.snoc X4 N2 g_a0
  have Z4 : n0 ≤ h4.size := (Nat.le_trans Z0 (Nat.le_of_eq W4.size.symm))
  obtain ⟨fs, hr, hrun, hended, hW, hsame⟩ := X4.leave (v := none) (fun _ => rfl)
  refine ⟨_, _, pre3 _ ?_, hrun, hended, _, _, rfl, ?_, ⟨_, rfl⟩, hW, hsame.mono (by decide) (by decide)⟩
  · show Steps p.tables e below (T2.setTop (mkF m 7 #[.val (.ref a0)] [(.float (1061158912 : UInt32)), (.ref a0)])) _
    refine st4 _ ?_
    show Steps p.tables e below (T4.setTop (mkF m 10 #[.val (.ref a0)] [])) _
    exact X4.returnOut hx Bd.returns (hb hby d3_10) hr
  · show Q3 Z a0 u_loadFactor_a0 h0 n0 _ T4.heap _
    rw [e4]
    exact ⟨rfl, N4, K4, E_a0_4⟩
theorem pn_4 : plainName "java/util/AbstractCollection" = true := by first | (simp [plainName, overriddenIn]; done) | decide +kernel
theorem d7_0 : decode jdk_22_method_1_code 0 = .ok (.aload_n 0, 1) := by decide +kernel
theorem d7_1 : decode jdk_22_method_1_code 1 = .ok (.invokespecial 1, 3) := by decide +kernel
theorem ef_7 (m : MethodId) (x0 : Addr) : entryFrame m #[(.ref x0)] 1 = mkF m 0 #[.val (.ref x0)] [] := by first | (simp [entryFrame, mkF, argsToLocals, Value.category]; done) | rfl
def Q7 (Z : State) (a0 : Addr) (h0 : Heap) (n0 : Nat) (v : Option Value) (h : Heap) (L : List Loc) : Prop := v = none ∧ Fr n0 L ∧ h = h0
theorem d7_4 : decode jdk_22_method_1_code 4 = .ok (.return_, 1) := by decide +kernel
set_option maxRecDepth 65536 in
set_option maxHeartbeats 40000000 in
theorem rm7 (l : Launch) (Z : State) (aw : Array Value) (hw : ∀ d ∈ tables_1, d.before aw Z = true) (ws : List Jvm.Cond) (a0 : Addr) (h0 : Heap) (n0 : Nat) (Z0 : n0 ≤ h0.size) :
    MetFree l (⟨"java/util/AbstractCollection", "<init>", "()V"⟩ : MethodName) (head1 (Jvm.Cond.code (⟨"java/util/AbstractCollection", "<init>", "()V"⟩ : MethodName) jdk_22_method_1_code 1 none :: ws) ({ frames := 1, cells := 0, slots := 0, locals := 12 } : Room)) (fun a U => a = #[(.ref a0)] ∧ Z.Warmed39 U.vm ∧ U.heap = h0) (fun _ _ _ _ _ => True) (fun _ U o U' => ∃ v L, o = .returned v ∧ Q7 Z a0 h0 n0 v U'.heap L ∧ FrameEnd U o U' L ({ frames := 1, cells := 0, slots := 0, locals := 12 } : Room).cells ({ frames := 1, cells := 0, slots := 0, locals := 12 } : Room).slots) := by
  refine MetFree.of_bodySF (plainFor_of_name pn_4) hisR ?_
  intro p e s m args below meth c s₁ Bd hml0 hP hK
  obtain ⟨rfl, hZ, hh⟩ := hP
  have hx := Bd.exec
  have hby := Bd.bytes
  have hml : c.maxLocals = 1 := hml0
  have hown : s.vm.findClass "java/util/AbstractCollection" = some m.cls := findClass_of_methodNamed Bd.named
  have hnm := (name_of_methodNamed Bd.named Bd.method).1
  have X0 : Stand p l e ({ frames := 1, cells := 0, slots := 0, locals := 12 } : Room) s m #[(.ref a0)] below meth c s₁ [] 0 0 := Stand.of_body Bd
  have e0 : s₁.heap = h0 := by rw [← hh, Bd.state]; rfl
  have N0 := Fr.nil n0
  have pre0 : ∀ t, Steps p.tables e below (s₁.setTop (mkF m 0 #[.val (.ref a0)] [])) t → Steps p.tables e below (s₁.setTop (entryFrame m #[(.ref a0)] 1)) t := fun t k => castTop (ef_7 m a0) k
  have pre1 : ∀ t, Steps p.tables e below (s₁.setTop (mkF m 1 #[.val (.ref a0)] [(.ref a0)])) t → Steps p.tables e below (s₁.setTop (entryFrame m #[(.ref a0)] 1)) t := fun t k => pre0 t (by
    show Steps p.tables e below (s₁.setTop (mkF m 0 #[.val (.ref a0)] [])) _
    refine XS.aloadN X0.here hx rfl (hb hby d7_0) rfl rfl ?_
    exact k)
  obtain ⟨T2, X2, e2, st2⟩ := initO X0 hx hZ hown (hw _ (List.mem_of_getElem? (i := 46) rfl)) (hw _ (List.mem_of_getElem? (i := 8) rfl)) (hw _ (List.mem_of_getElem? (i := 9) rfl)) e0 (g := (mkF m 1 #[.val (.ref a0)] [(.ref a0)])) rfl (by rw [hml]; rfl) rfl (hb hby d7_1) (by decide) (W := 0) (by show 2 * 0 + _ ≤ _; exact Nat.le_of_eq rfl) (by decide)
  obtain ⟨fs, hr, hrun, hended, hW, hsame⟩ := X2.leave (v := none) (fun _ => rfl)
  refine ⟨_, _, pre1 _ ?_, hrun, hended, _, _, rfl, ?_, ⟨_, rfl⟩, hW, hsame.mono (by decide) (by decide)⟩
  · show Steps p.tables e below (s₁.setTop (mkF m 1 #[.val (.ref a0)] [(.ref a0)])) _
    refine st2 _ ?_
    show Steps p.tables e below (T2.setTop (mkF m 4 #[.val (.ref a0)] [])) _
    exact X2.returnOut hx Bd.returns (hb hby d7_4) hr
  · show Q7 Z a0 h0 n0 _ T2.heap _
    rw [e2]
    exact ⟨rfl, N0, rfl⟩
theorem pn_5 : plainName "java/util/AbstractList" = true := by first | (simp [plainName, overriddenIn]; done) | decide +kernel
theorem d6_0 : decode jdk_39_method_1_code 0 = .ok (.aload_n 0, 1) := by decide +kernel
theorem d6_1 : decode jdk_39_method_1_code 1 = .ok (.invokespecial 1, 3) := by decide +kernel
theorem d6_4 : decode jdk_39_method_1_code 4 = .ok (.aload_n 0, 1) := by decide +kernel
theorem d6_5 : decode jdk_39_method_1_code 5 = .ok (.iconst 0, 1) := by decide +kernel
theorem d6_6 : decode jdk_39_method_1_code 6 = .ok (.putfield 7, 3) := by decide +kernel
theorem ef_6 (m : MethodId) (x0 : Addr) : entryFrame m #[(.ref x0)] 1 = mkF m 0 #[.val (.ref x0)] [] := by first | (simp [entryFrame, mkF, argsToLocals, Value.category]; done) | rfl
def f6_a0_elementData (u_elementData_a0 : Value) : Value := u_elementData_a0
def f6_a0_modCount (u_elementData_a0 : Value) : Int32 := (0 : Int32)
def Q6 (Z : State) (a0 : Addr) (u_elementData_a0 : Value) (u_modCount_a0 : Value) (h0 : Heap) (n0 : Nat) (v : Option Value) (h : Heap) (L : List Loc) : Prop := v = none ∧ Fr n0 L ∧ Keep h0 h [a0] ∧ Exa Z h a0 "java/util/ArrayList" ∧ Fld Z h a0 "java/util/ArrayList" "elementData" "[Ljava/lang/Object;" (f6_a0_elementData u_elementData_a0) ∧ Fld Z h a0 "java/util/AbstractList" "modCount" "I" (.int (f6_a0_modCount u_elementData_a0))
theorem d6_9 : decode jdk_39_method_1_code 9 = .ok (.return_, 1) := by decide +kernel
set_option maxRecDepth 65536 in
set_option maxHeartbeats 40000000 in
theorem rm6 (l : Launch) (Z : State) (aw : Array Value) (hw : ∀ d ∈ tables_1, d.before aw Z = true) (ws : List Jvm.Cond) (a0 : Addr) (u_elementData_a0 : Value) (u_modCount_a0 : Value) (h0 : Heap) (n0 : Nat) (Z0 : n0 ≤ h0.size) (E_a0 : Exa Z h0 a0 "java/util/ArrayList") (F_elementData_a0 : Fld Z h0 a0 "java/util/ArrayList" "elementData" "[Ljava/lang/Object;" u_elementData_a0) (F_modCount_a0 : Fld Z h0 a0 "java/util/AbstractList" "modCount" "I" u_modCount_a0) (g_a0 : n0 ≤ a0) :
    MetFree l (⟨"java/util/AbstractList", "<init>", "()V"⟩ : MethodName) (head1 (Jvm.Cond.code (⟨"java/util/AbstractList", "<init>", "()V"⟩ : MethodName) jdk_39_method_1_code 1 none :: ws) ({ frames := 2, cells := 0, slots := 0, locals := 24 } : Room)) (fun a U => a = #[(.ref a0)] ∧ Z.Warmed39 U.vm ∧ U.heap = h0) (fun _ _ _ _ _ => True) (fun _ U o U' => ∃ v L, o = .returned v ∧ Q6 Z a0 u_elementData_a0 u_modCount_a0 h0 n0 v U'.heap L ∧ FrameEnd U o U' L ({ frames := 2, cells := 0, slots := 0, locals := 24 } : Room).cells ({ frames := 2, cells := 0, slots := 0, locals := 24 } : Room).slots) := by
  refine MetFree.of_bodySF (plainFor_of_name pn_5) hisR ?_
  intro p e s m args below meth c s₁ Bd hml0 hP hK
  obtain ⟨rfl, hZ, hh⟩ := hP
  have hx := Bd.exec
  have hby := Bd.bytes
  have hml : c.maxLocals = 1 := hml0
  have hown : s.vm.findClass "java/util/AbstractList" = some m.cls := findClass_of_methodNamed Bd.named
  have hnm := (name_of_methodNamed Bd.named Bd.method).1
  have X0 : Stand p l e ({ frames := 2, cells := 0, slots := 0, locals := 24 } : Room) s m #[(.ref a0)] below meth c s₁ [] 0 0 := Stand.of_body Bd
  have e0 : s₁.heap = h0 := by rw [← hh, Bd.state]; rfl
  have N0 := Fr.nil n0
  have pre0 : ∀ t, Steps p.tables e below (s₁.setTop (mkF m 0 #[.val (.ref a0)] [])) t → Steps p.tables e below (s₁.setTop (entryFrame m #[(.ref a0)] 1)) t := fun t k => castTop (ef_6 m a0) k
  have pre1 : ∀ t, Steps p.tables e below (s₁.setTop (mkF m 1 #[.val (.ref a0)] [(.ref a0)])) t → Steps p.tables e below (s₁.setTop (entryFrame m #[(.ref a0)] 1)) t := fun t k => pre0 t (by
    show Steps p.tables e below (s₁.setTop (mkF m 0 #[.val (.ref a0)] [])) _
    refine XS.aloadN X0.here hx rfl (hb hby d6_0) rfl rfl ?_
    exact k)
  obtain ⟨_, _, ⟨T2, L2, k2, n2⟩, -, X2, ⟨Lc2, hQ2, l2, y2, z2⟩, st2⟩ := X0.specialBack hx (y := (⟨"java/util/AbstractCollection", "<init>", "()V"⟩ : MethodName)) rfl hown (mvT hZ (hw _ (List.mem_of_getElem? (i := 40) rfl))) (mvT hZ (hw _ (List.mem_of_getElem? (i := 41) rfl))) (mvT hZ (hw _ (List.mem_of_getElem? (i := 45) rfl))) (by decide) (backOf (W := 0) (rm7 l Z aw hw [] a0 h0 n0 Z0) hZ (hw _ (List.mem_of_getElem? (i := 45) rfl)) (hw _ (List.mem_of_getElem? (i := 44) rfl)) (by decide) (by decide)) (g := (mkF m 1 #[.val (.ref a0)] [(.ref a0)])) rfl (by rw [hml]; rfl) (Steps.refl _) (a := a0) (argsL := []) (rest := []) (lenOf pd_0 rfl) rfl (by show 2 * 0 + _ ≤ _; exact Nat.le_of_eq rfl) (hb hby d6_1) (fun _ _ => ⟨rfl, e0, (by decide : 0 + 0 ≤ _), (by decide : 0 + 0 ≤ _)⟩)
  dsimp only [Pt.U, Pt.locs, Pt.cells, Pt.slots] at X2 l2 y2 z2 st2 hQ2
  subst l2 y2 z2
  obtain ⟨rfl, N2q, e2⟩ := hQ2
  have N2 := Fr.app N0 N2q
  have pre3 : ∀ t, Steps p.tables e below (T2.setTop (mkF m 6 #[.val (.ref a0)] [(.int (0 : Int32)), (.ref a0)])) t → Steps p.tables e below (s₁.setTop (entryFrame m #[(.ref a0)] 1)) t := fun t k => pre1 t (by
    show Steps p.tables e below (s₁.setTop (mkF m 1 #[.val (.ref a0)] [(.ref a0)])) _
    refine st2.trans ?_
    show Steps p.tables e below (T2.setTop (mkF m 4 #[.val (.ref a0)] [])) _
    refine XS.aloadN X2.here hx rfl (hb hby d6_4) rfl rfl ?_
    show Steps p.tables e below (T2.setTop (mkF m 5 #[.val (.ref a0)] [(.ref a0)])) _
    refine XS.iconst X2.here hx rfl (hb hby d6_5) ?_
    exact k)
  obtain ⟨T4, h4, X4, e4, W4, st4⟩ := putF X2 hx hZ hown (host := "") (Or.inl (hw _ (List.mem_of_getElem? (i := 47) rfl))) Via.refl e2 F_modCount_a0 E_a0 (Or.inl (hw _ (List.mem_of_getElem? (i := 48) rfl))) (hw _ (List.mem_of_getElem? (i := 29) rfl)) (ty := .int) (by decide) rfl rfl (g := (mkF m 6 #[.val (.ref a0)] [(.int (0 : Int32)), (.ref a0)])) rfl rfl (hb hby d6_6)
  have E_a0_4 := E_a0.wr W4
  have F_elementData_a0_4 := F_elementData_a0.other W4 (Or.inr (slot_ne (Or.inl (hw _ (List.mem_of_getElem? (i := 51) rfl))) (Or.inl (hw _ (List.mem_of_getElem? (i := 48) rfl))) (by decide) (t := (.array (.object "java/lang/Object"))) (t' := .int) (by decide) (by decide)))
  have F_modCount_a0_4 := F_modCount_a0.same W4
  have K4 : Keep h0 h4 [a0] := (Keep.refl h0 [a0]).wr W4 (Or.inl (by simp))
  have N4 := Fr.snoc X4 N2 g_a0
  have Z4 : n0 ≤ h4.size := (Nat.le_trans Z0 (Nat.le_of_eq W4.size.symm))
  obtain ⟨fs, hr, hrun, hended, hW, hsame⟩ := X4.leave (v := none) (fun _ => rfl)
  refine ⟨_, _, pre3 _ ?_, hrun, hended, _, _, rfl, ?_, ⟨_, rfl⟩, hW, hsame.mono (by decide) (by decide)⟩
  · show Steps p.tables e below (T2.setTop (mkF m 6 #[.val (.ref a0)] [(.int (0 : Int32)), (.ref a0)])) _
    refine st4 _ ?_
    show Steps p.tables e below (T4.setTop (mkF m 9 #[.val (.ref a0)] [])) _
    exact X4.returnOut hx Bd.returns (hb hby d6_9) hr
  · show Q6 Z a0 u_elementData_a0 u_modCount_a0 h0 n0 _ T4.heap _
    rw [e4]
    have hF_a0_elementData : u_elementData_a0 = f6_a0_elementData u_elementData_a0 := (by rfl)
    have hF_a0_modCount : (0 : Int32) = f6_a0_modCount u_elementData_a0 := (by rfl)
    exact ⟨rfl, N4, K4, E_a0_4, (hF_a0_elementData ▸ F_elementData_a0_4), (hF_a0_modCount ▸ F_modCount_a0_4)⟩
theorem pn_7 : plainName "java/util/ArrayList" = true := by first | (simp [plainName, overriddenIn]; done) | decide +kernel
theorem d5_0 : decode jdk_38_method_2_code 0 = .ok (.aload_n 0, 1) := by decide +kernel
theorem d5_1 : decode jdk_38_method_2_code 1 = .ok (.invokespecial 1, 3) := by decide +kernel
theorem d5_4 : decode jdk_38_method_2_code 4 = .ok (.aload_n 0, 1) := by decide +kernel
theorem d5_5 : decode jdk_38_method_2_code 5 = .ok (.getstatic 39, 3) := by decide +kernel
theorem d5_8 : decode jdk_38_method_2_code 8 = .ok (.putfield 9, 3) := by decide +kernel
theorem ef_5 (m : MethodId) (x0 : Addr) : entryFrame m #[(.ref x0)] 1 = mkF m 0 #[.val (.ref x0)] [] := by first | (simp [entryFrame, mkF, argsToLocals, Value.category]; done) | rfl
def f5_a0_elementData (w_DEFAULTCAPACITY_EMPTY_ELEMENTDATA : Addr) : Addr := w_DEFAULTCAPACITY_EMPTY_ELEMENTDATA
def f5_a0_modCount (w_DEFAULTCAPACITY_EMPTY_ELEMENTDATA : Addr) : Int32 := (0 : Int32)
def Q5 (Z : State) (a0 : Addr) (u_elementData_a0 : Value) (u_modCount_a0 : Value) (w_DEFAULTCAPACITY_EMPTY_ELEMENTDATA : Addr) (h0 : Heap) (n0 : Nat) (v : Option Value) (h : Heap) (L : List Loc) : Prop := v = none ∧ Fr n0 L ∧ Keep h0 h [a0] ∧ Exa Z h a0 "java/util/ArrayList" ∧ Fld Z h a0 "java/util/ArrayList" "elementData" "[Ljava/lang/Object;" (.ref (f5_a0_elementData w_DEFAULTCAPACITY_EMPTY_ELEMENTDATA)) ∧ Fld Z h a0 "java/util/AbstractList" "modCount" "I" (.int (f5_a0_modCount w_DEFAULTCAPACITY_EMPTY_ELEMENTDATA))
theorem d5_11 : decode jdk_38_method_2_code 11 = .ok (.return_, 1) := by decide +kernel
set_option maxRecDepth 65536 in
set_option maxHeartbeats 40000000 in
theorem rm5 (l : Launch) (Z : State) (aw : Array Value) (hw : ∀ d ∈ tables_1, d.before aw Z = true) (ws : List Jvm.Cond) (a0 : Addr) (u_elementData_a0 : Value) (u_modCount_a0 : Value) (w_DEFAULTCAPACITY_EMPTY_ELEMENTDATA : Addr) (h0 : Heap) (n0 : Nat) (Z0 : n0 ≤ h0.size) (E_a0 : Exa Z h0 a0 "java/util/ArrayList") (F_elementData_a0 : Fld Z h0 a0 "java/util/ArrayList" "elementData" "[Ljava/lang/Object;" u_elementData_a0) (F_modCount_a0 : Fld Z h0 a0 "java/util/AbstractList" "modCount" "I" u_modCount_a0) (g_a0 : n0 ≤ a0) (S_DEFAULTCAPACITY_EMPTY_ELEMENTDATA : Sta Z h0 "java/util/ArrayList" "DEFAULTCAPACITY_EMPTY_ELEMENTDATA" "[Ljava/lang/Object;" (.ref w_DEFAULTCAPACITY_EMPTY_ELEMENTDATA)) :
    MetFree l (⟨"java/util/ArrayList", "<init>", "()V"⟩ : MethodName) (head1 (Jvm.Cond.code (⟨"java/util/ArrayList", "<init>", "()V"⟩ : MethodName) jdk_38_method_2_code 1 none :: ws) ({ frames := 3, cells := 0, slots := 0, locals := 36 } : Room)) (fun a U => a = #[(.ref a0)] ∧ Z.Warmed39 U.vm ∧ U.heap = h0) (fun _ _ _ _ _ => True) (fun _ U o U' => ∃ v L, o = .returned v ∧ Q5 Z a0 u_elementData_a0 u_modCount_a0 w_DEFAULTCAPACITY_EMPTY_ELEMENTDATA h0 n0 v U'.heap L ∧ FrameEnd U o U' L ({ frames := 3, cells := 0, slots := 0, locals := 36 } : Room).cells ({ frames := 3, cells := 0, slots := 0, locals := 36 } : Room).slots) := by
  refine MetFree.of_bodySF (plainFor_of_name pn_7) hisR ?_
  intro p e s m args below meth c s₁ Bd hml0 hP hK
  obtain ⟨rfl, hZ, hh⟩ := hP
  have hx := Bd.exec
  have hby := Bd.bytes
  have hml : c.maxLocals = 1 := hml0
  have hown : s.vm.findClass "java/util/ArrayList" = some m.cls := findClass_of_methodNamed Bd.named
  have hnm := (name_of_methodNamed Bd.named Bd.method).1
  have X0 : Stand p l e ({ frames := 3, cells := 0, slots := 0, locals := 36 } : Room) s m #[(.ref a0)] below meth c s₁ [] 0 0 := Stand.of_body Bd
  have e0 : s₁.heap = h0 := by rw [← hh, Bd.state]; rfl
  have N0 := Fr.nil n0
  have pre0 : ∀ t, Steps p.tables e below (s₁.setTop (mkF m 0 #[.val (.ref a0)] [])) t → Steps p.tables e below (s₁.setTop (entryFrame m #[(.ref a0)] 1)) t := fun t k => castTop (ef_5 m a0) k
  have pre1 : ∀ t, Steps p.tables e below (s₁.setTop (mkF m 1 #[.val (.ref a0)] [(.ref a0)])) t → Steps p.tables e below (s₁.setTop (entryFrame m #[(.ref a0)] 1)) t := fun t k => pre0 t (by
    show Steps p.tables e below (s₁.setTop (mkF m 0 #[.val (.ref a0)] [])) _
    refine XS.aloadN X0.here hx rfl (hb hby d5_0) rfl rfl ?_
    exact k)
  obtain ⟨_, _, ⟨T2, L2, k2, n2⟩, -, X2, ⟨Lc2, hQ2, l2, y2, z2⟩, st2⟩ := X0.specialBack hx (y := (⟨"java/util/AbstractList", "<init>", "()V"⟩ : MethodName)) rfl hown (mvT hZ (hw _ (List.mem_of_getElem? (i := 34) rfl))) (mvT hZ (hw _ (List.mem_of_getElem? (i := 35) rfl))) (mvT hZ (hw _ (List.mem_of_getElem? (i := 39) rfl))) (by decide) (backOf (W := 0) (rm6 l Z aw hw [] a0 u_elementData_a0 u_modCount_a0 h0 n0 Z0 E_a0 F_elementData_a0 F_modCount_a0 g_a0) hZ (hw _ (List.mem_of_getElem? (i := 39) rfl)) (hw _ (List.mem_of_getElem? (i := 38) rfl)) (by decide) (by decide)) (g := (mkF m 1 #[.val (.ref a0)] [(.ref a0)])) rfl (by rw [hml]; rfl) (Steps.refl _) (a := a0) (argsL := []) (rest := []) (lenOf pd_0 rfl) rfl (by show 2 * 0 + _ ≤ _; exact Nat.le_of_eq rfl) (hb hby d5_1) (fun _ _ => ⟨rfl, e0, (by decide : 0 + 0 ≤ _), (by decide : 0 + 0 ≤ _)⟩)
  dsimp only [Pt.U, Pt.locs, Pt.cells, Pt.slots] at X2 l2 y2 z2 st2 hQ2
  subst l2 y2 z2
  obtain ⟨rfl, N2q, K2q, E2_a0, F2_a0_elementData, F2_a0_modCount⟩ := hQ2
  have N2 := Fr.app N0 N2q
  have E_a0_2 := E_a0.keep K2q
  have S_DEFAULTCAPACITY_EMPTY_ELEMENTDATA_2 := own_sta_keep S_DEFAULTCAPACITY_EMPTY_ELEMENTDATA K2q (allS (own_exa_plain E_a0) all0)
  have F2_a0_elementData' : Fld Z T2.heap a0 "java/util/ArrayList" "elementData" "[Ljava/lang/Object;" u_elementData_a0 := F2_a0_elementData
  have F2_a0_modCount' : Fld Z T2.heap a0 "java/util/AbstractList" "modCount" "I" (.int (0 : Int32)) := F2_a0_modCount
  have K2 : Keep h0 T2.heap [a0] := (Keep.refl h0 [a0]).trans K2q (allS (Or.inl (by simp)) all0)
  have Z2 : n0 ≤ T2.heap.size := Nat.le_trans Z0 K2q.1
  have pre3 : ∀ t, Steps p.tables e below (T2.setTop (mkF m 5 #[.val (.ref a0)] [(.ref a0)])) t → Steps p.tables e below (s₁.setTop (entryFrame m #[(.ref a0)] 1)) t := fun t k => pre1 t (by
    show Steps p.tables e below (s₁.setTop (mkF m 1 #[.val (.ref a0)] [(.ref a0)])) _
    refine st2.trans ?_
    show Steps p.tables e below (T2.setTop (mkF m 4 #[.val (.ref a0)] [])) _
    refine XS.aloadN X2.here hx rfl (hb hby d5_4) rfl rfl ?_
    exact k)
  obtain ⟨T4, X4, e4, st4⟩ := getS2 X2 hx hZ hown (host := "") (Or.inl (hw _ (List.mem_of_getElem? (i := 49) rfl))) Via.refl rfl S_DEFAULTCAPACITY_EMPTY_ELEMENTDATA_2 (g := (mkF m 5 #[.val (.ref a0)] [(.ref a0)])) rfl (hb hby d5_5)
  have pre5 : ∀ t, Steps p.tables e below (T4.setTop (mkF m 8 #[.val (.ref a0)] [(.ref w_DEFAULTCAPACITY_EMPTY_ELEMENTDATA), (.ref a0)])) t → Steps p.tables e below (s₁.setTop (entryFrame m #[(.ref a0)] 1)) t := fun t k => pre3 t (by
    show Steps p.tables e below (T2.setTop (mkF m 5 #[.val (.ref a0)] [(.ref a0)])) _
    refine st4 _ ?_
    exact k)
  obtain ⟨T6, h6, X6, e6, W6, st6⟩ := putF X4 hx hZ hown (host := "") (Or.inl (hw _ (List.mem_of_getElem? (i := 50) rfl))) Via.refl e4 F2_a0_elementData' E_a0_2 (Or.inl (hw _ (List.mem_of_getElem? (i := 51) rfl))) (hw _ (List.mem_of_getElem? (i := 29) rfl)) (ty := (.array (.object "java/lang/Object"))) (by decide) rfl rfl (g := (mkF m 8 #[.val (.ref a0)] [(.ref w_DEFAULTCAPACITY_EMPTY_ELEMENTDATA), (.ref a0)])) rfl rfl (hb hby d5_8)
  have E_a0_6 := E_a0_2.wr W6
  have F2_a0_elementData'_6 := F2_a0_elementData'.same W6
  have F2_a0_modCount'_6 := F2_a0_modCount'.other W6 (Or.inr (slot_ne (Or.inl (hw _ (List.mem_of_getElem? (i := 48) rfl))) (Or.inl (hw _ (List.mem_of_getElem? (i := 51) rfl))) (by decide) (t := .int) (t' := (.array (.object "java/lang/Object"))) (by decide) (by decide)))
  have S_DEFAULTCAPACITY_EMPTY_ELEMENTDATA_6 := S_DEFAULTCAPACITY_EMPTY_ELEMENTDATA_2.wr W6
  have K6 : Keep h0 h6 [a0] := K2.wr W6 (Or.inl (by simp))
  have N6 := Fr.snoc X6 N2 g_a0
  have Z6 : n0 ≤ h6.size := (Nat.le_trans Z2 (Nat.le_of_eq W6.size.symm))
  obtain ⟨fs, hr, hrun, hended, hW, hsame⟩ := X6.leave (v := none) (fun _ => rfl)
  refine ⟨_, _, pre5 _ ?_, hrun, hended, _, _, rfl, ?_, ⟨_, rfl⟩, hW, hsame.mono (by decide) (by decide)⟩
  · show Steps p.tables e below (T4.setTop (mkF m 8 #[.val (.ref a0)] [(.ref w_DEFAULTCAPACITY_EMPTY_ELEMENTDATA), (.ref a0)])) _
    refine st6 _ ?_
    show Steps p.tables e below (T6.setTop (mkF m 11 #[.val (.ref a0)] [])) _
    exact X6.returnOut hx Bd.returns (hb hby d5_11) hr
  · show Q5 Z a0 u_elementData_a0 u_modCount_a0 w_DEFAULTCAPACITY_EMPTY_ELEMENTDATA h0 n0 _ T6.heap _
    rw [e6]
    have hF_a0_elementData : w_DEFAULTCAPACITY_EMPTY_ELEMENTDATA = f5_a0_elementData w_DEFAULTCAPACITY_EMPTY_ELEMENTDATA := (by rfl)
    have hF_a0_modCount : (0 : Int32) = f5_a0_modCount w_DEFAULTCAPACITY_EMPTY_ELEMENTDATA := (by rfl)
    exact ⟨rfl, N6, K6, E_a0_6, (hF_a0_elementData ▸ F2_a0_elementData'_6), (hF_a0_modCount ▸ F2_a0_modCount'_6)⟩
theorem pn_0 : plainName "com/example/covenant/covenant/model/InheritedNames" = true := by first | (simp [plainName, overriddenIn]; done) | decide +kernel
theorem d1_0 : decode prog_55_method_1_code 0 = .ok (.aload_n 0, 1) := by decide +kernel
theorem d1_1 : decode prog_55_method_1_code 1 = .ok (.invokespecial 1, 3) := by decide +kernel
theorem d1_4 : decode prog_55_method_1_code 4 = .ok (.aload_n 0, 1) := by decide +kernel
theorem d1_5 : decode prog_55_method_1_code 5 = .ok (.new 7, 3) := by decide +kernel
theorem d1_8 : decode prog_55_method_1_code 8 = .ok (.dup, 1) := by decide +kernel
theorem d1_9 : decode prog_55_method_1_code 9 = .ok (.invokespecial 9, 3) := by decide +kernel
theorem d1_12 : decode prog_55_method_1_code 12 = .ok (.putfield 10, 3) := by decide +kernel
theorem d1_15 : decode prog_55_method_1_code 15 = .ok (.aload_n 0, 1) := by decide +kernel
theorem d1_16 : decode prog_55_method_1_code 16 = .ok (.new 16, 3) := by decide +kernel
theorem d1_19 : decode prog_55_method_1_code 19 = .ok (.dup, 1) := by decide +kernel
theorem d1_20 : decode prog_55_method_1_code 20 = .ok (.invokespecial 18, 3) := by decide +kernel
theorem d1_23 : decode prog_55_method_1_code 23 = .ok (.putfield 19, 3) := by decide +kernel
theorem d1_26 : decode prog_55_method_1_code 26 = .ok (.aload_n 0, 1) := by decide +kernel
theorem d1_27 : decode prog_55_method_1_code 27 = .ok (.new 7, 3) := by decide +kernel
theorem d1_30 : decode prog_55_method_1_code 30 = .ok (.dup, 1) := by decide +kernel
theorem d1_31 : decode prog_55_method_1_code 31 = .ok (.invokespecial 9, 3) := by decide +kernel
theorem d1_34 : decode prog_55_method_1_code 34 = .ok (.putfield 23, 3) := by decide +kernel
theorem ef_1 (m : MethodId) (x0 : Addr) : entryFrame m #[(.ref x0)] 1 = mkF m 0 #[.val (.ref x0)] [] := by first | (simp [entryFrame, mkF, argsToLocals, Value.category]; done) | rfl
def f1_a0_room (w_room_a0 : Int64) : Int64 := w_room_a0
def Q1 (Z : State) (a0 : Addr) (w_room_a0 : Int64) (u_definers_a0 : Value) (w_DEFAULTCAPACITY_EMPTY_ELEMENTDATA : Addr) (u_pending_a0 : Value) (u_made_a0 : Value) (h0 : Heap) (n0 : Nat) (v : Option Value) (h : Heap) (L : List Loc) : Prop := v = none ∧ Fr n0 L ∧ Keep h0 h [a0] ∧ Exa Z h a0 "com/example/covenant/covenant/model/InheritedNames" ∧ Fld Z h a0 "com/example/covenant/covenant/model/InheritedNames" "room" "J" (.long (f1_a0_room w_room_a0))
theorem d1_37 : decode prog_55_method_1_code 37 = .ok (.return_, 1) := by decide +kernel
set_option maxRecDepth 65536 in
set_option maxHeartbeats 40000000 in
theorem rm1 (l : Launch) (Z : State) (aw : Array Value) (hw : ∀ d ∈ tables_1, d.before aw Z = true) (ws : List Jvm.Cond) (a0 : Addr) (w_room_a0 : Int64) (u_definers_a0 : Value) (w_DEFAULTCAPACITY_EMPTY_ELEMENTDATA : Addr) (u_pending_a0 : Value) (u_made_a0 : Value) (h0 : Heap) (n0 : Nat) (Z0 : n0 ≤ h0.size) (F_room_a0 : Fld Z h0 a0 "com/example/covenant/covenant/model/InheritedNames" "room" "J" (.long w_room_a0)) (E_a0 : Exa Z h0 a0 "com/example/covenant/covenant/model/InheritedNames") (F_definers_a0 : Fld Z h0 a0 "com/example/covenant/covenant/model/InheritedNames" "definers" "Ljava/util/Map;" u_definers_a0) (g_a0 : n0 ≤ a0) (S_DEFAULTCAPACITY_EMPTY_ELEMENTDATA : Sta Z h0 "java/util/ArrayList" "DEFAULTCAPACITY_EMPTY_ELEMENTDATA" "[Ljava/lang/Object;" (.ref w_DEFAULTCAPACITY_EMPTY_ELEMENTDATA)) (F_pending_a0 : Fld Z h0 a0 "com/example/covenant/covenant/model/InheritedNames" "pending" "Ljava/util/List;" u_pending_a0) (F_made_a0 : Fld Z h0 a0 "com/example/covenant/covenant/model/InheritedNames" "made" "Ljava/util/Map;" u_made_a0) :
    MetFree l (⟨"com/example/covenant/covenant/model/InheritedNames", "<init>", "()V"⟩ : MethodName) (head1 (Jvm.Cond.code (⟨"com/example/covenant/covenant/model/InheritedNames", "<init>", "()V"⟩ : MethodName) prog_55_method_1_code 1 none :: ws) ({ frames := 4, cells := 3, slots := 19, locals := 50 } : Room)) (fun a U => a = #[(.ref a0)] ∧ Z.Warmed39 U.vm ∧ U.heap = h0) (fun _ _ _ _ _ => True) (fun _ U o U' => ∃ v L, o = .returned v ∧ Q1 Z a0 w_room_a0 u_definers_a0 w_DEFAULTCAPACITY_EMPTY_ELEMENTDATA u_pending_a0 u_made_a0 h0 n0 v U'.heap L ∧ FrameEnd U o U' L ({ frames := 4, cells := 3, slots := 19, locals := 50 } : Room).cells ({ frames := 4, cells := 3, slots := 19, locals := 50 } : Room).slots) := by
  refine MetFree.of_bodySF (plainFor_of_name pn_0) hisR ?_
  intro p e s m args below meth c s₁ Bd hml0 hP hK
  obtain ⟨rfl, hZ, hh⟩ := hP
  have hx := Bd.exec
  have hby := Bd.bytes
  have hml : c.maxLocals = 1 := hml0
  have hown : s.vm.findClass "com/example/covenant/covenant/model/InheritedNames" = some m.cls := findClass_of_methodNamed Bd.named
  have hnm := (name_of_methodNamed Bd.named Bd.method).1
  have X0 : Stand p l e ({ frames := 4, cells := 3, slots := 19, locals := 50 } : Room) s m #[(.ref a0)] below meth c s₁ [] 0 0 := Stand.of_body Bd
  have e0 : s₁.heap = h0 := by rw [← hh, Bd.state]; rfl
  have N0 := Fr.nil n0
  have pre0 : ∀ t, Steps p.tables e below (s₁.setTop (mkF m 0 #[.val (.ref a0)] [])) t → Steps p.tables e below (s₁.setTop (entryFrame m #[(.ref a0)] 1)) t := fun t k => castTop (ef_1 m a0) k
  have pre1 : ∀ t, Steps p.tables e below (s₁.setTop (mkF m 1 #[.val (.ref a0)] [(.ref a0)])) t → Steps p.tables e below (s₁.setTop (entryFrame m #[(.ref a0)] 1)) t := fun t k => pre0 t (by
    show Steps p.tables e below (s₁.setTop (mkF m 0 #[.val (.ref a0)] [])) _
    refine XS.aloadN X0.here hx rfl (hb hby d1_0) rfl rfl ?_
    exact k)
  obtain ⟨T2, X2, e2, st2⟩ := initO X0 hx hZ hown (hw _ (List.mem_of_getElem? (i := 7) rfl)) (hw _ (List.mem_of_getElem? (i := 8) rfl)) (hw _ (List.mem_of_getElem? (i := 9) rfl)) e0 (g := (mkF m 1 #[.val (.ref a0)] [(.ref a0)])) rfl (by rw [hml]; rfl) rfl (hb hby d1_1) (by decide) (W := 0) (by show 2 * 0 + _ ≤ _; exact Nat.le_of_eq rfl) (by decide)
  have pre3 : ∀ t, Steps p.tables e below (T2.setTop (mkF m 5 #[.val (.ref a0)] [(.ref a0)])) t → Steps p.tables e below (s₁.setTop (entryFrame m #[(.ref a0)] 1)) t := fun t k => pre1 t (by
    show Steps p.tables e below (s₁.setTop (mkF m 1 #[.val (.ref a0)] [(.ref a0)])) _
    refine st2 _ ?_
    show Steps p.tables e below (T2.setTop (mkF m 4 #[.val (.ref a0)] [])) _
    refine XS.aloadN X2.here hx rfl (hb hby d1_4) rfl rfl ?_
    exact k)
  obtain ⟨T4, h4, X4, e4, E4, A4, D4, -, st4⟩ := newO X2 hx hZ hown (hw _ (List.mem_of_getElem? (i := 10) rfl)) (hw _ (List.mem_of_getElem? (i := 11) rfl)) (hw _ (List.mem_of_getElem? (i := 12) rfl)) e2 (g := (mkF m 5 #[.val (.ref a0)] [(.ref a0)])) rfl (hb hby d1_5) (by decide) (by decide)
  obtain ⟨b4, g4⟩ : ∃ z, z = h0.size := ⟨_, rfl⟩
  have ne_a0_b4 : a0 ≠ b4 := Nat.ne_of_lt (Nat.lt_of_lt_of_le F_room_a0.lt (Nat.le_of_eq g4.symm))
  have g_b4 : n0 ≤ b4 := Nat.le_trans Z0 (Nat.le_of_eq g4.symm)
  have sz_b4 : h0.size ≤ b4 := Nat.le_trans (Keep.refl h0 [a0]).1 (Nat.le_of_eq g4.symm)
  rw [← g4] at A4 D4 st4
  have F_room_a0_4 := F_room_a0.ext E4
  have E_a0_4 := E_a0.ext E4
  have F_definers_a0_4 := F_definers_a0.ext E4
  have S_DEFAULTCAPACITY_EMPTY_ELEMENTDATA_4 := S_DEFAULTCAPACITY_EMPTY_ELEMENTDATA.ext E4
  have F_pending_a0_4 := F_pending_a0.ext E4
  have F_made_a0_4 := F_made_a0.ext E4
  have K4 : Keep h0 h4 [a0] := (Keep.refl h0 [a0]).ext E4
  have Z4 : n0 ≤ h4.size := Nat.le_trans Z0 E4.1
  have F_loadFactor_b4 : Fld Z h4 b4 "java/util/HashMap" "loadFactor" "F" (.float (0 : UInt32)) := D4 (Or.inr (hw _ (List.mem_of_getElem? (i := 25) rfl))) (ty := .float) (by decide)
  have pre5 : ∀ t, Steps p.tables e below (T4.setTop (mkF m 9 #[.val (.ref a0)] [(.ref b4), (.ref b4), (.ref a0)])) t → Steps p.tables e below (s₁.setTop (entryFrame m #[(.ref a0)] 1)) t := fun t k => pre3 t (by
    show Steps p.tables e below (T2.setTop (mkF m 5 #[.val (.ref a0)] [(.ref a0)])) _
    refine st4 _ ?_
    show Steps p.tables e below (T4.setTop (mkF m 8 #[.val (.ref a0)] [(.ref b4), (.ref a0)])) _
    refine XS.dup X4.here hx rfl (hb hby d1_8) rfl rfl ?_
    exact k)
  obtain ⟨_, _, ⟨T6, L6, k6, n6⟩, -, X6, ⟨Lc6, hQ6, l6, y6, z6⟩, st6⟩ := X4.specialBack hx (y := (⟨"java/util/HashMap", "<init>", "()V"⟩ : MethodName)) rfl hown (mvT hZ (hw _ (List.mem_of_getElem? (i := 13) rfl))) (mvT hZ (hw _ (List.mem_of_getElem? (i := 14) rfl))) (mvT hZ (hw _ (List.mem_of_getElem? (i := 15) rfl))) (by decide) (backOf (W := 2) (rm3 l Z aw hw [] b4 (.float (0 : UInt32)) h4 n0 Z4 A4 F_loadFactor_b4 g_b4) hZ (hw _ (List.mem_of_getElem? (i := 15) rfl)) (hw _ (List.mem_of_getElem? (i := 12) rfl)) (by decide) (by decide)) (g := (mkF m 9 #[.val (.ref a0)] [(.ref b4), (.ref b4), (.ref a0)])) rfl (by rw [hml]; rfl) (Steps.refl _) (a := b4) (argsL := []) (rest := [(.ref b4), (.ref a0)]) (lenOf pd_0 rfl) rfl (by show 2 * 0 + _ ≤ _; exact Nat.le_of_eq rfl) (hb hby d1_9) (fun _ _ => ⟨rfl, e4, (by decide : 1 + 0 ≤ _), (by decide : 8 + 0 ≤ _)⟩)
  dsimp only [Pt.U, Pt.locs, Pt.cells, Pt.slots] at X6 l6 y6 z6 st6 hQ6
  subst l6 y6 z6
  obtain ⟨rfl, N6q, K6q, E6_a0⟩ := hQ6
  have N6 := Fr.app N0 N6q
  have F_room_a0_6 := F_room_a0_4.keep K6q (ninS ne_a0_b4 nin0)
  have E_a0_6 := E_a0_4.keep K6q
  have F_definers_a0_6 := F_definers_a0_4.keep K6q (ninS ne_a0_b4 nin0)
  have S_DEFAULTCAPACITY_EMPTY_ELEMENTDATA_6 := own_sta_keep S_DEFAULTCAPACITY_EMPTY_ELEMENTDATA_4 K6q (allS (own_exa_plain A4) all0)
  have F_pending_a0_6 := F_pending_a0_4.keep K6q (ninS ne_a0_b4 nin0)
  have F_made_a0_6 := F_made_a0_4.keep K6q (ninS ne_a0_b4 nin0)
  have A4_6 := A4.keep K6q
  have K6 : Keep h0 T6.heap [a0] := K4.trans K6q (allS (Or.inr sz_b4) all0)
  have Z6 : n0 ≤ T6.heap.size := Nat.le_trans Z4 K6q.1
  have pre7 : ∀ t, Steps p.tables e below (T6.setTop (mkF m 12 #[.val (.ref a0)] [(.ref b4), (.ref a0)])) t → Steps p.tables e below (s₁.setTop (entryFrame m #[(.ref a0)] 1)) t := fun t k => pre5 t (by
    show Steps p.tables e below (T4.setTop (mkF m 9 #[.val (.ref a0)] [(.ref b4), (.ref b4), (.ref a0)])) _
    refine st6.trans ?_
    exact k)
  obtain ⟨T8, h8, X8, e8, W8, st8⟩ := putF X6 hx hZ hown (host := "") (Or.inl (hw _ (List.mem_of_getElem? (i := 26) rfl))) Via.refl rfl F_definers_a0_6 E_a0_6 (Or.inr ⟨(hw _ (List.mem_of_getElem? (i := 27) rfl)), rfl, hnm⟩) (hw _ (List.mem_of_getElem? (i := 2) rfl)) (ty := (.object "java/util/Map")) (by decide) rfl rfl (g := (mkF m 12 #[.val (.ref a0)] [(.ref b4), (.ref a0)])) rfl rfl (hb hby d1_12)
  have F_room_a0_8 := F_room_a0_6.other W8 (Or.inr (slot_ne (Or.inl (hw _ (List.mem_of_getElem? (i := 62) rfl))) (Or.inr (hw _ (List.mem_of_getElem? (i := 27) rfl))) (by decide) (t := .long) (t' := (.object "java/util/Map")) (by decide) (by decide)))
  have E_a0_8 := E_a0_6.wr W8
  have F_definers_a0_8 := F_definers_a0_6.same W8
  have S_DEFAULTCAPACITY_EMPTY_ELEMENTDATA_8 := S_DEFAULTCAPACITY_EMPTY_ELEMENTDATA_6.wr W8
  have F_pending_a0_8 := F_pending_a0_6.other W8 (Or.inr (slot_ne (Or.inr (hw _ (List.mem_of_getElem? (i := 53) rfl))) (Or.inr (hw _ (List.mem_of_getElem? (i := 27) rfl))) (by decide) (t := (.object "java/util/List")) (t' := (.object "java/util/Map")) (by decide) (by decide)))
  have F_made_a0_8 := F_made_a0_6.other W8 (Or.inr (slot_ne (Or.inr (hw _ (List.mem_of_getElem? (i := 55) rfl))) (Or.inr (hw _ (List.mem_of_getElem? (i := 27) rfl))) (by decide) (t := (.object "java/util/Map")) (t' := (.object "java/util/Map")) (by decide) (by decide)))
  have A4_8 := A4_6.wr W8
  have K8 : Keep h0 h8 [a0] := K6.wr W8 (Or.inl (by simp))
  have N8 := Fr.snoc X8 N6 g_a0
  have Z8 : n0 ≤ h8.size := (Nat.le_trans Z6 (Nat.le_of_eq W8.size.symm))
  have pre9 : ∀ t, Steps p.tables e below (T8.setTop (mkF m 16 #[.val (.ref a0)] [(.ref a0)])) t → Steps p.tables e below (s₁.setTop (entryFrame m #[(.ref a0)] 1)) t := fun t k => pre7 t (by
    show Steps p.tables e below (T6.setTop (mkF m 12 #[.val (.ref a0)] [(.ref b4), (.ref a0)])) _
    refine st8 _ ?_
    show Steps p.tables e below (T8.setTop (mkF m 15 #[.val (.ref a0)] [])) _
    refine XS.aloadN X8.here hx rfl (hb hby d1_15) rfl rfl ?_
    exact k)
  obtain ⟨T10, h10, X10, e10, E10, A10, D10, -, st10⟩ := newO X8 hx hZ hown (hw _ (List.mem_of_getElem? (i := 28) rfl)) (hw _ (List.mem_of_getElem? (i := 29) rfl)) (hw _ (List.mem_of_getElem? (i := 30) rfl)) e8 (g := (mkF m 16 #[.val (.ref a0)] [(.ref a0)])) rfl (hb hby d1_16) (by decide) (by decide)
  obtain ⟨b10, g10⟩ : ∃ z, z = h8.size := ⟨_, rfl⟩
  have ne_b4_b10 : b4 ≠ b10 := Nat.ne_of_lt (Nat.lt_of_lt_of_le A4_8.lt (Nat.le_of_eq g10.symm))
  have ne_a0_b10 : a0 ≠ b10 := Nat.ne_of_lt (Nat.lt_of_lt_of_le F_room_a0_8.lt (Nat.le_of_eq g10.symm))
  have g_b10 : n0 ≤ b10 := Nat.le_trans Z8 (Nat.le_of_eq g10.symm)
  have sz_b10 : h0.size ≤ b10 := Nat.le_trans K8.1 (Nat.le_of_eq g10.symm)
  rw [← g10] at A10 D10 st10
  have F_room_a0_10 := F_room_a0_8.ext E10
  have E_a0_10 := E_a0_8.ext E10
  have F_definers_a0_10 := F_definers_a0_8.ext E10
  have S_DEFAULTCAPACITY_EMPTY_ELEMENTDATA_10 := S_DEFAULTCAPACITY_EMPTY_ELEMENTDATA_8.ext E10
  have F_pending_a0_10 := F_pending_a0_8.ext E10
  have F_made_a0_10 := F_made_a0_8.ext E10
  have A4_10 := A4_8.ext E10
  have K10 : Keep h0 h10 [a0] := K8.ext E10
  have Z10 : n0 ≤ h10.size := Nat.le_trans Z8 E10.1
  have F_modCount_b10 : Fld Z h10 b10 "java/util/AbstractList" "modCount" "I" (.int (0 : Int32)) := D10 (Or.inl (hw _ (List.mem_of_getElem? (i := 48) rfl))) (ty := .int) (by decide)
  have F_elementData_b10 : Fld Z h10 b10 "java/util/ArrayList" "elementData" "[Ljava/lang/Object;" .null := D10 (Or.inl (hw _ (List.mem_of_getElem? (i := 51) rfl))) (ty := (.array (.object "java/lang/Object"))) (by decide)
  have pre11 : ∀ t, Steps p.tables e below (T10.setTop (mkF m 20 #[.val (.ref a0)] [(.ref b10), (.ref b10), (.ref a0)])) t → Steps p.tables e below (s₁.setTop (entryFrame m #[(.ref a0)] 1)) t := fun t k => pre9 t (by
    show Steps p.tables e below (T8.setTop (mkF m 16 #[.val (.ref a0)] [(.ref a0)])) _
    refine st10 _ ?_
    show Steps p.tables e below (T10.setTop (mkF m 19 #[.val (.ref a0)] [(.ref b10), (.ref a0)])) _
    refine XS.dup X10.here hx rfl (hb hby d1_19) rfl rfl ?_
    exact k)
  obtain ⟨_, _, ⟨T12, L12, k12, n12⟩, -, X12, ⟨Lc12, hQ12, l12, y12, z12⟩, st12⟩ := X10.specialBack hx (y := (⟨"java/util/ArrayList", "<init>", "()V"⟩ : MethodName)) rfl hown (mvT hZ (hw _ (List.mem_of_getElem? (i := 31) rfl))) (mvT hZ (hw _ (List.mem_of_getElem? (i := 32) rfl))) (mvT hZ (hw _ (List.mem_of_getElem? (i := 33) rfl))) (by decide) (backOf (W := 2) (rm5 l Z aw hw [] b10 .null (.int (0 : Int32)) w_DEFAULTCAPACITY_EMPTY_ELEMENTDATA h10 n0 Z10 A10 F_elementData_b10 F_modCount_b10 g_b10 S_DEFAULTCAPACITY_EMPTY_ELEMENTDATA_10) hZ (hw _ (List.mem_of_getElem? (i := 33) rfl)) (hw _ (List.mem_of_getElem? (i := 30) rfl)) (by decide) (by decide)) (g := (mkF m 20 #[.val (.ref a0)] [(.ref b10), (.ref b10), (.ref a0)])) rfl (by rw [hml]; rfl) (Steps.refl _) (a := b10) (argsL := []) (rest := [(.ref b10), (.ref a0)]) (lenOf pd_0 rfl) rfl (by show 2 * 0 + _ ≤ _; exact Nat.le_of_eq rfl) (hb hby d1_20) (fun _ _ => ⟨rfl, e10, (by decide : 2 + 0 ≤ _), (by decide : 11 + 0 ≤ _)⟩)
  dsimp only [Pt.U, Pt.locs, Pt.cells, Pt.slots] at X12 l12 y12 z12 st12 hQ12
  subst l12 y12 z12
  obtain ⟨rfl, N12q, K12q, E12_a0, F12_a0_elementData, F12_a0_modCount⟩ := hQ12
  have N12 := Fr.app N8 N12q
  have F_room_a0_12 := F_room_a0_10.keep K12q (ninS ne_a0_b10 nin0)
  have E_a0_12 := E_a0_10.keep K12q
  have F_definers_a0_12 := F_definers_a0_10.keep K12q (ninS ne_a0_b10 nin0)
  have S_DEFAULTCAPACITY_EMPTY_ELEMENTDATA_12 := own_sta_keep S_DEFAULTCAPACITY_EMPTY_ELEMENTDATA_10 K12q (allS (own_exa_plain A10) all0)
  have F_pending_a0_12 := F_pending_a0_10.keep K12q (ninS ne_a0_b10 nin0)
  have F_made_a0_12 := F_made_a0_10.keep K12q (ninS ne_a0_b10 nin0)
  have A4_12 := A4_10.keep K12q
  have A10_12 := A10.keep K12q
  have F12_a0_elementData' : Fld Z T12.heap b10 "java/util/ArrayList" "elementData" "[Ljava/lang/Object;" (.ref w_DEFAULTCAPACITY_EMPTY_ELEMENTDATA) := F12_a0_elementData
  have F12_a0_modCount' : Fld Z T12.heap b10 "java/util/AbstractList" "modCount" "I" (.int (0 : Int32)) := F12_a0_modCount
  have K12 : Keep h0 T12.heap [a0] := K10.trans K12q (allS (Or.inr sz_b10) all0)
  have Z12 : n0 ≤ T12.heap.size := Nat.le_trans Z10 K12q.1
  have pre13 : ∀ t, Steps p.tables e below (T12.setTop (mkF m 23 #[.val (.ref a0)] [(.ref b10), (.ref a0)])) t → Steps p.tables e below (s₁.setTop (entryFrame m #[(.ref a0)] 1)) t := fun t k => pre11 t (by
    show Steps p.tables e below (T10.setTop (mkF m 20 #[.val (.ref a0)] [(.ref b10), (.ref b10), (.ref a0)])) _
    refine st12.trans ?_
    exact k)
  obtain ⟨T14, h14, X14, e14, W14, st14⟩ := putF X12 hx hZ hown (host := "") (Or.inl (hw _ (List.mem_of_getElem? (i := 52) rfl))) Via.refl rfl F_pending_a0_12 E_a0_12 (Or.inr ⟨(hw _ (List.mem_of_getElem? (i := 53) rfl)), rfl, hnm⟩) (hw _ (List.mem_of_getElem? (i := 2) rfl)) (ty := (.object "java/util/List")) (by decide) rfl rfl (g := (mkF m 23 #[.val (.ref a0)] [(.ref b10), (.ref a0)])) rfl rfl (hb hby d1_23)
  have F_room_a0_14 := F_room_a0_12.other W14 (Or.inr (slot_ne (Or.inl (hw _ (List.mem_of_getElem? (i := 62) rfl))) (Or.inr (hw _ (List.mem_of_getElem? (i := 53) rfl))) (by decide) (t := .long) (t' := (.object "java/util/List")) (by decide) (by decide)))
  have E_a0_14 := E_a0_12.wr W14
  have F_definers_a0_14 := F_definers_a0_12.other W14 (Or.inr (slot_ne (Or.inr (hw _ (List.mem_of_getElem? (i := 27) rfl))) (Or.inr (hw _ (List.mem_of_getElem? (i := 53) rfl))) (by decide) (t := (.object "java/util/Map")) (t' := (.object "java/util/List")) (by decide) (by decide)))
  have S_DEFAULTCAPACITY_EMPTY_ELEMENTDATA_14 := S_DEFAULTCAPACITY_EMPTY_ELEMENTDATA_12.wr W14
  have F_pending_a0_14 := F_pending_a0_12.same W14
  have F_made_a0_14 := F_made_a0_12.other W14 (Or.inr (slot_ne (Or.inr (hw _ (List.mem_of_getElem? (i := 55) rfl))) (Or.inr (hw _ (List.mem_of_getElem? (i := 53) rfl))) (by decide) (t := (.object "java/util/Map")) (t' := (.object "java/util/List")) (by decide) (by decide)))
  have A4_14 := A4_12.wr W14
  have A10_14 := A10_12.wr W14
  have F12_a0_modCount'_14 := F12_a0_modCount'.other W14 (Or.inl (Ne.symm ne_a0_b10))
  have F12_a0_elementData'_14 := F12_a0_elementData'.other W14 (Or.inl (Ne.symm ne_a0_b10))
  have K14 : Keep h0 h14 [a0] := K12.wr W14 (Or.inl (by simp))
  have N14 := Fr.snoc X14 N12 g_a0
  have Z14 : n0 ≤ h14.size := (Nat.le_trans Z12 (Nat.le_of_eq W14.size.symm))
  have pre15 : ∀ t, Steps p.tables e below (T14.setTop (mkF m 27 #[.val (.ref a0)] [(.ref a0)])) t → Steps p.tables e below (s₁.setTop (entryFrame m #[(.ref a0)] 1)) t := fun t k => pre13 t (by
    show Steps p.tables e below (T12.setTop (mkF m 23 #[.val (.ref a0)] [(.ref b10), (.ref a0)])) _
    refine st14 _ ?_
    show Steps p.tables e below (T14.setTop (mkF m 26 #[.val (.ref a0)] [])) _
    refine XS.aloadN X14.here hx rfl (hb hby d1_26) rfl rfl ?_
    exact k)
  obtain ⟨T16, h16, X16, e16, E16, A16, D16, -, st16⟩ := newO X14 hx hZ hown (hw _ (List.mem_of_getElem? (i := 10) rfl)) (hw _ (List.mem_of_getElem? (i := 11) rfl)) (hw _ (List.mem_of_getElem? (i := 12) rfl)) e14 (g := (mkF m 27 #[.val (.ref a0)] [(.ref a0)])) rfl (hb hby d1_27) (by decide) (by decide)
  obtain ⟨b16, g16⟩ : ∃ z, z = h14.size := ⟨_, rfl⟩
  have ne_b4_b16 : b4 ≠ b16 := Nat.ne_of_lt (Nat.lt_of_lt_of_le A4_14.lt (Nat.le_of_eq g16.symm))
  have ne_a0_b16 : a0 ≠ b16 := Nat.ne_of_lt (Nat.lt_of_lt_of_le F_room_a0_14.lt (Nat.le_of_eq g16.symm))
  have ne_b10_b16 : b10 ≠ b16 := Nat.ne_of_lt (Nat.lt_of_lt_of_le A10_14.lt (Nat.le_of_eq g16.symm))
  have g_b16 : n0 ≤ b16 := Nat.le_trans Z14 (Nat.le_of_eq g16.symm)
  have sz_b16 : h0.size ≤ b16 := Nat.le_trans K14.1 (Nat.le_of_eq g16.symm)
  rw [← g16] at A16 D16 st16
  have F_room_a0_16 := F_room_a0_14.ext E16
  have E_a0_16 := E_a0_14.ext E16
  have F_definers_a0_16 := F_definers_a0_14.ext E16
  have S_DEFAULTCAPACITY_EMPTY_ELEMENTDATA_16 := S_DEFAULTCAPACITY_EMPTY_ELEMENTDATA_14.ext E16
  have F_pending_a0_16 := F_pending_a0_14.ext E16
  have F_made_a0_16 := F_made_a0_14.ext E16
  have A4_16 := A4_14.ext E16
  have A10_16 := A10_14.ext E16
  have F12_a0_modCount'_16 := F12_a0_modCount'_14.ext E16
  have F12_a0_elementData'_16 := F12_a0_elementData'_14.ext E16
  have K16 : Keep h0 h16 [a0] := K14.ext E16
  have Z16 : n0 ≤ h16.size := Nat.le_trans Z14 E16.1
  have F_loadFactor_b16 : Fld Z h16 b16 "java/util/HashMap" "loadFactor" "F" (.float (0 : UInt32)) := D16 (Or.inr (hw _ (List.mem_of_getElem? (i := 25) rfl))) (ty := .float) (by decide)
  have pre17 : ∀ t, Steps p.tables e below (T16.setTop (mkF m 31 #[.val (.ref a0)] [(.ref b16), (.ref b16), (.ref a0)])) t → Steps p.tables e below (s₁.setTop (entryFrame m #[(.ref a0)] 1)) t := fun t k => pre15 t (by
    show Steps p.tables e below (T14.setTop (mkF m 27 #[.val (.ref a0)] [(.ref a0)])) _
    refine st16 _ ?_
    show Steps p.tables e below (T16.setTop (mkF m 30 #[.val (.ref a0)] [(.ref b16), (.ref a0)])) _
    refine XS.dup X16.here hx rfl (hb hby d1_30) rfl rfl ?_
    exact k)
  obtain ⟨_, _, ⟨T18, L18, k18, n18⟩, -, X18, ⟨Lc18, hQ18, l18, y18, z18⟩, st18⟩ := X16.specialBack hx (y := (⟨"java/util/HashMap", "<init>", "()V"⟩ : MethodName)) rfl hown (mvT hZ (hw _ (List.mem_of_getElem? (i := 13) rfl))) (mvT hZ (hw _ (List.mem_of_getElem? (i := 14) rfl))) (mvT hZ (hw _ (List.mem_of_getElem? (i := 15) rfl))) (by decide) (backOf (W := 2) (rm3 l Z aw hw [] b16 (.float (0 : UInt32)) h16 n0 Z16 A16 F_loadFactor_b16 g_b16) hZ (hw _ (List.mem_of_getElem? (i := 15) rfl)) (hw _ (List.mem_of_getElem? (i := 12) rfl)) (by decide) (by decide)) (g := (mkF m 31 #[.val (.ref a0)] [(.ref b16), (.ref b16), (.ref a0)])) rfl (by rw [hml]; rfl) (Steps.refl _) (a := b16) (argsL := []) (rest := [(.ref b16), (.ref a0)]) (lenOf pd_0 rfl) rfl (by show 2 * 0 + _ ≤ _; exact Nat.le_of_eq rfl) (hb hby d1_31) (fun _ _ => ⟨rfl, e16, (by decide : 3 + 0 ≤ _), (by decide : 19 + 0 ≤ _)⟩)
  dsimp only [Pt.U, Pt.locs, Pt.cells, Pt.slots] at X18 l18 y18 z18 st18 hQ18
  subst l18 y18 z18
  obtain ⟨rfl, N18q, K18q, E18_a0⟩ := hQ18
  have N18 := Fr.app N14 N18q
  have F_room_a0_18 := F_room_a0_16.keep K18q (ninS ne_a0_b16 nin0)
  have E_a0_18 := E_a0_16.keep K18q
  have F_definers_a0_18 := F_definers_a0_16.keep K18q (ninS ne_a0_b16 nin0)
  have S_DEFAULTCAPACITY_EMPTY_ELEMENTDATA_18 := own_sta_keep S_DEFAULTCAPACITY_EMPTY_ELEMENTDATA_16 K18q (allS (own_exa_plain A16) all0)
  have F_pending_a0_18 := F_pending_a0_16.keep K18q (ninS ne_a0_b16 nin0)
  have F_made_a0_18 := F_made_a0_16.keep K18q (ninS ne_a0_b16 nin0)
  have A4_18 := A4_16.keep K18q
  have A10_18 := A10_16.keep K18q
  have F12_a0_modCount'_18 := F12_a0_modCount'_16.keep K18q (ninS ne_b10_b16 nin0)
  have F12_a0_elementData'_18 := F12_a0_elementData'_16.keep K18q (ninS ne_b10_b16 nin0)
  have A16_18 := A16.keep K18q
  have K18 : Keep h0 T18.heap [a0] := K16.trans K18q (allS (Or.inr sz_b16) all0)
  have Z18 : n0 ≤ T18.heap.size := Nat.le_trans Z16 K18q.1
  have pre19 : ∀ t, Steps p.tables e below (T18.setTop (mkF m 34 #[.val (.ref a0)] [(.ref b16), (.ref a0)])) t → Steps p.tables e below (s₁.setTop (entryFrame m #[(.ref a0)] 1)) t := fun t k => pre17 t (by
    show Steps p.tables e below (T16.setTop (mkF m 31 #[.val (.ref a0)] [(.ref b16), (.ref b16), (.ref a0)])) _
    refine st18.trans ?_
    exact k)
  obtain ⟨T20, h20, X20, e20, W20, st20⟩ := putF X18 hx hZ hown (host := "") (Or.inl (hw _ (List.mem_of_getElem? (i := 54) rfl))) Via.refl rfl F_made_a0_18 E_a0_18 (Or.inr ⟨(hw _ (List.mem_of_getElem? (i := 55) rfl)), rfl, hnm⟩) (hw _ (List.mem_of_getElem? (i := 2) rfl)) (ty := (.object "java/util/Map")) (by decide) rfl rfl (g := (mkF m 34 #[.val (.ref a0)] [(.ref b16), (.ref a0)])) rfl rfl (hb hby d1_34)
  have F_room_a0_20 := F_room_a0_18.other W20 (Or.inr (slot_ne (Or.inl (hw _ (List.mem_of_getElem? (i := 62) rfl))) (Or.inr (hw _ (List.mem_of_getElem? (i := 55) rfl))) (by decide) (t := .long) (t' := (.object "java/util/Map")) (by decide) (by decide)))
  have E_a0_20 := E_a0_18.wr W20
  have F_definers_a0_20 := F_definers_a0_18.other W20 (Or.inr (slot_ne (Or.inr (hw _ (List.mem_of_getElem? (i := 27) rfl))) (Or.inr (hw _ (List.mem_of_getElem? (i := 55) rfl))) (by decide) (t := (.object "java/util/Map")) (t' := (.object "java/util/Map")) (by decide) (by decide)))
  have S_DEFAULTCAPACITY_EMPTY_ELEMENTDATA_20 := S_DEFAULTCAPACITY_EMPTY_ELEMENTDATA_18.wr W20
  have F_pending_a0_20 := F_pending_a0_18.other W20 (Or.inr (slot_ne (Or.inr (hw _ (List.mem_of_getElem? (i := 53) rfl))) (Or.inr (hw _ (List.mem_of_getElem? (i := 55) rfl))) (by decide) (t := (.object "java/util/List")) (t' := (.object "java/util/Map")) (by decide) (by decide)))
  have F_made_a0_20 := F_made_a0_18.same W20
  have A4_20 := A4_18.wr W20
  have A10_20 := A10_18.wr W20
  have F12_a0_modCount'_20 := F12_a0_modCount'_18.other W20 (Or.inl (Ne.symm ne_a0_b10))
  have F12_a0_elementData'_20 := F12_a0_elementData'_18.other W20 (Or.inl (Ne.symm ne_a0_b10))
  have A16_20 := A16_18.wr W20
  have K20 : Keep h0 h20 [a0] := K18.wr W20 (Or.inl (by simp))
  have N20 := Fr.snoc X20 N18 g_a0
  have Z20 : n0 ≤ h20.size := (Nat.le_trans Z18 (Nat.le_of_eq W20.size.symm))
  obtain ⟨fs, hr, hrun, hended, hW, hsame⟩ := X20.leave (v := none) (fun _ => rfl)
  refine ⟨_, _, pre19 _ ?_, hrun, hended, _, _, rfl, ?_, ⟨_, rfl⟩, hW, hsame.mono (by decide) (by decide)⟩
  · show Steps p.tables e below (T18.setTop (mkF m 34 #[.val (.ref a0)] [(.ref b16), (.ref a0)])) _
    refine st20 _ ?_
    show Steps p.tables e below (T20.setTop (mkF m 37 #[.val (.ref a0)] [])) _
    exact X20.returnOut hx Bd.returns (hb hby d1_37) hr
  · show Q1 Z a0 w_room_a0 u_definers_a0 w_DEFAULTCAPACITY_EMPTY_ELEMENTDATA u_pending_a0 u_made_a0 h0 n0 _ T20.heap _
    rw [e20]
    have hF_a0_room : w_room_a0 = f1_a0_room w_room_a0 := (by rfl)
    exact ⟨rfl, N20, K20, E_a0_20, (hF_a0_room ▸ F_room_a0_20)⟩
theorem d8_0 : decode prog_55_method_5_code 0 = .ok (.aload_n 0, 1) := by decide +kernel
theorem d8_1 : decode prog_55_method_5_code 1 = .ok (.dup, 1) := by decide +kernel
theorem d8_2 : decode prog_55_method_5_code 2 = .ok (.getfield 93, 3) := by decide +kernel
theorem d8_5 : decode prog_55_method_5_code 5 = .ok (.iload_n 1, 1) := by decide +kernel
theorem d8_6 : decode prog_55_method_5_code 6 = .ok (.i2l, 1) := by decide +kernel
theorem d8_7 : decode prog_55_method_5_code 7 = .ok (.ladd, 1) := by decide +kernel
theorem d8_8 : decode prog_55_method_5_code 8 = .ok (.putfield 93, 3) := by decide +kernel
theorem ef_8 (m : MethodId) (x0 : Addr) (x1 : Int32) : entryFrame m #[(.ref x0), (.int x1)] 2 = mkF m 0 #[.val (.ref x0), .val (.int x1)] [] := by first | (simp [entryFrame, mkF, argsToLocals, Value.category]; done) | rfl
def f8_a0_room (p1 : Int32) (w_room_a0 : Int64) : Int64 := (w_room_a0 + (p1.toInt64))
def Q8 (Z : State) (a0 : Addr) (p1 : Int32) (w_room_a0 : Int64) (h0 : Heap) (n0 : Nat) (v : Option Value) (h : Heap) (L : List Loc) : Prop := v = none ∧ Fr n0 L ∧ Keep h0 h [a0] ∧ Exa Z h a0 "com/example/covenant/covenant/model/InheritedNames" ∧ Fld Z h a0 "com/example/covenant/covenant/model/InheritedNames" "room" "J" (.long (f8_a0_room p1 w_room_a0))
theorem d8_11 : decode prog_55_method_5_code 11 = .ok (.return_, 1) := by decide +kernel
set_option maxRecDepth 65536 in
set_option maxHeartbeats 40000000 in
theorem rm8 (l : Launch) (Z : State) (aw : Array Value) (hw : ∀ d ∈ tables_1, d.before aw Z = true) (ws : List Jvm.Cond) (a0 : Addr) (p1 : Int32) (w_room_a0 : Int64) (h0 : Heap) (n0 : Nat) (Z0 : n0 ≤ h0.size) (F_room_a0 : Fld Z h0 a0 "com/example/covenant/covenant/model/InheritedNames" "room" "J" (.long w_room_a0)) (E_a0 : Exa Z h0 a0 "com/example/covenant/covenant/model/InheritedNames") (g_a0 : n0 ≤ a0) :
    MetFree l (⟨"com/example/covenant/covenant/model/InheritedNames", "makeRoom", "(I)V"⟩ : MethodName) (head1 (Jvm.Cond.code (⟨"com/example/covenant/covenant/model/InheritedNames", "makeRoom", "(I)V"⟩ : MethodName) prog_55_method_5_code 2 none :: ws) ({ frames := 0, cells := 0, slots := 0, locals := 0 } : Room)) (fun a U => a = #[(.ref a0), (.int p1)] ∧ Z.Warmed39 U.vm ∧ U.heap = h0) (fun _ _ _ _ _ => True) (fun _ U o U' => ∃ v L, o = .returned v ∧ Q8 Z a0 p1 w_room_a0 h0 n0 v U'.heap L ∧ FrameEnd U o U' L ({ frames := 0, cells := 0, slots := 0, locals := 0 } : Room).cells ({ frames := 0, cells := 0, slots := 0, locals := 0 } : Room).slots) := by
  refine MetFree.of_bodySF (plainFor_of_name pn_0) hisR ?_
  intro p e s m args below meth c s₁ Bd hml0 hP hK
  obtain ⟨rfl, hZ, hh⟩ := hP
  have hx := Bd.exec
  have hby := Bd.bytes
  have hml : c.maxLocals = 2 := hml0
  have hown : s.vm.findClass "com/example/covenant/covenant/model/InheritedNames" = some m.cls := findClass_of_methodNamed Bd.named
  have hnm := (name_of_methodNamed Bd.named Bd.method).1
  have X0 : Stand p l e ({ frames := 0, cells := 0, slots := 0, locals := 0 } : Room) s m #[(.ref a0), (.int p1)] below meth c s₁ [] 0 0 := Stand.of_body Bd
  have e0 : s₁.heap = h0 := by rw [← hh, Bd.state]; rfl
  have N0 := Fr.nil n0
  have pre0 : ∀ t, Steps p.tables e below (s₁.setTop (mkF m 0 #[.val (.ref a0), .val (.int p1)] [])) t → Steps p.tables e below (s₁.setTop (entryFrame m #[(.ref a0), (.int p1)] 2)) t := fun t k => castTop (ef_8 m a0 p1) k
  have pre1 : ∀ t, Steps p.tables e below (s₁.setTop (mkF m 2 #[.val (.ref a0), .val (.int p1)] [(.ref a0), (.ref a0)])) t → Steps p.tables e below (s₁.setTop (entryFrame m #[(.ref a0), (.int p1)] 2)) t := fun t k => pre0 t (by
    show Steps p.tables e below (s₁.setTop (mkF m 0 #[.val (.ref a0), .val (.int p1)] [])) _
    refine XS.aloadN X0.here hx rfl (hb hby d8_0) rfl rfl ?_
    show Steps p.tables e below (s₁.setTop (mkF m 1 #[.val (.ref a0), .val (.int p1)] [(.ref a0)])) _
    refine XS.dup X0.here hx rfl (hb hby d8_1) rfl rfl ?_
    exact k)
  obtain ⟨T2, X2, e2, st2⟩ := getF X0 hx hZ hown (host := "") (Or.inl (hw _ (List.mem_of_getElem? (i := 61) rfl))) Via.refl e0 F_room_a0 (g := (mkF m 2 #[.val (.ref a0), .val (.int p1)] [(.ref a0), (.ref a0)])) rfl rfl (hb hby d8_2)
  have pre3 : ∀ t, Steps p.tables e below (T2.setTop (mkF m 8 #[.val (.ref a0), .val (.int p1)] [(.long (w_room_a0 + (p1.toInt64))), (.ref a0)])) t → Steps p.tables e below (s₁.setTop (entryFrame m #[(.ref a0), (.int p1)] 2)) t := fun t k => pre1 t (by
    show Steps p.tables e below (s₁.setTop (mkF m 2 #[.val (.ref a0), .val (.int p1)] [(.ref a0), (.ref a0)])) _
    refine st2 _ ?_
    show Steps p.tables e below (T2.setTop (mkF m 5 #[.val (.ref a0), .val (.int p1)] [(.long w_room_a0), (.ref a0)])) _
    refine XS.iloadN X2.here hx rfl (hb hby d8_5) rfl ?_
    show Steps p.tables e below (T2.setTop (mkF m 6 #[.val (.ref a0), .val (.int p1)] [(.int p1), (.long w_room_a0), (.ref a0)])) _
    refine XS.i2l X2.here hx rfl (hb hby d8_6) rfl ?_
    show Steps p.tables e below (T2.setTop (mkF m 7 #[.val (.ref a0), .val (.int p1)] [(.long (p1.toInt64)), (.long w_room_a0), (.ref a0)])) _
    refine XS.ladd X2.here hx rfl (hb hby d8_7) rfl ?_
    exact k)
  obtain ⟨T4, h4, X4, e4, W4, st4⟩ := putF X2 hx hZ hown (host := "") (Or.inl (hw _ (List.mem_of_getElem? (i := 61) rfl))) Via.refl e2 F_room_a0 E_a0 (Or.inl (hw _ (List.mem_of_getElem? (i := 62) rfl))) (hw _ (List.mem_of_getElem? (i := 2) rfl)) (ty := .long) (by decide) rfl rfl (g := (mkF m 8 #[.val (.ref a0), .val (.int p1)] [(.long (w_room_a0 + (p1.toInt64))), (.ref a0)])) rfl rfl (hb hby d8_8)
  have F_room_a0_4 := F_room_a0.same W4
  have E_a0_4 := E_a0.wr W4
  have K4 : Keep h0 h4 [a0] := (Keep.refl h0 [a0]).wr W4 (Or.inl (by simp))
  have N4 := Fr.snoc X4 N0 g_a0
  have Z4 : n0 ≤ h4.size := (Nat.le_trans Z0 (Nat.le_of_eq W4.size.symm))
  obtain ⟨fs, hr, hrun, hended, hW, hsame⟩ := X4.leave (v := none) (fun _ => rfl)
  refine ⟨_, _, pre3 _ ?_, hrun, hended, _, _, rfl, ?_, ⟨_, rfl⟩, hW, hsame.mono (by decide) (by decide)⟩
  · show Steps p.tables e below (T2.setTop (mkF m 8 #[.val (.ref a0), .val (.int p1)] [(.long (w_room_a0 + (p1.toInt64))), (.ref a0)])) _
    refine st4 _ ?_
    show Steps p.tables e below (T4.setTop (mkF m 11 #[.val (.ref a0), .val (.int p1)] [])) _
    exact X4.returnOut hx Bd.returns (hb hby d8_11) hr
  · show Q8 Z a0 p1 w_room_a0 h0 n0 _ T4.heap _
    rw [e4]
    have hF_a0_room : (w_room_a0 + (p1.toInt64)) = f8_a0_room p1 w_room_a0 := (by rfl)
    exact ⟨rfl, N4, K4, E_a0_4, (hF_a0_room ▸ F_room_a0_4)⟩
theorem d9_0 : decode prog_55_method_6_code 0 = .ok (.aload_n 0, 1) := by decide +kernel
theorem d9_1 : decode prog_55_method_6_code 1 = .ok (.getfield 93, 3) := by decide +kernel
theorem d9_4 : decode prog_55_method_6_code 4 = .ok (.lconst 0, 1) := by decide +kernel
theorem d9_5 : decode prog_55_method_6_code 5 = .ok (.lcmp, 1) := by decide +kernel
theorem d9_6 : decode prog_55_method_6_code 6 = .ok (.ifCond .ne 5, 3) := by decide +kernel
theorem d9_9 : decode prog_55_method_6_code 9 = .ok (.iconst 0, 1) := by decide +kernel
theorem d9_11 : decode prog_55_method_6_code 11 = .ok (.aload_n 0, 1) := by decide +kernel
theorem d9_12 : decode prog_55_method_6_code 12 = .ok (.dup, 1) := by decide +kernel
theorem d9_13 : decode prog_55_method_6_code 13 = .ok (.getfield 93, 3) := by decide +kernel
theorem d9_16 : decode prog_55_method_6_code 16 = .ok (.lconst 1, 1) := by decide +kernel
theorem d9_17 : decode prog_55_method_6_code 17 = .ok (.lsub, 1) := by decide +kernel
theorem d9_18 : decode prog_55_method_6_code 18 = .ok (.putfield 93, 3) := by decide +kernel
theorem d9_21 : decode prog_55_method_6_code 21 = .ok (.iconst 1, 1) := by decide +kernel
theorem ef_9 (m : MethodId) (x0 : Addr) : entryFrame m #[(.ref x0)] 1 = mkF m 0 #[.val (.ref x0)] [] := by first | (simp [entryFrame, mkF, argsToLocals, Value.category]; done) | rfl
def f9 (w_room_a0 : Int64) : Int32 := (if w_room_a0 = (0 : Int64) then (0 : Int32) else (1 : Int32))
def f9_a0_room (w_room_a0 : Int64) : Int64 := (if w_room_a0 = (0 : Int64) then w_room_a0 else (w_room_a0 - (1 : Int64)))
def Q9 (Z : State) (a0 : Addr) (w_room_a0 : Int64) (h0 : Heap) (n0 : Nat) (v : Option Value) (h : Heap) (L : List Loc) : Prop := v = some (.int (f9 w_room_a0)) ∧ Fr n0 L ∧ Keep h0 h [a0] ∧ Exa Z h a0 "com/example/covenant/covenant/model/InheritedNames" ∧ Fld Z h a0 "com/example/covenant/covenant/model/InheritedNames" "room" "J" (.long (f9_a0_room w_room_a0))
theorem d9_10 : decode prog_55_method_6_code 10 = .ok (.ireturn, 1) := by decide +kernel
theorem d9_22 : decode prog_55_method_6_code 22 = .ok (.ireturn, 1) := by decide +kernel
set_option maxRecDepth 65536 in
set_option maxHeartbeats 40000000 in
theorem rm9 (l : Launch) (Z : State) (aw : Array Value) (hw : ∀ d ∈ tables_1, d.before aw Z = true) (ws : List Jvm.Cond) (a0 : Addr) (w_room_a0 : Int64) (h0 : Heap) (n0 : Nat) (Z0 : n0 ≤ h0.size) (F_room_a0 : Fld Z h0 a0 "com/example/covenant/covenant/model/InheritedNames" "room" "J" (.long w_room_a0)) (E_a0 : Exa Z h0 a0 "com/example/covenant/covenant/model/InheritedNames") (g_a0 : n0 ≤ a0) :
    MetFree l (⟨"com/example/covenant/covenant/model/InheritedNames", "takeRoom", "()Z"⟩ : MethodName) (head1 (Jvm.Cond.code (⟨"com/example/covenant/covenant/model/InheritedNames", "takeRoom", "()Z"⟩ : MethodName) prog_55_method_6_code 1 (some .boolean) :: ws) ({ frames := 0, cells := 0, slots := 0, locals := 0 } : Room)) (fun a U => a = #[(.ref a0)] ∧ Z.Warmed39 U.vm ∧ U.heap = h0) (fun _ _ _ _ _ => True) (fun _ U o U' => ∃ v L, o = .returned v ∧ Q9 Z a0 w_room_a0 h0 n0 v U'.heap L ∧ FrameEnd U o U' L ({ frames := 0, cells := 0, slots := 0, locals := 0 } : Room).cells ({ frames := 0, cells := 0, slots := 0, locals := 0 } : Room).slots) := by
  refine MetFree.of_bodySF (plainFor_of_name pn_0) hisR ?_
  intro p e s m args below meth c s₁ Bd hml0 hP hK
  obtain ⟨rfl, hZ, hh⟩ := hP
  have hx := Bd.exec
  have hby := Bd.bytes
  have hml : c.maxLocals = 1 := hml0
  have hown : s.vm.findClass "com/example/covenant/covenant/model/InheritedNames" = some m.cls := findClass_of_methodNamed Bd.named
  have hnm := (name_of_methodNamed Bd.named Bd.method).1
  have X0 : Stand p l e ({ frames := 0, cells := 0, slots := 0, locals := 0 } : Room) s m #[(.ref a0)] below meth c s₁ [] 0 0 := Stand.of_body Bd
  have e0 : s₁.heap = h0 := by rw [← hh, Bd.state]; rfl
  have N0 := Fr.nil n0
  have pre0 : ∀ t, Steps p.tables e below (s₁.setTop (mkF m 0 #[.val (.ref a0)] [])) t → Steps p.tables e below (s₁.setTop (entryFrame m #[(.ref a0)] 1)) t := fun t k => castTop (ef_9 m a0) k
  have pre1 : ∀ t, Steps p.tables e below (s₁.setTop (mkF m 1 #[.val (.ref a0)] [(.ref a0)])) t → Steps p.tables e below (s₁.setTop (entryFrame m #[(.ref a0)] 1)) t := fun t k => pre0 t (by
    show Steps p.tables e below (s₁.setTop (mkF m 0 #[.val (.ref a0)] [])) _
    refine XS.aloadN X0.here hx rfl (hb hby d9_0) rfl rfl ?_
    exact k)
  obtain ⟨T2, X2, e2, st2⟩ := getF X0 hx hZ hown (host := "") (Or.inl (hw _ (List.mem_of_getElem? (i := 61) rfl))) Via.refl e0 F_room_a0 (g := (mkF m 1 #[.val (.ref a0)] [(.ref a0)])) rfl rfl (hb hby d9_1)
  have pre3 : ∀ t, Steps p.tables e below (T2.setTop (mkF m 6 #[.val (.ref a0)] [(.int (lcmpW w_room_a0 (0 : Int64)))])) t → Steps p.tables e below (s₁.setTop (entryFrame m #[(.ref a0)] 1)) t := fun t k => pre1 t (by
    show Steps p.tables e below (s₁.setTop (mkF m 1 #[.val (.ref a0)] [(.ref a0)])) _
    refine st2 _ ?_
    show Steps p.tables e below (T2.setTop (mkF m 4 #[.val (.ref a0)] [(.long w_room_a0)])) _
    refine XS.lconst X2.here hx rfl (hb hby d9_4) ?_
    show Steps p.tables e below (T2.setTop (mkF m 5 #[.val (.ref a0)] [(.long (0 : Int64)), (.long w_room_a0)])) _
    refine XS.lcmp X2.here hx rfl (hb hby d9_5) rfl ?_
    exact k)
  by_cases hc4 : w_room_a0 = (0 : Int64)
  · obtain ⟨fs, hr, hrun, hended, hW, hsame⟩ := X2.leave (v := some (.int (0 : Int32))) (fun h => by rw [Bd.returns] at h; cases h)
    refine ⟨_, _, pre3 _ ?_, hrun, hended, _, _, rfl, ?_, ⟨_, rfl⟩, hW, hsame.mono (by decide) (by decide)⟩
    · show Steps p.tables e below (T2.setTop (mkF m 6 #[.val (.ref a0)] [(.int (lcmpW w_room_a0 (0 : Int64)))])) _
      refine XS.ifNo X2.here hx rfl (hb hby d9_6) rfl ((if0 _ _).trans (teq ((lw_eq w_room_a0 (0 : Int64)).mpr hc4)).2) ?_
      show Steps p.tables e below (T2.setTop (mkF m 9 #[.val (.ref a0)] [])) _
      refine XS.iconst X2.here hx rfl (hb hby d9_9) ?_
      show Steps p.tables e below (T2.setTop (mkF m 10 #[.val (.ref a0)] [(.int (0 : Int32))])) _
      exact retN X2 hx (t := .boolean) Bd.returns (by simp) (hb hby d9_10) hr
    · show Q9 Z a0 w_room_a0 h0 n0 _ T2.heap _
      rw [e2]
      have hF_a0_room : w_room_a0 = f9_a0_room w_room_a0 := (by simp only [f9_a0_room, if_pos hc4])
      exact ⟨congrArg (fun z => some (Value.int z)) (by simp only [f9, if_pos hc4]), N0, (Keep.refl h0 [a0]), E_a0, (hF_a0_room ▸ F_room_a0)⟩
  · have pre5 : ∀ t, Steps p.tables e below (T2.setTop (mkF m 13 #[.val (.ref a0)] [(.ref a0), (.ref a0)])) t → Steps p.tables e below (s₁.setTop (entryFrame m #[(.ref a0)] 1)) t := fun t k => pre3 t (by
      show Steps p.tables e below (T2.setTop (mkF m 6 #[.val (.ref a0)] [(.int (lcmpW w_room_a0 (0 : Int64)))])) _
      refine XS.ifYes X2.here hx rfl (pc0 := 6) (pc' := 11) rfl (hb hby d9_6) rfl ((if0 _ _).trans (feq (fun q => hc4 ((lw_eq w_room_a0 (0 : Int64)).mp q))).2) (by decide) (by decide) ?_
      show Steps p.tables e below (T2.setTop (mkF m 11 #[.val (.ref a0)] [])) _
      refine XS.aloadN X2.here hx rfl (hb hby d9_11) rfl rfl ?_
      show Steps p.tables e below (T2.setTop (mkF m 12 #[.val (.ref a0)] [(.ref a0)])) _
      refine XS.dup X2.here hx rfl (hb hby d9_12) rfl rfl ?_
      exact k)
    obtain ⟨T6, X6, e6, st6⟩ := getF X2 hx hZ hown (host := "") (Or.inl (hw _ (List.mem_of_getElem? (i := 61) rfl))) Via.refl e2 F_room_a0 (g := (mkF m 13 #[.val (.ref a0)] [(.ref a0), (.ref a0)])) rfl rfl (hb hby d9_13)
    have pre7 : ∀ t, Steps p.tables e below (T6.setTop (mkF m 18 #[.val (.ref a0)] [(.long (w_room_a0 - (1 : Int64))), (.ref a0)])) t → Steps p.tables e below (s₁.setTop (entryFrame m #[(.ref a0)] 1)) t := fun t k => pre5 t (by
      show Steps p.tables e below (T2.setTop (mkF m 13 #[.val (.ref a0)] [(.ref a0), (.ref a0)])) _
      refine st6 _ ?_
      show Steps p.tables e below (T6.setTop (mkF m 16 #[.val (.ref a0)] [(.long w_room_a0), (.ref a0)])) _
      refine XS.lconst X6.here hx rfl (hb hby d9_16) ?_
      show Steps p.tables e below (T6.setTop (mkF m 17 #[.val (.ref a0)] [(.long (1 : Int64)), (.long w_room_a0), (.ref a0)])) _
      refine XS.lsub X6.here hx rfl (hb hby d9_17) rfl ?_
      exact k)
    obtain ⟨T8, h8, X8, e8, W8, st8⟩ := putF X6 hx hZ hown (host := "") (Or.inl (hw _ (List.mem_of_getElem? (i := 61) rfl))) Via.refl e6 F_room_a0 E_a0 (Or.inl (hw _ (List.mem_of_getElem? (i := 62) rfl))) (hw _ (List.mem_of_getElem? (i := 2) rfl)) (ty := .long) (by decide) rfl rfl (g := (mkF m 18 #[.val (.ref a0)] [(.long (w_room_a0 - (1 : Int64))), (.ref a0)])) rfl rfl (hb hby d9_18)
    have F_room_a0_8 := F_room_a0.same W8
    have E_a0_8 := E_a0.wr W8
    have K8 : Keep h0 h8 [a0] := (Keep.refl h0 [a0]).wr W8 (Or.inl (by simp))
    have N8 := Fr.snoc X8 N0 g_a0
    have Z8 : n0 ≤ h8.size := (Nat.le_trans Z0 (Nat.le_of_eq W8.size.symm))
    obtain ⟨fs, hr, hrun, hended, hW, hsame⟩ := X8.leave (v := some (.int (1 : Int32))) (fun h => by rw [Bd.returns] at h; cases h)
    refine ⟨_, _, pre7 _ ?_, hrun, hended, _, _, rfl, ?_, ⟨_, rfl⟩, hW, hsame.mono (by decide) (by decide)⟩
    · show Steps p.tables e below (T6.setTop (mkF m 18 #[.val (.ref a0)] [(.long (w_room_a0 - (1 : Int64))), (.ref a0)])) _
      refine st8 _ ?_
      show Steps p.tables e below (T8.setTop (mkF m 21 #[.val (.ref a0)] [])) _
      refine XS.iconst X8.here hx rfl (hb hby d9_21) ?_
      show Steps p.tables e below (T8.setTop (mkF m 22 #[.val (.ref a0)] [(.int (1 : Int32))])) _
      exact retN X8 hx (t := .boolean) Bd.returns (by simp) (hb hby d9_22) hr
    · show Q9 Z a0 w_room_a0 h0 n0 _ T8.heap _
      rw [e8]
      have hF_a0_room : (w_room_a0 - (1 : Int64)) = f9_a0_room w_room_a0 := (by simp only [f9_a0_room, if_neg hc4])
      exact ⟨congrArg (fun z => some (Value.int z)) (by simp only [f9, if_neg hc4]), N8, K8, E_a0_8, (hF_a0_room ▸ F_room_a0_8)⟩
theorem d10_0 : decode jdk_29_method_66_code 0 = .ok (.lload_n 0, 1) := by decide +kernel
theorem d10_1 : decode jdk_29_method_66_code 1 = .ok (.lload_n 2, 1) := by decide +kernel
theorem d10_2 : decode jdk_29_method_66_code 2 = .ok (.lcmp, 1) := by decide +kernel
theorem d10_3 : decode jdk_29_method_66_code 3 = .ok (.ifCond .lt 7, 3) := by decide +kernel
theorem d10_10 : decode jdk_29_method_66_code 10 = .ok (.lload_n 2, 1) := by decide +kernel
theorem d10_6 : decode jdk_29_method_66_code 6 = .ok (.lload_n 0, 1) := by decide +kernel
theorem d10_7 : decode jdk_29_method_66_code 7 = .ok (.goto 4, 3) := by decide +kernel
theorem ef_10 (m : MethodId) (x0 : Int64) (x1 : Int64) : entryFrame m #[(.long x0), (.long x1)] 4 = mkF m 0 #[.val (.long x0), .second, .val (.long x1), .second] [] := by first | (simp [entryFrame, mkF, argsToLocals, Value.category]; done) | rfl
def f10 (q0 : Int64) (q1 : Int64) : Int64 := (let j3 : Int64 := (if q0 < q1 then q1 else q0); j3)
def Q10 (Z : State) (q0 : Int64) (q1 : Int64) (h0 : Heap) (n0 : Nat) (v : Option Value) (h : Heap) (L : List Loc) : Prop := v = some (.long (f10 q0 q1)) ∧ Fr n0 L ∧ h = h0
theorem d10_11 : decode jdk_29_method_66_code 11 = .ok (.lreturn, 1) := by decide +kernel
set_option maxRecDepth 65536 in
set_option maxHeartbeats 40000000 in
theorem rm10 (l : Launch) (Z : State) (aw : Array Value) (hw : ∀ d ∈ tables_1, d.before aw Z = true) (ws : List Jvm.Cond) (q0 : Int64) (q1 : Int64) (h0 : Heap) (n0 : Nat) (Z0 : n0 ≤ h0.size) :
    MetFree l (⟨"java/lang/Math", "max", "(JJ)J"⟩ : MethodName) (head1 (Jvm.Cond.code (⟨"java/lang/Math", "max", "(JJ)J"⟩ : MethodName) jdk_29_method_66_code 4 (some .long) :: ws) ({ frames := 0, cells := 0, slots := 0, locals := 0 } : Room)) (fun a U => a = #[(.long q0), (.long q1)] ∧ Z.Warmed39 U.vm ∧ U.heap = h0) (fun _ _ _ _ _ => True) (fun _ U o U' => ∃ v L, o = .returned v ∧ Q10 Z q0 q1 h0 n0 v U'.heap L ∧ FrameEnd U o U' L ({ frames := 0, cells := 0, slots := 0, locals := 0 } : Room).cells ({ frames := 0, cells := 0, slots := 0, locals := 0 } : Room).slots) := by
  refine MetFree.of_bodySF (Jvm.Free.JP.mathPlain rfl (by decide +kernel)) hisR ?_
  intro p e s m args below meth c s₁ Bd hml0 hP hK
  obtain ⟨rfl, hZ, hh⟩ := hP
  have hx := Bd.exec
  have hby := Bd.bytes
  have hml : c.maxLocals = 4 := hml0
  have hown : s.vm.findClass "java/lang/Math" = some m.cls := findClass_of_methodNamed Bd.named
  have hnm := (name_of_methodNamed Bd.named Bd.method).1
  have X0 : Stand p l e ({ frames := 0, cells := 0, slots := 0, locals := 0 } : Room) s m #[(.long q0), (.long q1)] below meth c s₁ [] 0 0 := Stand.of_body Bd
  have e0 : s₁.heap = h0 := by rw [← hh, Bd.state]; rfl
  have N0 := Fr.nil n0
  have pre0 : ∀ t, Steps p.tables e below (s₁.setTop (mkF m 0 #[.val (.long q0), .second, .val (.long q1), .second] [])) t → Steps p.tables e below (s₁.setTop (entryFrame m #[(.long q0), (.long q1)] 4)) t := fun t k => castTop (ef_10 m q0 q1) k
  have pre1 : ∀ t, Steps p.tables e below (s₁.setTop (mkF m 3 #[.val (.long q0), .second, .val (.long q1), .second] [(.int (lcmpW q0 q1))])) t → Steps p.tables e below (s₁.setTop (entryFrame m #[(.long q0), (.long q1)] 4)) t := fun t k => pre0 t (by
    show Steps p.tables e below (s₁.setTop (mkF m 0 #[.val (.long q0), .second, .val (.long q1), .second] [])) _
    refine XS.lloadN X0.here hx rfl (hb hby d10_0) rfl ?_
    show Steps p.tables e below (s₁.setTop (mkF m 1 #[.val (.long q0), .second, .val (.long q1), .second] [(.long q0)])) _
    refine XS.lloadN X0.here hx rfl (hb hby d10_1) rfl ?_
    show Steps p.tables e below (s₁.setTop (mkF m 2 #[.val (.long q0), .second, .val (.long q1), .second] [(.long q1), (.long q0)])) _
    refine XS.lcmp X0.here hx rfl (hb hby d10_2) rfl ?_
    exact k)
  obtain ⟨j3, hj3, pre4⟩ : ∃ (j3 : Int64), j3 = (if q0 < q1 then q1 else q0) ∧ ∀ t, Steps p.tables e below (s₁.setTop (mkF m 11 #[.val (.long q0), .second, .val (.long q1), .second] [(.long j3)])) t → Steps p.tables e below (s₁.setTop (entryFrame m #[(.long q0), (.long q1)] 4)) t := by
    by_cases hc2 : q0 < q1
    · exact ⟨q1, (by rw [if_pos hc2]), fun t k => pre1 t (by
        show Steps p.tables e below (s₁.setTop (mkF m 3 #[.val (.long q0), .second, .val (.long q1), .second] [(.int (lcmpW q0 q1))])) _
        refine XS.ifYes X0.here hx rfl (pc0 := 3) (pc' := 10) rfl (hb hby d10_3) rfl ((if0 _ _).trans (tlt ((lw_lt q0 q1).mpr hc2)).1) (by decide) (by decide) ?_
        show Steps p.tables e below (s₁.setTop (mkF m 10 #[.val (.long q0), .second, .val (.long q1), .second] [])) _
        refine XS.lloadN X0.here hx rfl (hb hby d10_10) rfl ?_
        exact k)⟩
    · exact ⟨q0, (by rw [if_neg hc2]), fun t k => pre1 t (by
        show Steps p.tables e below (s₁.setTop (mkF m 3 #[.val (.long q0), .second, .val (.long q1), .second] [(.int (lcmpW q0 q1))])) _
        refine XS.ifNo X0.here hx rfl (hb hby d10_3) rfl ((if0 _ _).trans (flt (fun q => hc2 ((lw_lt q0 q1).mp q))).1) ?_
        show Steps p.tables e below (s₁.setTop (mkF m 6 #[.val (.long q0), .second, .val (.long q1), .second] [])) _
        refine XS.lloadN X0.here hx rfl (hb hby d10_6) rfl ?_
        show Steps p.tables e below (s₁.setTop (mkF m 7 #[.val (.long q0), .second, .val (.long q1), .second] [(.long q0)])) _
        refine XS.goto X0.here hx rfl (pc0 := 7) (pc' := 11) rfl (hb hby d10_7) (by decide) (by decide) ?_
        exact k)⟩
  obtain ⟨fs, hr, hrun, hended, hW, hsame⟩ := X0.leave (v := some (.long j3)) (fun h => by rw [Bd.returns] at h; cases h)
  refine ⟨_, _, pre4 _ ?_, hrun, hended, _, _, rfl, ?_, ⟨_, rfl⟩, hW, hsame.mono (by decide) (by decide)⟩
  · show Steps p.tables e below (s₁.setTop (mkF m 11 #[.val (.long q0), .second, .val (.long q1), .second] [(.long j3)])) _
    jvm_step X0.here [X0.here.top, hx, (hb hby d10_11), X0.method', Bd.returns, narrow]
    first | (intro acts; rw [hr _ acts rfl rfl rfl]) | rw [hr _ _ rfl rfl rfl]
    exact Steps.refl _
  · show Q10 Z q0 q1 h0 n0 _ s₁.heap _
    rw [e0]
    exact ⟨congrArg (fun z => some (Value.long z)) (by subst hj3; rfl), N0, rfl⟩
theorem pn_1 : plainName "com/example/covenant/covenant/model/InheritedNamesTakeRoomPinLaw" = true := by first | (simp [plainName, overriddenIn]; done) | decide +kernel
theorem pd_1 : parseMethodDescriptor "(I)V" = some ⟨[.int], none⟩ := by decide +kernel
theorem pd_2 : parseMethodDescriptor "()Z" = some ⟨[], some .boolean⟩ := by decide +kernel
theorem pd_3 : parseMethodDescriptor "(JJ)J" = some ⟨[.long, .long], some .long⟩ := by decide +kernel
theorem ef_0 (m : MethodId) (x0 : Int32) (x1 : Int32) (x2 : Int32) : entryFrame m #[(.int x0), (.int x1), (.int x2)] maxLocals = mkF m 0 #[.val (.int x0), .val (.int x1), .val (.int x2), .unset, .unset, .unset, .unset, .unset, .unset, .unset, .unset, .unset, .unset, .unset, .unset, .unset] [] := by first | (simp [entryFrame, mkF, argsToLocals, Value.category, maxLocals]; done) | rfl
def f0 (p0 : Int32) (p1 : Int32) (p2 : Int32) : Int32 := (let v2 : Int32 := (p0 &&& (2147483647 : Int32)); (let v5 : Int32 := (p1 &&& (2147483647 : Int32)); (let j9 : Int32 := (if (p2 &&& (1 : Int32)) = (0 : Int32) then (0 : Int32) else (1 : Int32)); (let v12 : Int32 := (((p2.toUInt32 >>> ((1 : Int32) &&& 31).toUInt32).toInt32) &&& (3 : Int32)); (if j9 = (0 : Int32) then (let v23 : Int64 := ((v2.toInt64) + (0 : Int64)); (let v28 : Int32 := (f9 ((0 : Int64) + (v2.toInt64))); (let v33 : Int32 := (f9 (f9_a0_room ((0 : Int64) + (v2.toInt64)))); (let v40 : Int64 := ((f10 (v23 - (2 : Int64)) (0 : Int64)) + (v12.toInt64)); (let v45 : Int32 := (f9 ((f9_a0_room (f9_a0_room ((0 : Int64) + (v2.toInt64)))) + (v12.toInt64))); (let v50 : Int32 := (f9 (f9_a0_room ((f9_a0_room (f9_a0_room ((0 : Int64) + (v2.toInt64)))) + (v12.toInt64)))); (let j54 : Int32 := (if (0 : Int64) < v23 then (1 : Int32) else (0 : Int32)); (let j72 : Int32 := (if v28 = j54 then (let j59 : Int32 := (if (1 : Int64) < v23 then (1 : Int32) else (0 : Int32)); (if v33 = j59 then (let j64 : Int32 := (if (0 : Int64) < v40 then (1 : Int32) else (0 : Int32)); (if v45 = j64 then (let j69 : Int32 := (if (1 : Int64) < v40 then (1 : Int32) else (0 : Int32)); (if v50 = j69 then (1 : Int32) else (0 : Int32))) else (0 : Int32))) else (0 : Int32))) else (0 : Int32)); (nar .boolean j72))))))))) else (let v77 : Int64 := ((v2.toInt64) + (v5.toInt64)); (let v82 : Int32 := (f9 (((0 : Int64) + (v2.toInt64)) + (v5.toInt64))); (let v87 : Int32 := (f9 (f9_a0_room (((0 : Int64) + (v2.toInt64)) + (v5.toInt64)))); (let v94 : Int64 := ((f10 (v77 - (2 : Int64)) (0 : Int64)) + (v12.toInt64)); (let v99 : Int32 := (f9 ((f9_a0_room (f9_a0_room (((0 : Int64) + (v2.toInt64)) + (v5.toInt64)))) + (v12.toInt64))); (let v104 : Int32 := (f9 (f9_a0_room ((f9_a0_room (f9_a0_room (((0 : Int64) + (v2.toInt64)) + (v5.toInt64)))) + (v12.toInt64)))); (let j108 : Int32 := (if (0 : Int64) < v77 then (1 : Int32) else (0 : Int32)); (let j126 : Int32 := (if v82 = j108 then (let j113 : Int32 := (if (1 : Int64) < v77 then (1 : Int32) else (0 : Int32)); (if v87 = j113 then (let j118 : Int32 := (if (0 : Int64) < v94 then (1 : Int32) else (0 : Int32)); (if v99 = j118 then (let j123 : Int32 := (if (1 : Int64) < v94 then (1 : Int32) else (0 : Int32)); (if v104 = j123 then (1 : Int32) else (0 : Int32))) else (0 : Int32))) else (0 : Int32))) else (0 : Int32)); (nar .boolean j126))))))))))))))
def Q0 (Z : State) (p0 : Int32) (p1 : Int32) (p2 : Int32) (w_DEFAULTCAPACITY_EMPTY_ELEMENTDATA : Addr) (h0 : Heap) (n0 : Nat) (v : Option Value) (h : Heap) (L : List Loc) : Prop := v = some (.int (1 : Int32)) ∧ Fr n0 L
set_option maxRecDepth 65536 in
set_option maxHeartbeats 40000000 in
theorem rm0 (l : Launch) (Z : State) (aw : Array Value) (hw : ∀ d ∈ tables_1, d.before aw Z = true) (ws : List Jvm.Cond) (p0 : Int32) (p1 : Int32) (p2 : Int32) (w_DEFAULTCAPACITY_EMPTY_ELEMENTDATA : Addr) (h0 : Heap) (n0 : Nat) (Z0 : n0 ≤ h0.size) (S_DEFAULTCAPACITY_EMPTY_ELEMENTDATA : Sta Z h0 "java/util/ArrayList" "DEFAULTCAPACITY_EMPTY_ELEMENTDATA" "[Ljava/lang/Object;" (.ref w_DEFAULTCAPACITY_EMPTY_ELEMENTDATA)) (hlaw : f0 p0 p1 p2 = 1) :
    MetFree l x (head1 (Jvm.Cond.code x code maxLocals ret :: ws) room_1) (fun a U => a = #[(.int p0), (.int p1), (.int p2)] ∧ Z.Warmed39 U.vm ∧ U.heap = h0) (fun _ _ _ _ _ => True) (fun _ U o U' => ∃ v L, o = .returned v ∧ Q0 Z p0 p1 p2 w_DEFAULTCAPACITY_EMPTY_ELEMENTDATA h0 n0 v U'.heap L ∧ FrameEnd U o U' L room_1.cells room_1.slots) := by
  refine MetFree.of_bodySF (plainFor_of_name pn_1) hisR ?_
  intro p e s m args below meth c s₁ Bd hml0 hP hK
  obtain ⟨rfl, hZ, hh⟩ := hP
  have hx := Bd.exec
  have hby := Bd.bytes
  have hml : c.maxLocals = 16 := hml0
  have hown : s.vm.findClass "com/example/covenant/covenant/model/InheritedNamesTakeRoomPinLaw" = some m.cls := findClass_of_methodNamed Bd.named
  have hnm := (name_of_methodNamed Bd.named Bd.method).1
  have X0 : Stand p l e room_1 s m #[(.int p0), (.int p1), (.int p2)] below meth c s₁ [] 0 0 := Stand.of_body Bd
  have e0 : s₁.heap = h0 := by rw [← hh, Bd.state]; rfl
  have N0 := Fr.nil n0
  have pre0 : ∀ t, Steps p.tables e below (s₁.setTop (mkF m 0 #[.val (.int p0), .val (.int p1), .val (.int p2), .unset, .unset, .unset, .unset, .unset, .unset, .unset, .unset, .unset, .unset, .unset, .unset, .unset] [])) t → Steps p.tables e below (s₁.setTop (entryFrame m #[(.int p0), (.int p1), (.int p2)] maxLocals)) t := fun t k => castTop (ef_0 m p0 p1 p2) k
  have pre1 : ∀ t, Steps p.tables e below (s₁.setTop (mkF m 4 #[.val (.int p0), .val (.int p1), .val (.int p2), .unset, .unset, .unset, .unset, .unset, .unset, .unset, .unset, .unset, .unset, .unset, .unset, .unset] [(.int (p0 &&& (2147483647 : Int32)))])) t → Steps p.tables e below (s₁.setTop (entryFrame m #[(.int p0), (.int p1), (.int p2)] maxLocals)) t := fun t k => pre0 t (by
    show Steps p.tables e below (s₁.setTop (mkF m 0 #[.val (.int p0), .val (.int p1), .val (.int p2), .unset, .unset, .unset, .unset, .unset, .unset, .unset, .unset, .unset, .unset, .unset, .unset, .unset] [])) _
    refine XS.iloadN X0.here hx rfl (hb hby at_0) rfl ?_
    show Steps p.tables e below (s₁.setTop (mkF m 1 #[.val (.int p0), .val (.int p1), .val (.int p2), .unset, .unset, .unset, .unset, .unset, .unset, .unset, .unset, .unset, .unset, .unset, .unset, .unset] [(.int p0)])) _
    refine X0.ldcInt hx hown (mvT hZ (hw _ (List.mem_of_getElem? (i := 0) rfl))) (g := (mkF m 1 #[.val (.int p0), .val (.int p1), .val (.int p2), .unset, .unset, .unset, .unset, .unset, .unset, .unset, .unset, .unset, .unset, .unset, .unset, .unset] [(.int p0)])) rfl (hb hby at_1) _ ?_
    show Steps p.tables e below (s₁.setTop (mkF m 3 #[.val (.int p0), .val (.int p1), .val (.int p2), .unset, .unset, .unset, .unset, .unset, .unset, .unset, .unset, .unset, .unset, .unset, .unset, .unset] [(.int (2147483647 : Int32)), (.int p0)])) _
    refine XS.iand X0.here hx rfl (hb hby at_3) rfl ?_
    exact k)
  obtain ⟨v2, hv2⟩ : ∃ z : Int32, z = (p0 &&& (2147483647 : Int32)) := ⟨_, rfl⟩
  have pre3 : ∀ t, Steps p.tables e below (s₁.setTop (mkF m 4 #[.val (.int p0), .val (.int p1), .val (.int p2), .unset, .unset, .unset, .unset, .unset, .unset, .unset, .unset, .unset, .unset, .unset, .unset, .unset] [(.int v2)])) t → Steps p.tables e below (s₁.setTop (entryFrame m #[(.int p0), (.int p1), (.int p2)] maxLocals)) t := fun t k => pre1 t (by rw [hv2] at k; exact k)
  have pre4 : ∀ t, Steps p.tables e below (s₁.setTop (mkF m 9 #[.val (.int p0), .val (.int p1), .val (.int p2), .val (.int v2), .unset, .unset, .unset, .unset, .unset, .unset, .unset, .unset, .unset, .unset, .unset, .unset] [(.int (p1 &&& (2147483647 : Int32)))])) t → Steps p.tables e below (s₁.setTop (entryFrame m #[(.int p0), (.int p1), (.int p2)] maxLocals)) t := fun t k => pre3 t (by
    show Steps p.tables e below (s₁.setTop (mkF m 4 #[.val (.int p0), .val (.int p1), .val (.int p2), .unset, .unset, .unset, .unset, .unset, .unset, .unset, .unset, .unset, .unset, .unset, .unset, .unset] [(.int v2)])) _
    refine XS.istoreN X0.here hx rfl (hb hby at_4) rfl (l' := #[.val (.int p0), .val (.int p1), .val (.int p2), .val (.int v2), .unset, .unset, .unset, .unset, .unset, .unset, .unset, .unset, .unset, .unset, .unset, .unset]) rfl ?_
    show Steps p.tables e below (s₁.setTop (mkF m 5 #[.val (.int p0), .val (.int p1), .val (.int p2), .val (.int v2), .unset, .unset, .unset, .unset, .unset, .unset, .unset, .unset, .unset, .unset, .unset, .unset] [])) _
    refine XS.iloadN X0.here hx rfl (hb hby at_5) rfl ?_
    show Steps p.tables e below (s₁.setTop (mkF m 6 #[.val (.int p0), .val (.int p1), .val (.int p2), .val (.int v2), .unset, .unset, .unset, .unset, .unset, .unset, .unset, .unset, .unset, .unset, .unset, .unset] [(.int p1)])) _
    refine X0.ldcInt hx hown (mvT hZ (hw _ (List.mem_of_getElem? (i := 0) rfl))) (g := (mkF m 6 #[.val (.int p0), .val (.int p1), .val (.int p2), .val (.int v2), .unset, .unset, .unset, .unset, .unset, .unset, .unset, .unset, .unset, .unset, .unset, .unset] [(.int p1)])) rfl (hb hby at_6) _ ?_
    show Steps p.tables e below (s₁.setTop (mkF m 8 #[.val (.int p0), .val (.int p1), .val (.int p2), .val (.int v2), .unset, .unset, .unset, .unset, .unset, .unset, .unset, .unset, .unset, .unset, .unset, .unset] [(.int (2147483647 : Int32)), (.int p1)])) _
    refine XS.iand X0.here hx rfl (hb hby at_8) rfl ?_
    exact k)
  obtain ⟨v5, hv5⟩ : ∃ z : Int32, z = (p1 &&& (2147483647 : Int32)) := ⟨_, rfl⟩
  have pre6 : ∀ t, Steps p.tables e below (s₁.setTop (mkF m 9 #[.val (.int p0), .val (.int p1), .val (.int p2), .val (.int v2), .unset, .unset, .unset, .unset, .unset, .unset, .unset, .unset, .unset, .unset, .unset, .unset] [(.int v5)])) t → Steps p.tables e below (s₁.setTop (entryFrame m #[(.int p0), (.int p1), (.int p2)] maxLocals)) t := fun t k => pre4 t (by rw [hv5] at k; exact k)
  have pre7 : ∀ t, Steps p.tables e below (s₁.setTop (mkF m 14 #[.val (.int p0), .val (.int p1), .val (.int p2), .val (.int v2), .val (.int v5), .unset, .unset, .unset, .unset, .unset, .unset, .unset, .unset, .unset, .unset, .unset] [(.int (p2 &&& (1 : Int32)))])) t → Steps p.tables e below (s₁.setTop (entryFrame m #[(.int p0), (.int p1), (.int p2)] maxLocals)) t := fun t k => pre6 t (by
    show Steps p.tables e below (s₁.setTop (mkF m 9 #[.val (.int p0), .val (.int p1), .val (.int p2), .val (.int v2), .unset, .unset, .unset, .unset, .unset, .unset, .unset, .unset, .unset, .unset, .unset, .unset] [(.int v5)])) _
    refine XS.istore X0.here hx rfl (hb hby at_9) rfl (l' := #[.val (.int p0), .val (.int p1), .val (.int p2), .val (.int v2), .val (.int v5), .unset, .unset, .unset, .unset, .unset, .unset, .unset, .unset, .unset, .unset, .unset]) rfl ?_
    show Steps p.tables e below (s₁.setTop (mkF m 11 #[.val (.int p0), .val (.int p1), .val (.int p2), .val (.int v2), .val (.int v5), .unset, .unset, .unset, .unset, .unset, .unset, .unset, .unset, .unset, .unset, .unset] [])) _
    refine XS.iloadN X0.here hx rfl (hb hby at_11) rfl ?_
    show Steps p.tables e below (s₁.setTop (mkF m 12 #[.val (.int p0), .val (.int p1), .val (.int p2), .val (.int v2), .val (.int v5), .unset, .unset, .unset, .unset, .unset, .unset, .unset, .unset, .unset, .unset, .unset] [(.int p2)])) _
    refine XS.iconst X0.here hx rfl (hb hby at_12) ?_
    show Steps p.tables e below (s₁.setTop (mkF m 13 #[.val (.int p0), .val (.int p1), .val (.int p2), .val (.int v2), .val (.int v5), .unset, .unset, .unset, .unset, .unset, .unset, .unset, .unset, .unset, .unset, .unset] [(.int (1 : Int32)), (.int p2)])) _
    refine XS.iand X0.here hx rfl (hb hby at_13) rfl ?_
    exact k)
  obtain ⟨j9, hj9, pre10⟩ : ∃ (j9 : Int32), j9 = (if (p2 &&& (1 : Int32)) = (0 : Int32) then (0 : Int32) else (1 : Int32)) ∧ ∀ t, Steps p.tables e below (s₁.setTop (mkF m 22 #[.val (.int p0), .val (.int p1), .val (.int p2), .val (.int v2), .val (.int v5), .unset, .unset, .unset, .unset, .unset, .unset, .unset, .unset, .unset, .unset, .unset] [(.int j9)])) t → Steps p.tables e below (s₁.setTop (entryFrame m #[(.int p0), (.int p1), (.int p2)] maxLocals)) t := by
    by_cases hc8 : (p2 &&& (1 : Int32)) = (0 : Int32)
    · exact ⟨(0 : Int32), (by rw [if_pos hc8]), fun t k => pre7 t (by
        show Steps p.tables e below (s₁.setTop (mkF m 14 #[.val (.int p0), .val (.int p1), .val (.int p2), .val (.int v2), .val (.int v5), .unset, .unset, .unset, .unset, .unset, .unset, .unset, .unset, .unset, .unset, .unset] [(.int (p2 &&& (1 : Int32)))])) _
        refine XS.ifYes X0.here hx rfl (pc0 := 14) (pc' := 21) rfl (hb hby at_14) rfl ((if0 _ _).trans (teq hc8).1) (by decide) (by decide) ?_
        show Steps p.tables e below (s₁.setTop (mkF m 21 #[.val (.int p0), .val (.int p1), .val (.int p2), .val (.int v2), .val (.int v5), .unset, .unset, .unset, .unset, .unset, .unset, .unset, .unset, .unset, .unset, .unset] [])) _
        refine XS.iconst X0.here hx rfl (hb hby at_21) ?_
        exact k)⟩
    · exact ⟨(1 : Int32), (by rw [if_neg hc8]), fun t k => pre7 t (by
        show Steps p.tables e below (s₁.setTop (mkF m 14 #[.val (.int p0), .val (.int p1), .val (.int p2), .val (.int v2), .val (.int v5), .unset, .unset, .unset, .unset, .unset, .unset, .unset, .unset, .unset, .unset, .unset] [(.int (p2 &&& (1 : Int32)))])) _
        refine XS.ifNo X0.here hx rfl (hb hby at_14) rfl ((if0 _ _).trans (feq hc8).1) ?_
        show Steps p.tables e below (s₁.setTop (mkF m 17 #[.val (.int p0), .val (.int p1), .val (.int p2), .val (.int v2), .val (.int v5), .unset, .unset, .unset, .unset, .unset, .unset, .unset, .unset, .unset, .unset, .unset] [])) _
        refine XS.iconst X0.here hx rfl (hb hby at_17) ?_
        show Steps p.tables e below (s₁.setTop (mkF m 18 #[.val (.int p0), .val (.int p1), .val (.int p2), .val (.int v2), .val (.int v5), .unset, .unset, .unset, .unset, .unset, .unset, .unset, .unset, .unset, .unset, .unset] [(.int (1 : Int32))])) _
        refine XS.goto X0.here hx rfl (pc0 := 18) (pc' := 22) rfl (hb hby at_18) (by decide) (by decide) ?_
        exact k)⟩
  have pre11 : ∀ t, Steps p.tables e below (s₁.setTop (mkF m 29 #[.val (.int p0), .val (.int p1), .val (.int p2), .val (.int v2), .val (.int v5), .val (.int j9), .unset, .unset, .unset, .unset, .unset, .unset, .unset, .unset, .unset, .unset] [(.int (((p2.toUInt32 >>> ((1 : Int32) &&& 31).toUInt32).toInt32) &&& (3 : Int32)))])) t → Steps p.tables e below (s₁.setTop (entryFrame m #[(.int p0), (.int p1), (.int p2)] maxLocals)) t := fun t k => pre10 t (by
    show Steps p.tables e below (s₁.setTop (mkF m 22 #[.val (.int p0), .val (.int p1), .val (.int p2), .val (.int v2), .val (.int v5), .unset, .unset, .unset, .unset, .unset, .unset, .unset, .unset, .unset, .unset, .unset] [(.int j9)])) _
    refine XS.istore X0.here hx rfl (hb hby at_22) rfl (l' := #[.val (.int p0), .val (.int p1), .val (.int p2), .val (.int v2), .val (.int v5), .val (.int j9), .unset, .unset, .unset, .unset, .unset, .unset, .unset, .unset, .unset, .unset]) rfl ?_
    show Steps p.tables e below (s₁.setTop (mkF m 24 #[.val (.int p0), .val (.int p1), .val (.int p2), .val (.int v2), .val (.int v5), .val (.int j9), .unset, .unset, .unset, .unset, .unset, .unset, .unset, .unset, .unset, .unset] [])) _
    refine XS.iloadN X0.here hx rfl (hb hby at_24) rfl ?_
    show Steps p.tables e below (s₁.setTop (mkF m 25 #[.val (.int p0), .val (.int p1), .val (.int p2), .val (.int v2), .val (.int v5), .val (.int j9), .unset, .unset, .unset, .unset, .unset, .unset, .unset, .unset, .unset, .unset] [(.int p2)])) _
    refine XS.iconst X0.here hx rfl (hb hby at_25) ?_
    show Steps p.tables e below (s₁.setTop (mkF m 26 #[.val (.int p0), .val (.int p1), .val (.int p2), .val (.int v2), .val (.int v5), .val (.int j9), .unset, .unset, .unset, .unset, .unset, .unset, .unset, .unset, .unset, .unset] [(.int (1 : Int32)), (.int p2)])) _
    refine XS.iushr X0.here hx rfl (hb hby at_26) rfl ?_
    show Steps p.tables e below (s₁.setTop (mkF m 27 #[.val (.int p0), .val (.int p1), .val (.int p2), .val (.int v2), .val (.int v5), .val (.int j9), .unset, .unset, .unset, .unset, .unset, .unset, .unset, .unset, .unset, .unset] [(.int ((p2.toUInt32 >>> ((1 : Int32) &&& 31).toUInt32).toInt32))])) _
    refine XS.iconst X0.here hx rfl (hb hby at_27) ?_
    show Steps p.tables e below (s₁.setTop (mkF m 28 #[.val (.int p0), .val (.int p1), .val (.int p2), .val (.int v2), .val (.int v5), .val (.int j9), .unset, .unset, .unset, .unset, .unset, .unset, .unset, .unset, .unset, .unset] [(.int (3 : Int32)), (.int ((p2.toUInt32 >>> ((1 : Int32) &&& 31).toUInt32).toInt32))])) _
    refine XS.iand X0.here hx rfl (hb hby at_28) rfl ?_
    exact k)
  obtain ⟨v12, hv12⟩ : ∃ z : Int32, z = (((p2.toUInt32 >>> ((1 : Int32) &&& 31).toUInt32).toInt32) &&& (3 : Int32)) := ⟨_, rfl⟩
  have pre13 : ∀ t, Steps p.tables e below (s₁.setTop (mkF m 29 #[.val (.int p0), .val (.int p1), .val (.int p2), .val (.int v2), .val (.int v5), .val (.int j9), .unset, .unset, .unset, .unset, .unset, .unset, .unset, .unset, .unset, .unset] [(.int v12)])) t → Steps p.tables e below (s₁.setTop (entryFrame m #[(.int p0), (.int p1), (.int p2)] maxLocals)) t := fun t k => pre11 t (by rw [hv12] at k; exact k)
  have pre14 : ∀ t, Steps p.tables e below (s₁.setTop (mkF m 31 #[.val (.int p0), .val (.int p1), .val (.int p2), .val (.int v2), .val (.int v5), .val (.int j9), .val (.int v12), .unset, .unset, .unset, .unset, .unset, .unset, .unset, .unset, .unset] [])) t → Steps p.tables e below (s₁.setTop (entryFrame m #[(.int p0), (.int p1), (.int p2)] maxLocals)) t := fun t k => pre13 t (by
    show Steps p.tables e below (s₁.setTop (mkF m 29 #[.val (.int p0), .val (.int p1), .val (.int p2), .val (.int v2), .val (.int v5), .val (.int j9), .unset, .unset, .unset, .unset, .unset, .unset, .unset, .unset, .unset, .unset] [(.int v12)])) _
    refine XS.istore X0.here hx rfl (hb hby at_29) rfl (l' := #[.val (.int p0), .val (.int p1), .val (.int p2), .val (.int v2), .val (.int v5), .val (.int j9), .val (.int v12), .unset, .unset, .unset, .unset, .unset, .unset, .unset, .unset, .unset]) rfl ?_
    exact k)
  obtain ⟨T15, h15, X15, e15, E15, A15, D15, -, st15⟩ := newO X0 hx hZ hown (hw _ (List.mem_of_getElem? (i := 1) rfl)) (hw _ (List.mem_of_getElem? (i := 2) rfl)) (hw _ (List.mem_of_getElem? (i := 3) rfl)) e0 (g := (mkF m 31 #[.val (.int p0), .val (.int p1), .val (.int p2), .val (.int v2), .val (.int v5), .val (.int j9), .val (.int v12), .unset, .unset, .unset, .unset, .unset, .unset, .unset, .unset, .unset] [])) rfl (hb hby at_31) (by decide) (by decide)
  obtain ⟨b15, g15⟩ : ∃ z, z = h0.size := ⟨_, rfl⟩
  have g_b15 : n0 ≤ b15 := Nat.le_trans Z0 (Nat.le_of_eq g15.symm)
  have sz_b15 : h0.size ≤ b15 := Nat.le_trans (Keep.refl h0 []).1 (Nat.le_of_eq g15.symm)
  rw [← g15] at A15 D15 st15
  have S_DEFAULTCAPACITY_EMPTY_ELEMENTDATA_15 := S_DEFAULTCAPACITY_EMPTY_ELEMENTDATA.ext E15
  have K15 : Keep h0 h15 [] := (Keep.refl h0 []).ext E15
  have Z15 : n0 ≤ h15.size := Nat.le_trans Z0 E15.1
  have F_definers_b15 : Fld Z h15 b15 "com/example/covenant/covenant/model/InheritedNames" "definers" "Ljava/util/Map;" .null := D15 (Or.inr (hw _ (List.mem_of_getElem? (i := 27) rfl))) (ty := (.object "java/util/Map")) (by decide)
  have F_pending_b15 : Fld Z h15 b15 "com/example/covenant/covenant/model/InheritedNames" "pending" "Ljava/util/List;" .null := D15 (Or.inr (hw _ (List.mem_of_getElem? (i := 53) rfl))) (ty := (.object "java/util/List")) (by decide)
  have F_made_b15 : Fld Z h15 b15 "com/example/covenant/covenant/model/InheritedNames" "made" "Ljava/util/Map;" .null := D15 (Or.inr (hw _ (List.mem_of_getElem? (i := 55) rfl))) (ty := (.object "java/util/Map")) (by decide)
  have F_room_b15 : Fld Z h15 b15 "com/example/covenant/covenant/model/InheritedNames" "room" "J" (.long (0 : Int64)) := D15 (Or.inl (hw _ (List.mem_of_getElem? (i := 62) rfl))) (ty := .long) (by decide)
  have pre16 : ∀ t, Steps p.tables e below (T15.setTop (mkF m 35 #[.val (.int p0), .val (.int p1), .val (.int p2), .val (.int v2), .val (.int v5), .val (.int j9), .val (.int v12), .unset, .unset, .unset, .unset, .unset, .unset, .unset, .unset, .unset] [(.ref b15), (.ref b15)])) t → Steps p.tables e below (s₁.setTop (entryFrame m #[(.int p0), (.int p1), (.int p2)] maxLocals)) t := fun t k => pre14 t (by
    show Steps p.tables e below (s₁.setTop (mkF m 31 #[.val (.int p0), .val (.int p1), .val (.int p2), .val (.int v2), .val (.int v5), .val (.int j9), .val (.int v12), .unset, .unset, .unset, .unset, .unset, .unset, .unset, .unset, .unset] [])) _
    refine st15 _ ?_
    show Steps p.tables e below (T15.setTop (mkF m 34 #[.val (.int p0), .val (.int p1), .val (.int p2), .val (.int v2), .val (.int v5), .val (.int j9), .val (.int v12), .unset, .unset, .unset, .unset, .unset, .unset, .unset, .unset, .unset] [(.ref b15)])) _
    refine XS.dup X15.here hx rfl (hb hby at_34) rfl rfl ?_
    exact k)
  obtain ⟨_, _, ⟨T17, L17, k17, n17⟩, -, X17, ⟨Lc17, hQ17, l17, y17, z17⟩, st17⟩ := X15.specialBack hx (y := (⟨"com/example/covenant/covenant/model/InheritedNames", "<init>", "()V"⟩ : MethodName)) rfl hown (mvT hZ (hw _ (List.mem_of_getElem? (i := 4) rfl))) (mvT hZ (hw _ (List.mem_of_getElem? (i := 5) rfl))) (mvT hZ (hw _ (List.mem_of_getElem? (i := 6) rfl))) (by decide) (backOf (W := 1) (rm1 l Z aw hw [] b15 (0 : Int64) .null w_DEFAULTCAPACITY_EMPTY_ELEMENTDATA .null .null h15 n0 Z15 F_room_b15 A15 F_definers_b15 g_b15 S_DEFAULTCAPACITY_EMPTY_ELEMENTDATA_15 F_pending_b15 F_made_b15) hZ (hw _ (List.mem_of_getElem? (i := 6) rfl)) (hw _ (List.mem_of_getElem? (i := 3) rfl)) (by decide) (by decide)) (g := (mkF m 35 #[.val (.int p0), .val (.int p1), .val (.int p2), .val (.int v2), .val (.int v5), .val (.int j9), .val (.int v12), .unset, .unset, .unset, .unset, .unset, .unset, .unset, .unset, .unset] [(.ref b15), (.ref b15)])) rfl (by rw [hml]; rfl) (Steps.refl _) (a := b15) (argsL := []) (rest := [(.ref b15)]) (lenOf pd_0 rfl) rfl (by show 2 * 0 + _ ≤ _; exact Nat.le_of_eq rfl) (hb hby at_35) (fun _ _ => ⟨rfl, e15, (by decide : 1 + 3 ≤ _), (by decide : 4 + 19 ≤ _)⟩)
  dsimp only [Pt.U, Pt.locs, Pt.cells, Pt.slots] at X17 l17 y17 z17 st17 hQ17
  subst l17 y17 z17
  obtain ⟨rfl, N17q, K17q, E17_a0, F17_a0_room⟩ := hQ17
  have N17 := Fr.app N0 N17q
  have S_DEFAULTCAPACITY_EMPTY_ELEMENTDATA_17 := own_sta_keep S_DEFAULTCAPACITY_EMPTY_ELEMENTDATA_15 K17q (allS (own_exa_plain A15) all0)
  have A15_17 := A15.keep K17q
  have F17_a0_room' : Fld Z T17.heap b15 "com/example/covenant/covenant/model/InheritedNames" "room" "J" (.long (0 : Int64)) := F17_a0_room
  have K17 : Keep h0 T17.heap [] := K15.trans K17q (allS (Or.inr sz_b15) all0)
  have Z17 : n0 ≤ T17.heap.size := Nat.le_trans Z15 K17q.1
  have pre18 : ∀ t, Steps p.tables e below (T17.setTop (mkF m 43 #[.val (.int p0), .val (.int p1), .val (.int p2), .val (.int v2), .val (.int v5), .val (.int j9), .val (.int v12), .val (.ref b15), .unset, .unset, .unset, .unset, .unset, .unset, .unset, .unset] [(.int v2), (.ref b15)])) t → Steps p.tables e below (s₁.setTop (entryFrame m #[(.int p0), (.int p1), (.int p2)] maxLocals)) t := fun t k => pre16 t (by
    show Steps p.tables e below (T15.setTop (mkF m 35 #[.val (.int p0), .val (.int p1), .val (.int p2), .val (.int v2), .val (.int v5), .val (.int j9), .val (.int v12), .unset, .unset, .unset, .unset, .unset, .unset, .unset, .unset, .unset] [(.ref b15), (.ref b15)])) _
    refine st17.trans ?_
    show Steps p.tables e below (T17.setTop (mkF m 38 #[.val (.int p0), .val (.int p1), .val (.int p2), .val (.int v2), .val (.int v5), .val (.int j9), .val (.int v12), .unset, .unset, .unset, .unset, .unset, .unset, .unset, .unset, .unset] [(.ref b15)])) _
    refine XS.astore X17.here hx rfl (hb hby at_38) rfl rfl (l' := #[.val (.int p0), .val (.int p1), .val (.int p2), .val (.int v2), .val (.int v5), .val (.int j9), .val (.int v12), .val (.ref b15), .unset, .unset, .unset, .unset, .unset, .unset, .unset, .unset]) rfl ?_
    show Steps p.tables e below (T17.setTop (mkF m 40 #[.val (.int p0), .val (.int p1), .val (.int p2), .val (.int v2), .val (.int v5), .val (.int j9), .val (.int v12), .val (.ref b15), .unset, .unset, .unset, .unset, .unset, .unset, .unset, .unset] [])) _
    refine XS.aload X17.here hx rfl (hb hby at_40) rfl rfl ?_
    show Steps p.tables e below (T17.setTop (mkF m 42 #[.val (.int p0), .val (.int p1), .val (.int p2), .val (.int v2), .val (.int v5), .val (.int j9), .val (.int v12), .val (.ref b15), .unset, .unset, .unset, .unset, .unset, .unset, .unset, .unset] [(.ref b15)])) _
    refine XS.iloadN X17.here hx rfl (hb hby at_42) rfl ?_
    exact k)
  obtain ⟨cq19, kq19, q19a, q19b, q19c⟩ := isOf hZ rfl A15_17
  obtain ⟨_, _, ⟨T19, L19, k19, n19⟩, -, X19, ⟨Lc19, hQ19, l19, y19, z19⟩, st19⟩ := X17.virtualBack hx (y := (⟨"com/example/covenant/covenant/model/InheritedNames", "makeRoom", "(I)V"⟩ : MethodName)) (z := (⟨"com/example/covenant/covenant/model/InheritedNames", "makeRoom", "(I)V"⟩ : MethodName)) hown (mvT hZ (hw _ (List.mem_of_getElem? (i := 56) rfl))) (mvT hZ (hw _ (List.mem_of_getElem? (i := 57) rfl))) (notFace_of_selects (args := #[]) (mvT hZ (hw _ (List.mem_of_getElem? (i := 59) rfl)))) (mvT hZ (hw _ (List.mem_of_getElem? (i := 59) rfl))) (mvT hZ (hw _ (List.mem_of_getElem? (i := 58) rfl))) (by decide) (backOf (W := 0) (rm8 l Z aw hw [] b15 v2 (0 : Int64) T17.heap n0 Z17 F17_a0_room' A15_17 g_b15) hZ (hw _ (List.mem_of_getElem? (i := 60) rfl)) (hw _ (List.mem_of_getElem? (i := 3) rfl)) (by decide) (by decide)) q19a q19c (g := (mkF m 43 #[.val (.int p0), .val (.int p1), .val (.int p2), .val (.int v2), .val (.int v5), .val (.int j9), .val (.int v12), .val (.ref b15), .unset, .unset, .unset, .unset, .unset, .unset, .unset, .unset] [(.int v2), (.ref b15)])) rfl (by rw [hml]; rfl) (Steps.refl _) (argsL := [(.int v2)]) (rest := []) (lenOf pd_1 rfl) rfl (by show 2 * 0 + _ ≤ _; exact Nat.le_of_eq rfl) (hb hby at_43) (fun _ _ => ⟨rfl, rfl, (by decide : 4 + 0 ≤ _), (by decide : 23 + 0 ≤ _)⟩)
  dsimp only [Pt.U, Pt.locs, Pt.cells, Pt.slots] at X19 l19 y19 z19 st19 hQ19
  subst l19 y19 z19
  obtain ⟨rfl, N19q, K19q, E19_a0, F19_a0_room⟩ := hQ19
  have N19 := Fr.app N17 N19q
  have S_DEFAULTCAPACITY_EMPTY_ELEMENTDATA_19 := own_sta_keep S_DEFAULTCAPACITY_EMPTY_ELEMENTDATA_17 K19q (allS (own_exa_plain A15_17) all0)
  have A15_19 := A15_17.keep K19q
  have F19_a0_room' : Fld Z T19.heap b15 "com/example/covenant/covenant/model/InheritedNames" "room" "J" (.long ((0 : Int64) + (v2.toInt64))) := F19_a0_room
  have K19 : Keep h0 T19.heap [] := K17.trans K19q (allS (Or.inr sz_b15) all0)
  have Z19 : n0 ≤ T19.heap.size := Nat.le_trans Z17 K19q.1
  have pre20 : ∀ t, Steps p.tables e below (T19.setTop (mkF m 48 #[.val (.int p0), .val (.int p1), .val (.int p2), .val (.int v2), .val (.int v5), .val (.int j9), .val (.int v12), .val (.ref b15), .unset, .unset, .unset, .unset, .unset, .unset, .unset, .unset] [(.int j9)])) t → Steps p.tables e below (s₁.setTop (entryFrame m #[(.int p0), (.int p1), (.int p2)] maxLocals)) t := fun t k => pre18 t (by
    show Steps p.tables e below (T17.setTop (mkF m 43 #[.val (.int p0), .val (.int p1), .val (.int p2), .val (.int v2), .val (.int v5), .val (.int j9), .val (.int v12), .val (.ref b15), .unset, .unset, .unset, .unset, .unset, .unset, .unset, .unset] [(.int v2), (.ref b15)])) _
    refine st19.trans ?_
    show Steps p.tables e below (T19.setTop (mkF m 46 #[.val (.int p0), .val (.int p1), .val (.int p2), .val (.int v2), .val (.int v5), .val (.int j9), .val (.int v12), .val (.ref b15), .unset, .unset, .unset, .unset, .unset, .unset, .unset, .unset] [])) _
    refine XS.iload X19.here hx rfl (hb hby at_46) rfl ?_
    exact k)
  by_cases hc21 : j9 = (0 : Int32)
  · have pre22 : ∀ t, Steps p.tables e below (T19.setTop (mkF m 73 #[.val (.int p0), .val (.int p1), .val (.int p2), .val (.int v2), .val (.int v5), .val (.int j9), .val (.int v12), .val (.ref b15), .unset, .unset, .unset, .unset, .unset, .unset, .unset, .unset] [(.long ((v2.toInt64) + (0 : Int64)))])) t → Steps p.tables e below (s₁.setTop (entryFrame m #[(.int p0), (.int p1), (.int p2)] maxLocals)) t := fun t k => pre20 t (by
      show Steps p.tables e below (T19.setTop (mkF m 48 #[.val (.int p0), .val (.int p1), .val (.int p2), .val (.int v2), .val (.int v5), .val (.int j9), .val (.int v12), .val (.ref b15), .unset, .unset, .unset, .unset, .unset, .unset, .unset, .unset] [(.int j9)])) _
      refine XS.ifYes X19.here hx rfl (pc0 := 48) (pc' := 58) rfl (hb hby at_48) rfl ((if0 _ _).trans (teq hc21).1) (by decide) (by decide) ?_
      show Steps p.tables e below (T19.setTop (mkF m 58 #[.val (.int p0), .val (.int p1), .val (.int p2), .val (.int v2), .val (.int v5), .val (.int j9), .val (.int v12), .val (.ref b15), .unset, .unset, .unset, .unset, .unset, .unset, .unset, .unset] [])) _
      refine XS.iloadN X19.here hx rfl (hb hby at_58) rfl ?_
      show Steps p.tables e below (T19.setTop (mkF m 59 #[.val (.int p0), .val (.int p1), .val (.int p2), .val (.int v2), .val (.int v5), .val (.int j9), .val (.int v12), .val (.ref b15), .unset, .unset, .unset, .unset, .unset, .unset, .unset, .unset] [(.int v2)])) _
      refine XS.i2l X19.here hx rfl (hb hby at_59) rfl ?_
      show Steps p.tables e below (T19.setTop (mkF m 60 #[.val (.int p0), .val (.int p1), .val (.int p2), .val (.int v2), .val (.int v5), .val (.int j9), .val (.int v12), .val (.ref b15), .unset, .unset, .unset, .unset, .unset, .unset, .unset, .unset] [(.long (v2.toInt64))])) _
      refine XS.iload X19.here hx rfl (hb hby at_60) rfl ?_
      show Steps p.tables e below (T19.setTop (mkF m 62 #[.val (.int p0), .val (.int p1), .val (.int p2), .val (.int v2), .val (.int v5), .val (.int j9), .val (.int v12), .val (.ref b15), .unset, .unset, .unset, .unset, .unset, .unset, .unset, .unset] [(.int j9), (.long (v2.toInt64))])) _
      refine XS.ifYes X19.here hx rfl (pc0 := 62) (pc' := 71) rfl (hb hby at_62) rfl ((if0 _ _).trans (teq (hc21 : j9 = (0 : Int32))).1) (by decide) (by decide) ?_
      show Steps p.tables e below (T19.setTop (mkF m 71 #[.val (.int p0), .val (.int p1), .val (.int p2), .val (.int v2), .val (.int v5), .val (.int j9), .val (.int v12), .val (.ref b15), .unset, .unset, .unset, .unset, .unset, .unset, .unset, .unset] [(.long (v2.toInt64))])) _
      refine XS.lconst X19.here hx rfl (hb hby at_71) ?_
      show Steps p.tables e below (T19.setTop (mkF m 72 #[.val (.int p0), .val (.int p1), .val (.int p2), .val (.int v2), .val (.int v5), .val (.int j9), .val (.int v12), .val (.ref b15), .unset, .unset, .unset, .unset, .unset, .unset, .unset, .unset] [(.long (0 : Int64)), (.long (v2.toInt64))])) _
      refine XS.ladd X19.here hx rfl (hb hby at_72) rfl ?_
      exact k)
    obtain ⟨v23, hv23⟩ : ∃ z : Int64, z = ((v2.toInt64) + (0 : Int64)) := ⟨_, rfl⟩
    have pre24 : ∀ t, Steps p.tables e below (T19.setTop (mkF m 73 #[.val (.int p0), .val (.int p1), .val (.int p2), .val (.int v2), .val (.int v5), .val (.int j9), .val (.int v12), .val (.ref b15), .unset, .unset, .unset, .unset, .unset, .unset, .unset, .unset] [(.long v23)])) t → Steps p.tables e below (s₁.setTop (entryFrame m #[(.int p0), (.int p1), (.int p2)] maxLocals)) t := fun t k => pre22 t (by rw [hv23] at k; exact k)
    have pre25 : ∀ t, Steps p.tables e below (T19.setTop (mkF m 77 #[.val (.int p0), .val (.int p1), .val (.int p2), .val (.int v2), .val (.int v5), .val (.int j9), .val (.int v12), .val (.ref b15), .val (.long v23), .second, .unset, .unset, .unset, .unset, .unset, .unset] [(.ref b15)])) t → Steps p.tables e below (s₁.setTop (entryFrame m #[(.int p0), (.int p1), (.int p2)] maxLocals)) t := fun t k => pre24 t (by
      show Steps p.tables e below (T19.setTop (mkF m 73 #[.val (.int p0), .val (.int p1), .val (.int p2), .val (.int v2), .val (.int v5), .val (.int j9), .val (.int v12), .val (.ref b15), .unset, .unset, .unset, .unset, .unset, .unset, .unset, .unset] [(.long v23)])) _
      refine XS.lstore X19.here hx rfl (hb hby at_73) rfl (l' := #[.val (.int p0), .val (.int p1), .val (.int p2), .val (.int v2), .val (.int v5), .val (.int j9), .val (.int v12), .val (.ref b15), .val (.long v23), .second, .unset, .unset, .unset, .unset, .unset, .unset]) rfl ?_
      show Steps p.tables e below (T19.setTop (mkF m 75 #[.val (.int p0), .val (.int p1), .val (.int p2), .val (.int v2), .val (.int v5), .val (.int j9), .val (.int v12), .val (.ref b15), .val (.long v23), .second, .unset, .unset, .unset, .unset, .unset, .unset] [])) _
      refine XS.aload X19.here hx rfl (hb hby at_75) rfl rfl ?_
      exact k)
    obtain ⟨cq26, kq26, q26a, q26b, q26c⟩ := isOf hZ rfl A15_19
    obtain ⟨_, _, ⟨T26, L26, k26, n26⟩, -, X26, ⟨Lc26, hQ26, l26, y26, z26⟩, st26⟩ := X19.virtualBack hx (y := (⟨"com/example/covenant/covenant/model/InheritedNames", "takeRoom", "()Z"⟩ : MethodName)) (z := (⟨"com/example/covenant/covenant/model/InheritedNames", "takeRoom", "()Z"⟩ : MethodName)) hown (mvT hZ (hw _ (List.mem_of_getElem? (i := 63) rfl))) (mvT hZ (hw _ (List.mem_of_getElem? (i := 64) rfl))) (notFace_of_selects (args := #[]) (mvT hZ (hw _ (List.mem_of_getElem? (i := 66) rfl)))) (mvT hZ (hw _ (List.mem_of_getElem? (i := 66) rfl))) (mvT hZ (hw _ (List.mem_of_getElem? (i := 65) rfl))) (by decide) (backOf (W := 0) (rm9 l Z aw hw [] b15 ((0 : Int64) + (v2.toInt64)) T19.heap n0 Z19 F19_a0_room' A15_19 g_b15) hZ (hw _ (List.mem_of_getElem? (i := 67) rfl)) (hw _ (List.mem_of_getElem? (i := 3) rfl)) (by decide) (by decide)) q26a q26c (g := (mkF m 77 #[.val (.int p0), .val (.int p1), .val (.int p2), .val (.int v2), .val (.int v5), .val (.int j9), .val (.int v12), .val (.ref b15), .val (.long v23), .second, .unset, .unset, .unset, .unset, .unset, .unset] [(.ref b15)])) rfl (by rw [hml]; rfl) (Steps.refl _) (argsL := []) (rest := []) (lenOf pd_2 rfl) rfl (by show 2 * 0 + _ ≤ _; exact Nat.le_of_eq rfl) (hb hby at_77) (fun _ _ => ⟨rfl, rfl, (by decide : 4 + 0 ≤ _), (by decide : 23 + 0 ≤ _)⟩)
    dsimp only [Pt.U, Pt.locs, Pt.cells, Pt.slots] at X26 l26 y26 z26 st26 hQ26
    subst l26 y26 z26
    obtain ⟨rfl, N26q, K26q, E26_a0, F26_a0_room⟩ := hQ26
    have N26 := Fr.app N19 N26q
    have S_DEFAULTCAPACITY_EMPTY_ELEMENTDATA_26 := own_sta_keep S_DEFAULTCAPACITY_EMPTY_ELEMENTDATA_19 K26q (allS (own_exa_plain A15_19) all0)
    have A15_26 := A15_19.keep K26q
    have F26_a0_room' : Fld Z T26.heap b15 "com/example/covenant/covenant/model/InheritedNames" "room" "J" (.long (f9_a0_room ((0 : Int64) + (v2.toInt64)))) := F26_a0_room
    have K26 : Keep h0 T26.heap [] := K19.trans K26q (allS (Or.inr sz_b15) all0)
    have Z26 : n0 ≤ T26.heap.size := Nat.le_trans Z19 K26q.1
    have pre27 : ∀ t, Steps p.tables e below (T26.setTop (mkF m 80 #[.val (.int p0), .val (.int p1), .val (.int p2), .val (.int v2), .val (.int v5), .val (.int j9), .val (.int v12), .val (.ref b15), .val (.long v23), .second, .unset, .unset, .unset, .unset, .unset, .unset] [(.int (f9 ((0 : Int64) + (v2.toInt64))))])) t → Steps p.tables e below (s₁.setTop (entryFrame m #[(.int p0), (.int p1), (.int p2)] maxLocals)) t := fun t k => pre25 t (by
      show Steps p.tables e below (T19.setTop (mkF m 77 #[.val (.int p0), .val (.int p1), .val (.int p2), .val (.int v2), .val (.int v5), .val (.int j9), .val (.int v12), .val (.ref b15), .val (.long v23), .second, .unset, .unset, .unset, .unset, .unset, .unset] [(.ref b15)])) _
      refine st26.trans ?_
      exact k)
    obtain ⟨v28, hv28⟩ : ∃ z : Int32, z = (f9 ((0 : Int64) + (v2.toInt64))) := ⟨_, rfl⟩
    have pre29 : ∀ t, Steps p.tables e below (T26.setTop (mkF m 80 #[.val (.int p0), .val (.int p1), .val (.int p2), .val (.int v2), .val (.int v5), .val (.int j9), .val (.int v12), .val (.ref b15), .val (.long v23), .second, .unset, .unset, .unset, .unset, .unset, .unset] [(.int v28)])) t → Steps p.tables e below (s₁.setTop (entryFrame m #[(.int p0), (.int p1), (.int p2)] maxLocals)) t := fun t k => pre27 t (by rw [hv28] at k; exact k)
    have pre30 : ∀ t, Steps p.tables e below (T26.setTop (mkF m 84 #[.val (.int p0), .val (.int p1), .val (.int p2), .val (.int v2), .val (.int v5), .val (.int j9), .val (.int v12), .val (.ref b15), .val (.long v23), .second, .val (.int v28), .unset, .unset, .unset, .unset, .unset] [(.ref b15)])) t → Steps p.tables e below (s₁.setTop (entryFrame m #[(.int p0), (.int p1), (.int p2)] maxLocals)) t := fun t k => pre29 t (by
      show Steps p.tables e below (T26.setTop (mkF m 80 #[.val (.int p0), .val (.int p1), .val (.int p2), .val (.int v2), .val (.int v5), .val (.int j9), .val (.int v12), .val (.ref b15), .val (.long v23), .second, .unset, .unset, .unset, .unset, .unset, .unset] [(.int v28)])) _
      refine XS.istore X26.here hx rfl (hb hby at_80) rfl (l' := #[.val (.int p0), .val (.int p1), .val (.int p2), .val (.int v2), .val (.int v5), .val (.int j9), .val (.int v12), .val (.ref b15), .val (.long v23), .second, .val (.int v28), .unset, .unset, .unset, .unset, .unset]) rfl ?_
      show Steps p.tables e below (T26.setTop (mkF m 82 #[.val (.int p0), .val (.int p1), .val (.int p2), .val (.int v2), .val (.int v5), .val (.int j9), .val (.int v12), .val (.ref b15), .val (.long v23), .second, .val (.int v28), .unset, .unset, .unset, .unset, .unset] [])) _
      refine XS.aload X26.here hx rfl (hb hby at_82) rfl rfl ?_
      exact k)
    obtain ⟨cq31, kq31, q31a, q31b, q31c⟩ := isOf hZ rfl A15_26
    obtain ⟨_, _, ⟨T31, L31, k31, n31⟩, -, X31, ⟨Lc31, hQ31, l31, y31, z31⟩, st31⟩ := X26.virtualBack hx (y := (⟨"com/example/covenant/covenant/model/InheritedNames", "takeRoom", "()Z"⟩ : MethodName)) (z := (⟨"com/example/covenant/covenant/model/InheritedNames", "takeRoom", "()Z"⟩ : MethodName)) hown (mvT hZ (hw _ (List.mem_of_getElem? (i := 63) rfl))) (mvT hZ (hw _ (List.mem_of_getElem? (i := 64) rfl))) (notFace_of_selects (args := #[]) (mvT hZ (hw _ (List.mem_of_getElem? (i := 66) rfl)))) (mvT hZ (hw _ (List.mem_of_getElem? (i := 66) rfl))) (mvT hZ (hw _ (List.mem_of_getElem? (i := 65) rfl))) (by decide) (backOf (W := 0) (rm9 l Z aw hw [] b15 (f9_a0_room ((0 : Int64) + (v2.toInt64))) T26.heap n0 Z26 F26_a0_room' A15_26 g_b15) hZ (hw _ (List.mem_of_getElem? (i := 67) rfl)) (hw _ (List.mem_of_getElem? (i := 3) rfl)) (by decide) (by decide)) q31a q31c (g := (mkF m 84 #[.val (.int p0), .val (.int p1), .val (.int p2), .val (.int v2), .val (.int v5), .val (.int j9), .val (.int v12), .val (.ref b15), .val (.long v23), .second, .val (.int v28), .unset, .unset, .unset, .unset, .unset] [(.ref b15)])) rfl (by rw [hml]; rfl) (Steps.refl _) (argsL := []) (rest := []) (lenOf pd_2 rfl) rfl (by show 2 * 0 + _ ≤ _; exact Nat.le_of_eq rfl) (hb hby at_84) (fun _ _ => ⟨rfl, rfl, (by decide : 4 + 0 ≤ _), (by decide : 23 + 0 ≤ _)⟩)
    dsimp only [Pt.U, Pt.locs, Pt.cells, Pt.slots] at X31 l31 y31 z31 st31 hQ31
    subst l31 y31 z31
    obtain ⟨rfl, N31q, K31q, E31_a0, F31_a0_room⟩ := hQ31
    have N31 := Fr.app N26 N31q
    have S_DEFAULTCAPACITY_EMPTY_ELEMENTDATA_31 := own_sta_keep S_DEFAULTCAPACITY_EMPTY_ELEMENTDATA_26 K31q (allS (own_exa_plain A15_26) all0)
    have A15_31 := A15_26.keep K31q
    have F31_a0_room' : Fld Z T31.heap b15 "com/example/covenant/covenant/model/InheritedNames" "room" "J" (.long (f9_a0_room (f9_a0_room ((0 : Int64) + (v2.toInt64))))) := F31_a0_room
    have K31 : Keep h0 T31.heap [] := K26.trans K31q (allS (Or.inr sz_b15) all0)
    have Z31 : n0 ≤ T31.heap.size := Nat.le_trans Z26 K31q.1
    have pre32 : ∀ t, Steps p.tables e below (T31.setTop (mkF m 87 #[.val (.int p0), .val (.int p1), .val (.int p2), .val (.int v2), .val (.int v5), .val (.int j9), .val (.int v12), .val (.ref b15), .val (.long v23), .second, .val (.int v28), .unset, .unset, .unset, .unset, .unset] [(.int (f9 (f9_a0_room ((0 : Int64) + (v2.toInt64)))))])) t → Steps p.tables e below (s₁.setTop (entryFrame m #[(.int p0), (.int p1), (.int p2)] maxLocals)) t := fun t k => pre30 t (by
      show Steps p.tables e below (T26.setTop (mkF m 84 #[.val (.int p0), .val (.int p1), .val (.int p2), .val (.int v2), .val (.int v5), .val (.int j9), .val (.int v12), .val (.ref b15), .val (.long v23), .second, .val (.int v28), .unset, .unset, .unset, .unset, .unset] [(.ref b15)])) _
      refine st31.trans ?_
      exact k)
    obtain ⟨v33, hv33⟩ : ∃ z : Int32, z = (f9 (f9_a0_room ((0 : Int64) + (v2.toInt64)))) := ⟨_, rfl⟩
    have pre34 : ∀ t, Steps p.tables e below (T31.setTop (mkF m 87 #[.val (.int p0), .val (.int p1), .val (.int p2), .val (.int v2), .val (.int v5), .val (.int j9), .val (.int v12), .val (.ref b15), .val (.long v23), .second, .val (.int v28), .unset, .unset, .unset, .unset, .unset] [(.int v33)])) t → Steps p.tables e below (s₁.setTop (entryFrame m #[(.int p0), (.int p1), (.int p2)] maxLocals)) t := fun t k => pre32 t (by rw [hv33] at k; exact k)
    have pre35 : ∀ t, Steps p.tables e below (T31.setTop (mkF m 93 #[.val (.int p0), .val (.int p1), .val (.int p2), .val (.int v2), .val (.int v5), .val (.int j9), .val (.int v12), .val (.ref b15), .val (.long v23), .second, .val (.int v28), .val (.int v33), .unset, .unset, .unset, .unset] [(.int v12), (.ref b15)])) t → Steps p.tables e below (s₁.setTop (entryFrame m #[(.int p0), (.int p1), (.int p2)] maxLocals)) t := fun t k => pre34 t (by
      show Steps p.tables e below (T31.setTop (mkF m 87 #[.val (.int p0), .val (.int p1), .val (.int p2), .val (.int v2), .val (.int v5), .val (.int j9), .val (.int v12), .val (.ref b15), .val (.long v23), .second, .val (.int v28), .unset, .unset, .unset, .unset, .unset] [(.int v33)])) _
      refine XS.istore X31.here hx rfl (hb hby at_87) rfl (l' := #[.val (.int p0), .val (.int p1), .val (.int p2), .val (.int v2), .val (.int v5), .val (.int j9), .val (.int v12), .val (.ref b15), .val (.long v23), .second, .val (.int v28), .val (.int v33), .unset, .unset, .unset, .unset]) rfl ?_
      show Steps p.tables e below (T31.setTop (mkF m 89 #[.val (.int p0), .val (.int p1), .val (.int p2), .val (.int v2), .val (.int v5), .val (.int j9), .val (.int v12), .val (.ref b15), .val (.long v23), .second, .val (.int v28), .val (.int v33), .unset, .unset, .unset, .unset] [])) _
      refine XS.aload X31.here hx rfl (hb hby at_89) rfl rfl ?_
      show Steps p.tables e below (T31.setTop (mkF m 91 #[.val (.int p0), .val (.int p1), .val (.int p2), .val (.int v2), .val (.int v5), .val (.int j9), .val (.int v12), .val (.ref b15), .val (.long v23), .second, .val (.int v28), .val (.int v33), .unset, .unset, .unset, .unset] [(.ref b15)])) _
      refine XS.iload X31.here hx rfl (hb hby at_91) rfl ?_
      exact k)
    obtain ⟨cq36, kq36, q36a, q36b, q36c⟩ := isOf hZ rfl A15_31
    obtain ⟨_, _, ⟨T36, L36, k36, n36⟩, -, X36, ⟨Lc36, hQ36, l36, y36, z36⟩, st36⟩ := X31.virtualBack hx (y := (⟨"com/example/covenant/covenant/model/InheritedNames", "makeRoom", "(I)V"⟩ : MethodName)) (z := (⟨"com/example/covenant/covenant/model/InheritedNames", "makeRoom", "(I)V"⟩ : MethodName)) hown (mvT hZ (hw _ (List.mem_of_getElem? (i := 56) rfl))) (mvT hZ (hw _ (List.mem_of_getElem? (i := 57) rfl))) (notFace_of_selects (args := #[]) (mvT hZ (hw _ (List.mem_of_getElem? (i := 59) rfl)))) (mvT hZ (hw _ (List.mem_of_getElem? (i := 59) rfl))) (mvT hZ (hw _ (List.mem_of_getElem? (i := 58) rfl))) (by decide) (backOf (W := 0) (rm8 l Z aw hw [] b15 v12 (f9_a0_room (f9_a0_room ((0 : Int64) + (v2.toInt64)))) T31.heap n0 Z31 F31_a0_room' A15_31 g_b15) hZ (hw _ (List.mem_of_getElem? (i := 60) rfl)) (hw _ (List.mem_of_getElem? (i := 3) rfl)) (by decide) (by decide)) q36a q36c (g := (mkF m 93 #[.val (.int p0), .val (.int p1), .val (.int p2), .val (.int v2), .val (.int v5), .val (.int j9), .val (.int v12), .val (.ref b15), .val (.long v23), .second, .val (.int v28), .val (.int v33), .unset, .unset, .unset, .unset] [(.int v12), (.ref b15)])) rfl (by rw [hml]; rfl) (Steps.refl _) (argsL := [(.int v12)]) (rest := []) (lenOf pd_1 rfl) rfl (by show 2 * 0 + _ ≤ _; exact Nat.le_of_eq rfl) (hb hby at_93) (fun _ _ => ⟨rfl, rfl, (by decide : 4 + 0 ≤ _), (by decide : 23 + 0 ≤ _)⟩)
    dsimp only [Pt.U, Pt.locs, Pt.cells, Pt.slots] at X36 l36 y36 z36 st36 hQ36
    subst l36 y36 z36
    obtain ⟨rfl, N36q, K36q, E36_a0, F36_a0_room⟩ := hQ36
    have N36 := Fr.app N31 N36q
    have S_DEFAULTCAPACITY_EMPTY_ELEMENTDATA_36 := own_sta_keep S_DEFAULTCAPACITY_EMPTY_ELEMENTDATA_31 K36q (allS (own_exa_plain A15_31) all0)
    have A15_36 := A15_31.keep K36q
    have F36_a0_room' : Fld Z T36.heap b15 "com/example/covenant/covenant/model/InheritedNames" "room" "J" (.long ((f9_a0_room (f9_a0_room ((0 : Int64) + (v2.toInt64)))) + (v12.toInt64))) := F36_a0_room
    have K36 : Keep h0 T36.heap [] := K31.trans K36q (allS (Or.inr sz_b15) all0)
    have Z36 : n0 ≤ T36.heap.size := Nat.le_trans Z31 K36q.1
    have pre37 : ∀ t, Steps p.tables e below (T36.setTop (mkF m 103 #[.val (.int p0), .val (.int p1), .val (.int p2), .val (.int v2), .val (.int v5), .val (.int j9), .val (.int v12), .val (.ref b15), .val (.long v23), .second, .val (.int v28), .val (.int v33), .unset, .unset, .unset, .unset] [(.long (0 : Int64)), (.long (v23 - (2 : Int64)))])) t → Steps p.tables e below (s₁.setTop (entryFrame m #[(.int p0), (.int p1), (.int p2)] maxLocals)) t := fun t k => pre35 t (by
      show Steps p.tables e below (T31.setTop (mkF m 93 #[.val (.int p0), .val (.int p1), .val (.int p2), .val (.int v2), .val (.int v5), .val (.int j9), .val (.int v12), .val (.ref b15), .val (.long v23), .second, .val (.int v28), .val (.int v33), .unset, .unset, .unset, .unset] [(.int v12), (.ref b15)])) _
      refine st36.trans ?_
      show Steps p.tables e below (T36.setTop (mkF m 96 #[.val (.int p0), .val (.int p1), .val (.int p2), .val (.int v2), .val (.int v5), .val (.int j9), .val (.int v12), .val (.ref b15), .val (.long v23), .second, .val (.int v28), .val (.int v33), .unset, .unset, .unset, .unset] [])) _
      refine XS.lload X36.here hx rfl (hb hby at_96) rfl ?_
      show Steps p.tables e below (T36.setTop (mkF m 98 #[.val (.int p0), .val (.int p1), .val (.int p2), .val (.int v2), .val (.int v5), .val (.int j9), .val (.int v12), .val (.ref b15), .val (.long v23), .second, .val (.int v28), .val (.int v33), .unset, .unset, .unset, .unset] [(.long v23)])) _
      refine X36.ldc2Long hx hown (mvT hZ (hw _ (List.mem_of_getElem? (i := 68) rfl))) (g := (mkF m 98 #[.val (.int p0), .val (.int p1), .val (.int p2), .val (.int v2), .val (.int v5), .val (.int j9), .val (.int v12), .val (.ref b15), .val (.long v23), .second, .val (.int v28), .val (.int v33), .unset, .unset, .unset, .unset] [(.long v23)])) rfl (hb hby at_98) _ ?_
      show Steps p.tables e below (T36.setTop (mkF m 101 #[.val (.int p0), .val (.int p1), .val (.int p2), .val (.int v2), .val (.int v5), .val (.int j9), .val (.int v12), .val (.ref b15), .val (.long v23), .second, .val (.int v28), .val (.int v33), .unset, .unset, .unset, .unset] [(.long (2 : Int64)), (.long v23)])) _
      refine XS.lsub X36.here hx rfl (hb hby at_101) rfl ?_
      show Steps p.tables e below (T36.setTop (mkF m 102 #[.val (.int p0), .val (.int p1), .val (.int p2), .val (.int v2), .val (.int v5), .val (.int j9), .val (.int v12), .val (.ref b15), .val (.long v23), .second, .val (.int v28), .val (.int v33), .unset, .unset, .unset, .unset] [(.long (v23 - (2 : Int64)))])) _
      refine XS.lconst X36.here hx rfl (hb hby at_102) ?_
      exact k)
    obtain ⟨_, _, ⟨T38, L38, k38, n38⟩, -, X38, ⟨Lc38, hQ38, l38, y38, z38⟩, st38⟩ := Jvm.LawKit.callS X36 hx (y := (⟨"java/lang/Math", "max", "(JJ)J"⟩ : MethodName)) hown (mvT hZ (hw _ (List.mem_of_getElem? (i := 69) rfl))) (mvT hZ (hw _ (List.mem_of_getElem? (i := 70) rfl))) (mvT hZ (hw _ (List.mem_of_getElem? (i := 71) rfl))) (mvT hZ (hw _ (List.mem_of_getElem? (i := 72) rfl))) (by decide) (backOf (W := 0) (rm10 l Z aw hw [] (v23 - (2 : Int64)) (0 : Int64) T36.heap n0 Z36) hZ (hw _ (List.mem_of_getElem? (i := 72) rfl)) (hw _ (List.mem_of_getElem? (i := 71) rfl)) (by decide) (by decide)) (g := (mkF m 103 #[.val (.int p0), .val (.int p1), .val (.int p2), .val (.int v2), .val (.int v5), .val (.int j9), .val (.int v12), .val (.ref b15), .val (.long v23), .second, .val (.int v28), .val (.int v33), .unset, .unset, .unset, .unset] [(.long (0 : Int64)), (.long (v23 - (2 : Int64)))])) rfl (by rw [hml]; rfl) (argsL := [(.long (v23 - (2 : Int64))), (.long (0 : Int64))]) (rest := []) (lenOf pd_3 rfl) rfl (by show 2 * 0 + _ ≤ _; exact Nat.le_of_eq rfl) (hb hby at_103) (fun _ _ => ⟨rfl, rfl, (by decide : 4 + 0 ≤ _), (by decide : 23 + 0 ≤ _)⟩)
    dsimp only [Pt.U, Pt.locs, Pt.cells, Pt.slots] at X38 l38 y38 z38 st38 hQ38
    subst l38 y38 z38
    obtain ⟨rfl, N38q, e38⟩ := hQ38
    have N38 := Fr.app N36 N38q
    have pre39 : ∀ t, Steps p.tables e below (T38.setTop (mkF m 110 #[.val (.int p0), .val (.int p1), .val (.int p2), .val (.int v2), .val (.int v5), .val (.int j9), .val (.int v12), .val (.ref b15), .val (.long v23), .second, .val (.int v28), .val (.int v33), .unset, .unset, .unset, .unset] [(.long ((f10 (v23 - (2 : Int64)) (0 : Int64)) + (v12.toInt64)))])) t → Steps p.tables e below (s₁.setTop (entryFrame m #[(.int p0), (.int p1), (.int p2)] maxLocals)) t := fun t k => pre37 t (by
      show Steps p.tables e below (T36.setTop (mkF m 103 #[.val (.int p0), .val (.int p1), .val (.int p2), .val (.int v2), .val (.int v5), .val (.int j9), .val (.int v12), .val (.ref b15), .val (.long v23), .second, .val (.int v28), .val (.int v33), .unset, .unset, .unset, .unset] [(.long (0 : Int64)), (.long (v23 - (2 : Int64)))])) _
      refine st38 _ ?_
      show Steps p.tables e below (T38.setTop (mkF m 106 #[.val (.int p0), .val (.int p1), .val (.int p2), .val (.int v2), .val (.int v5), .val (.int j9), .val (.int v12), .val (.ref b15), .val (.long v23), .second, .val (.int v28), .val (.int v33), .unset, .unset, .unset, .unset] [(.long (f10 (v23 - (2 : Int64)) (0 : Int64)))])) _
      refine XS.iload X38.here hx rfl (hb hby at_106) rfl ?_
      show Steps p.tables e below (T38.setTop (mkF m 108 #[.val (.int p0), .val (.int p1), .val (.int p2), .val (.int v2), .val (.int v5), .val (.int j9), .val (.int v12), .val (.ref b15), .val (.long v23), .second, .val (.int v28), .val (.int v33), .unset, .unset, .unset, .unset] [(.int v12), (.long (f10 (v23 - (2 : Int64)) (0 : Int64)))])) _
      refine XS.i2l X38.here hx rfl (hb hby at_108) rfl ?_
      show Steps p.tables e below (T38.setTop (mkF m 109 #[.val (.int p0), .val (.int p1), .val (.int p2), .val (.int v2), .val (.int v5), .val (.int j9), .val (.int v12), .val (.ref b15), .val (.long v23), .second, .val (.int v28), .val (.int v33), .unset, .unset, .unset, .unset] [(.long (v12.toInt64)), (.long (f10 (v23 - (2 : Int64)) (0 : Int64)))])) _
      refine XS.ladd X38.here hx rfl (hb hby at_109) rfl ?_
      exact k)
    obtain ⟨v40, hv40⟩ : ∃ z : Int64, z = ((f10 (v23 - (2 : Int64)) (0 : Int64)) + (v12.toInt64)) := ⟨_, rfl⟩
    have pre41 : ∀ t, Steps p.tables e below (T38.setTop (mkF m 110 #[.val (.int p0), .val (.int p1), .val (.int p2), .val (.int v2), .val (.int v5), .val (.int j9), .val (.int v12), .val (.ref b15), .val (.long v23), .second, .val (.int v28), .val (.int v33), .unset, .unset, .unset, .unset] [(.long v40)])) t → Steps p.tables e below (s₁.setTop (entryFrame m #[(.int p0), (.int p1), (.int p2)] maxLocals)) t := fun t k => pre39 t (by rw [hv40] at k; exact k)
    have pre42 : ∀ t, Steps p.tables e below (T38.setTop (mkF m 114 #[.val (.int p0), .val (.int p1), .val (.int p2), .val (.int v2), .val (.int v5), .val (.int j9), .val (.int v12), .val (.ref b15), .val (.long v23), .second, .val (.int v28), .val (.int v33), .val (.long v40), .second, .unset, .unset] [(.ref b15)])) t → Steps p.tables e below (s₁.setTop (entryFrame m #[(.int p0), (.int p1), (.int p2)] maxLocals)) t := fun t k => pre41 t (by
      show Steps p.tables e below (T38.setTop (mkF m 110 #[.val (.int p0), .val (.int p1), .val (.int p2), .val (.int v2), .val (.int v5), .val (.int j9), .val (.int v12), .val (.ref b15), .val (.long v23), .second, .val (.int v28), .val (.int v33), .unset, .unset, .unset, .unset] [(.long v40)])) _
      refine XS.lstore X38.here hx rfl (hb hby at_110) rfl (l' := #[.val (.int p0), .val (.int p1), .val (.int p2), .val (.int v2), .val (.int v5), .val (.int j9), .val (.int v12), .val (.ref b15), .val (.long v23), .second, .val (.int v28), .val (.int v33), .val (.long v40), .second, .unset, .unset]) rfl ?_
      show Steps p.tables e below (T38.setTop (mkF m 112 #[.val (.int p0), .val (.int p1), .val (.int p2), .val (.int v2), .val (.int v5), .val (.int j9), .val (.int v12), .val (.ref b15), .val (.long v23), .second, .val (.int v28), .val (.int v33), .val (.long v40), .second, .unset, .unset] [])) _
      refine XS.aload X38.here hx rfl (hb hby at_112) rfl rfl ?_
      exact k)
    obtain ⟨cq43, kq43, q43a, q43b, q43c⟩ := isOf hZ e38 A15_36
    obtain ⟨_, _, ⟨T43, L43, k43, n43⟩, -, X43, ⟨Lc43, hQ43, l43, y43, z43⟩, st43⟩ := X38.virtualBack hx (y := (⟨"com/example/covenant/covenant/model/InheritedNames", "takeRoom", "()Z"⟩ : MethodName)) (z := (⟨"com/example/covenant/covenant/model/InheritedNames", "takeRoom", "()Z"⟩ : MethodName)) hown (mvT hZ (hw _ (List.mem_of_getElem? (i := 63) rfl))) (mvT hZ (hw _ (List.mem_of_getElem? (i := 64) rfl))) (notFace_of_selects (args := #[]) (mvT hZ (hw _ (List.mem_of_getElem? (i := 66) rfl)))) (mvT hZ (hw _ (List.mem_of_getElem? (i := 66) rfl))) (mvT hZ (hw _ (List.mem_of_getElem? (i := 65) rfl))) (by decide) (backOf (W := 0) (rm9 l Z aw hw [] b15 ((f9_a0_room (f9_a0_room ((0 : Int64) + (v2.toInt64)))) + (v12.toInt64)) T36.heap n0 Z36 F36_a0_room' A15_36 g_b15) hZ (hw _ (List.mem_of_getElem? (i := 67) rfl)) (hw _ (List.mem_of_getElem? (i := 3) rfl)) (by decide) (by decide)) q43a q43c (g := (mkF m 114 #[.val (.int p0), .val (.int p1), .val (.int p2), .val (.int v2), .val (.int v5), .val (.int j9), .val (.int v12), .val (.ref b15), .val (.long v23), .second, .val (.int v28), .val (.int v33), .val (.long v40), .second, .unset, .unset] [(.ref b15)])) rfl (by rw [hml]; rfl) (Steps.refl _) (argsL := []) (rest := []) (lenOf pd_2 rfl) rfl (by show 2 * 0 + _ ≤ _; exact Nat.le_of_eq rfl) (hb hby at_114) (fun _ _ => ⟨rfl, e38, (by decide : 4 + 0 ≤ _), (by decide : 23 + 0 ≤ _)⟩)
    dsimp only [Pt.U, Pt.locs, Pt.cells, Pt.slots] at X43 l43 y43 z43 st43 hQ43
    subst l43 y43 z43
    obtain ⟨rfl, N43q, K43q, E43_a0, F43_a0_room⟩ := hQ43
    have N43 := Fr.app N38 N43q
    have S_DEFAULTCAPACITY_EMPTY_ELEMENTDATA_43 := own_sta_keep S_DEFAULTCAPACITY_EMPTY_ELEMENTDATA_36 K43q (allS (own_exa_plain A15_36) all0)
    have A15_43 := A15_36.keep K43q
    have F43_a0_room' : Fld Z T43.heap b15 "com/example/covenant/covenant/model/InheritedNames" "room" "J" (.long (f9_a0_room ((f9_a0_room (f9_a0_room ((0 : Int64) + (v2.toInt64)))) + (v12.toInt64)))) := F43_a0_room
    have K43 : Keep h0 T43.heap [] := K36.trans K43q (allS (Or.inr sz_b15) all0)
    have Z43 : n0 ≤ T43.heap.size := Nat.le_trans Z36 K43q.1
    have pre44 : ∀ t, Steps p.tables e below (T43.setTop (mkF m 117 #[.val (.int p0), .val (.int p1), .val (.int p2), .val (.int v2), .val (.int v5), .val (.int j9), .val (.int v12), .val (.ref b15), .val (.long v23), .second, .val (.int v28), .val (.int v33), .val (.long v40), .second, .unset, .unset] [(.int (f9 ((f9_a0_room (f9_a0_room ((0 : Int64) + (v2.toInt64)))) + (v12.toInt64))))])) t → Steps p.tables e below (s₁.setTop (entryFrame m #[(.int p0), (.int p1), (.int p2)] maxLocals)) t := fun t k => pre42 t (by
      show Steps p.tables e below (T38.setTop (mkF m 114 #[.val (.int p0), .val (.int p1), .val (.int p2), .val (.int v2), .val (.int v5), .val (.int j9), .val (.int v12), .val (.ref b15), .val (.long v23), .second, .val (.int v28), .val (.int v33), .val (.long v40), .second, .unset, .unset] [(.ref b15)])) _
      refine st43.trans ?_
      exact k)
    obtain ⟨v45, hv45⟩ : ∃ z : Int32, z = (f9 ((f9_a0_room (f9_a0_room ((0 : Int64) + (v2.toInt64)))) + (v12.toInt64))) := ⟨_, rfl⟩
    have pre46 : ∀ t, Steps p.tables e below (T43.setTop (mkF m 117 #[.val (.int p0), .val (.int p1), .val (.int p2), .val (.int v2), .val (.int v5), .val (.int j9), .val (.int v12), .val (.ref b15), .val (.long v23), .second, .val (.int v28), .val (.int v33), .val (.long v40), .second, .unset, .unset] [(.int v45)])) t → Steps p.tables e below (s₁.setTop (entryFrame m #[(.int p0), (.int p1), (.int p2)] maxLocals)) t := fun t k => pre44 t (by rw [hv45] at k; exact k)
    have pre47 : ∀ t, Steps p.tables e below (T43.setTop (mkF m 121 #[.val (.int p0), .val (.int p1), .val (.int p2), .val (.int v2), .val (.int v5), .val (.int j9), .val (.int v12), .val (.ref b15), .val (.long v23), .second, .val (.int v28), .val (.int v33), .val (.long v40), .second, .val (.int v45), .unset] [(.ref b15)])) t → Steps p.tables e below (s₁.setTop (entryFrame m #[(.int p0), (.int p1), (.int p2)] maxLocals)) t := fun t k => pre46 t (by
      show Steps p.tables e below (T43.setTop (mkF m 117 #[.val (.int p0), .val (.int p1), .val (.int p2), .val (.int v2), .val (.int v5), .val (.int j9), .val (.int v12), .val (.ref b15), .val (.long v23), .second, .val (.int v28), .val (.int v33), .val (.long v40), .second, .unset, .unset] [(.int v45)])) _
      refine XS.istore X43.here hx rfl (hb hby at_117) rfl (l' := #[.val (.int p0), .val (.int p1), .val (.int p2), .val (.int v2), .val (.int v5), .val (.int j9), .val (.int v12), .val (.ref b15), .val (.long v23), .second, .val (.int v28), .val (.int v33), .val (.long v40), .second, .val (.int v45), .unset]) rfl ?_
      show Steps p.tables e below (T43.setTop (mkF m 119 #[.val (.int p0), .val (.int p1), .val (.int p2), .val (.int v2), .val (.int v5), .val (.int j9), .val (.int v12), .val (.ref b15), .val (.long v23), .second, .val (.int v28), .val (.int v33), .val (.long v40), .second, .val (.int v45), .unset] [])) _
      refine XS.aload X43.here hx rfl (hb hby at_119) rfl rfl ?_
      exact k)
    obtain ⟨cq48, kq48, q48a, q48b, q48c⟩ := isOf hZ rfl A15_43
    obtain ⟨_, _, ⟨T48, L48, k48, n48⟩, -, X48, ⟨Lc48, hQ48, l48, y48, z48⟩, st48⟩ := X43.virtualBack hx (y := (⟨"com/example/covenant/covenant/model/InheritedNames", "takeRoom", "()Z"⟩ : MethodName)) (z := (⟨"com/example/covenant/covenant/model/InheritedNames", "takeRoom", "()Z"⟩ : MethodName)) hown (mvT hZ (hw _ (List.mem_of_getElem? (i := 63) rfl))) (mvT hZ (hw _ (List.mem_of_getElem? (i := 64) rfl))) (notFace_of_selects (args := #[]) (mvT hZ (hw _ (List.mem_of_getElem? (i := 66) rfl)))) (mvT hZ (hw _ (List.mem_of_getElem? (i := 66) rfl))) (mvT hZ (hw _ (List.mem_of_getElem? (i := 65) rfl))) (by decide) (backOf (W := 0) (rm9 l Z aw hw [] b15 (f9_a0_room ((f9_a0_room (f9_a0_room ((0 : Int64) + (v2.toInt64)))) + (v12.toInt64))) T43.heap n0 Z43 F43_a0_room' A15_43 g_b15) hZ (hw _ (List.mem_of_getElem? (i := 67) rfl)) (hw _ (List.mem_of_getElem? (i := 3) rfl)) (by decide) (by decide)) q48a q48c (g := (mkF m 121 #[.val (.int p0), .val (.int p1), .val (.int p2), .val (.int v2), .val (.int v5), .val (.int j9), .val (.int v12), .val (.ref b15), .val (.long v23), .second, .val (.int v28), .val (.int v33), .val (.long v40), .second, .val (.int v45), .unset] [(.ref b15)])) rfl (by rw [hml]; rfl) (Steps.refl _) (argsL := []) (rest := []) (lenOf pd_2 rfl) rfl (by show 2 * 0 + _ ≤ _; exact Nat.le_of_eq rfl) (hb hby at_121) (fun _ _ => ⟨rfl, rfl, (by decide : 4 + 0 ≤ _), (by decide : 23 + 0 ≤ _)⟩)
    dsimp only [Pt.U, Pt.locs, Pt.cells, Pt.slots] at X48 l48 y48 z48 st48 hQ48
    subst l48 y48 z48
    obtain ⟨rfl, N48q, K48q, E48_a0, F48_a0_room⟩ := hQ48
    have N48 := Fr.app N43 N48q
    have S_DEFAULTCAPACITY_EMPTY_ELEMENTDATA_48 := own_sta_keep S_DEFAULTCAPACITY_EMPTY_ELEMENTDATA_43 K48q (allS (own_exa_plain A15_43) all0)
    have A15_48 := A15_43.keep K48q
    have F48_a0_room' : Fld Z T48.heap b15 "com/example/covenant/covenant/model/InheritedNames" "room" "J" (.long (f9_a0_room (f9_a0_room ((f9_a0_room (f9_a0_room ((0 : Int64) + (v2.toInt64)))) + (v12.toInt64))))) := F48_a0_room
    have K48 : Keep h0 T48.heap [] := K43.trans K48q (allS (Or.inr sz_b15) all0)
    have Z48 : n0 ≤ T48.heap.size := Nat.le_trans Z43 K48q.1
    have pre49 : ∀ t, Steps p.tables e below (T48.setTop (mkF m 124 #[.val (.int p0), .val (.int p1), .val (.int p2), .val (.int v2), .val (.int v5), .val (.int j9), .val (.int v12), .val (.ref b15), .val (.long v23), .second, .val (.int v28), .val (.int v33), .val (.long v40), .second, .val (.int v45), .unset] [(.int (f9 (f9_a0_room ((f9_a0_room (f9_a0_room ((0 : Int64) + (v2.toInt64)))) + (v12.toInt64)))))])) t → Steps p.tables e below (s₁.setTop (entryFrame m #[(.int p0), (.int p1), (.int p2)] maxLocals)) t := fun t k => pre47 t (by
      show Steps p.tables e below (T43.setTop (mkF m 121 #[.val (.int p0), .val (.int p1), .val (.int p2), .val (.int v2), .val (.int v5), .val (.int j9), .val (.int v12), .val (.ref b15), .val (.long v23), .second, .val (.int v28), .val (.int v33), .val (.long v40), .second, .val (.int v45), .unset] [(.ref b15)])) _
      refine st48.trans ?_
      exact k)
    obtain ⟨v50, hv50⟩ : ∃ z : Int32, z = (f9 (f9_a0_room ((f9_a0_room (f9_a0_room ((0 : Int64) + (v2.toInt64)))) + (v12.toInt64)))) := ⟨_, rfl⟩
    have pre51 : ∀ t, Steps p.tables e below (T48.setTop (mkF m 124 #[.val (.int p0), .val (.int p1), .val (.int p2), .val (.int v2), .val (.int v5), .val (.int j9), .val (.int v12), .val (.ref b15), .val (.long v23), .second, .val (.int v28), .val (.int v33), .val (.long v40), .second, .val (.int v45), .unset] [(.int v50)])) t → Steps p.tables e below (s₁.setTop (entryFrame m #[(.int p0), (.int p1), (.int p2)] maxLocals)) t := fun t k => pre49 t (by rw [hv50] at k; exact k)
    have pre52 : ∀ t, Steps p.tables e below (T48.setTop (mkF m 132 #[.val (.int p0), .val (.int p1), .val (.int p2), .val (.int v2), .val (.int v5), .val (.int j9), .val (.int v12), .val (.ref b15), .val (.long v23), .second, .val (.int v28), .val (.int v33), .val (.long v40), .second, .val (.int v45), .val (.int v50)] [(.int (lcmpW v23 (0 : Int64))), (.int v28)])) t → Steps p.tables e below (s₁.setTop (entryFrame m #[(.int p0), (.int p1), (.int p2)] maxLocals)) t := fun t k => pre51 t (by
      show Steps p.tables e below (T48.setTop (mkF m 124 #[.val (.int p0), .val (.int p1), .val (.int p2), .val (.int v2), .val (.int v5), .val (.int j9), .val (.int v12), .val (.ref b15), .val (.long v23), .second, .val (.int v28), .val (.int v33), .val (.long v40), .second, .val (.int v45), .unset] [(.int v50)])) _
      refine XS.istore X48.here hx rfl (hb hby at_124) rfl (l' := #[.val (.int p0), .val (.int p1), .val (.int p2), .val (.int v2), .val (.int v5), .val (.int j9), .val (.int v12), .val (.ref b15), .val (.long v23), .second, .val (.int v28), .val (.int v33), .val (.long v40), .second, .val (.int v45), .val (.int v50)]) rfl ?_
      show Steps p.tables e below (T48.setTop (mkF m 126 #[.val (.int p0), .val (.int p1), .val (.int p2), .val (.int v2), .val (.int v5), .val (.int j9), .val (.int v12), .val (.ref b15), .val (.long v23), .second, .val (.int v28), .val (.int v33), .val (.long v40), .second, .val (.int v45), .val (.int v50)] [])) _
      refine XS.iload X48.here hx rfl (hb hby at_126) rfl ?_
      show Steps p.tables e below (T48.setTop (mkF m 128 #[.val (.int p0), .val (.int p1), .val (.int p2), .val (.int v2), .val (.int v5), .val (.int j9), .val (.int v12), .val (.ref b15), .val (.long v23), .second, .val (.int v28), .val (.int v33), .val (.long v40), .second, .val (.int v45), .val (.int v50)] [(.int v28)])) _
      refine XS.lload X48.here hx rfl (hb hby at_128) rfl ?_
      show Steps p.tables e below (T48.setTop (mkF m 130 #[.val (.int p0), .val (.int p1), .val (.int p2), .val (.int v2), .val (.int v5), .val (.int j9), .val (.int v12), .val (.ref b15), .val (.long v23), .second, .val (.int v28), .val (.int v33), .val (.long v40), .second, .val (.int v45), .val (.int v50)] [(.long v23), (.int v28)])) _
      refine XS.lconst X48.here hx rfl (hb hby at_130) ?_
      show Steps p.tables e below (T48.setTop (mkF m 131 #[.val (.int p0), .val (.int p1), .val (.int p2), .val (.int v2), .val (.int v5), .val (.int j9), .val (.int v12), .val (.ref b15), .val (.long v23), .second, .val (.int v28), .val (.int v33), .val (.long v40), .second, .val (.int v45), .val (.int v50)] [(.long (0 : Int64)), (.long v23), (.int v28)])) _
      refine XS.lcmp X48.here hx rfl (hb hby at_131) rfl ?_
      exact k)
    obtain ⟨j54, hj54, pre55⟩ : ∃ (j54 : Int32), j54 = (if (0 : Int64) < v23 then (1 : Int32) else (0 : Int32)) ∧ ∀ t, Steps p.tables e below (T48.setTop (mkF m 140 #[.val (.int p0), .val (.int p1), .val (.int p2), .val (.int v2), .val (.int v5), .val (.int j9), .val (.int v12), .val (.ref b15), .val (.long v23), .second, .val (.int v28), .val (.int v33), .val (.long v40), .second, .val (.int v45), .val (.int v50)] [(.int j54), (.int v28)])) t → Steps p.tables e below (s₁.setTop (entryFrame m #[(.int p0), (.int p1), (.int p2)] maxLocals)) t := by
      by_cases hc53 : (0 : Int64) < v23
      · exact ⟨(1 : Int32), (by rw [if_pos hc53]), fun t k => pre52 t (by
          show Steps p.tables e below (T48.setTop (mkF m 132 #[.val (.int p0), .val (.int p1), .val (.int p2), .val (.int v2), .val (.int v5), .val (.int j9), .val (.int v12), .val (.ref b15), .val (.long v23), .second, .val (.int v28), .val (.int v33), .val (.long v40), .second, .val (.int v45), .val (.int v50)] [(.int (lcmpW v23 (0 : Int64))), (.int v28)])) _
          refine XS.ifNo X48.here hx rfl (hb hby at_132) rfl ((if0 _ _).trans (tlt ((lw_gt v23 (0 : Int64)).mpr hc53)).2.2.2) ?_
          show Steps p.tables e below (T48.setTop (mkF m 135 #[.val (.int p0), .val (.int p1), .val (.int p2), .val (.int v2), .val (.int v5), .val (.int j9), .val (.int v12), .val (.ref b15), .val (.long v23), .second, .val (.int v28), .val (.int v33), .val (.long v40), .second, .val (.int v45), .val (.int v50)] [(.int v28)])) _
          refine XS.iconst X48.here hx rfl (hb hby at_135) ?_
          show Steps p.tables e below (T48.setTop (mkF m 136 #[.val (.int p0), .val (.int p1), .val (.int p2), .val (.int v2), .val (.int v5), .val (.int j9), .val (.int v12), .val (.ref b15), .val (.long v23), .second, .val (.int v28), .val (.int v33), .val (.long v40), .second, .val (.int v45), .val (.int v50)] [(.int (1 : Int32)), (.int v28)])) _
          refine XS.goto X48.here hx rfl (pc0 := 136) (pc' := 140) rfl (hb hby at_136) (by decide) (by decide) ?_
          exact k)⟩
      · exact ⟨(0 : Int32), (by rw [if_neg hc53]), fun t k => pre52 t (by
          show Steps p.tables e below (T48.setTop (mkF m 132 #[.val (.int p0), .val (.int p1), .val (.int p2), .val (.int v2), .val (.int v5), .val (.int j9), .val (.int v12), .val (.ref b15), .val (.long v23), .second, .val (.int v28), .val (.int v33), .val (.long v40), .second, .val (.int v45), .val (.int v50)] [(.int (lcmpW v23 (0 : Int64))), (.int v28)])) _
          refine XS.ifYes X48.here hx rfl (pc0 := 132) (pc' := 139) rfl (hb hby at_132) rfl ((if0 _ _).trans (flt (fun q => hc53 ((lw_gt v23 (0 : Int64)).mp q))).2.2.2) (by decide) (by decide) ?_
          show Steps p.tables e below (T48.setTop (mkF m 139 #[.val (.int p0), .val (.int p1), .val (.int p2), .val (.int v2), .val (.int v5), .val (.int j9), .val (.int v12), .val (.ref b15), .val (.long v23), .second, .val (.int v28), .val (.int v33), .val (.long v40), .second, .val (.int v45), .val (.int v50)] [(.int v28)])) _
          refine XS.iconst X48.here hx rfl (hb hby at_139) ?_
          exact k)⟩
    obtain ⟨j72, hj72, pre73⟩ : ∃ (j72 : Int32), j72 = (if v28 = j54 then (let j59 : Int32 := (if (1 : Int64) < v23 then (1 : Int32) else (0 : Int32)); (if v33 = j59 then (let j64 : Int32 := (if (0 : Int64) < v40 then (1 : Int32) else (0 : Int32)); (if v45 = j64 then (let j69 : Int32 := (if (1 : Int64) < v40 then (1 : Int32) else (0 : Int32)); (if v50 = j69 then (1 : Int32) else (0 : Int32))) else (0 : Int32))) else (0 : Int32))) else (0 : Int32)) ∧ ∀ t, Steps p.tables e below (T48.setTop (mkF m 199 #[.val (.int p0), .val (.int p1), .val (.int p2), .val (.int v2), .val (.int v5), .val (.int j9), .val (.int v12), .val (.ref b15), .val (.long v23), .second, .val (.int v28), .val (.int v33), .val (.long v40), .second, .val (.int v45), .val (.int v50)] [(.int j72)])) t → Steps p.tables e below (s₁.setTop (entryFrame m #[(.int p0), (.int p1), (.int p2)] maxLocals)) t := by
      by_cases hc56 : v28 = j54
      · have pre57 : ∀ t, Steps p.tables e below (T48.setTop (mkF m 149 #[.val (.int p0), .val (.int p1), .val (.int p2), .val (.int v2), .val (.int v5), .val (.int j9), .val (.int v12), .val (.ref b15), .val (.long v23), .second, .val (.int v28), .val (.int v33), .val (.long v40), .second, .val (.int v45), .val (.int v50)] [(.int (lcmpW v23 (1 : Int64))), (.int v33)])) t → Steps p.tables e below (s₁.setTop (entryFrame m #[(.int p0), (.int p1), (.int p2)] maxLocals)) t := fun t k => pre55 t (by
          show Steps p.tables e below (T48.setTop (mkF m 140 #[.val (.int p0), .val (.int p1), .val (.int p2), .val (.int v2), .val (.int v5), .val (.int j9), .val (.int v12), .val (.ref b15), .val (.long v23), .second, .val (.int v28), .val (.int v33), .val (.long v40), .second, .val (.int v45), .val (.int v50)] [(.int j54), (.int v28)])) _
          refine XS.icmpNo X48.here hx rfl (hb hby at_140) rfl (teq hc56).2 ?_
          show Steps p.tables e below (T48.setTop (mkF m 143 #[.val (.int p0), .val (.int p1), .val (.int p2), .val (.int v2), .val (.int v5), .val (.int j9), .val (.int v12), .val (.ref b15), .val (.long v23), .second, .val (.int v28), .val (.int v33), .val (.long v40), .second, .val (.int v45), .val (.int v50)] [])) _
          refine XS.iload X48.here hx rfl (hb hby at_143) rfl ?_
          show Steps p.tables e below (T48.setTop (mkF m 145 #[.val (.int p0), .val (.int p1), .val (.int p2), .val (.int v2), .val (.int v5), .val (.int j9), .val (.int v12), .val (.ref b15), .val (.long v23), .second, .val (.int v28), .val (.int v33), .val (.long v40), .second, .val (.int v45), .val (.int v50)] [(.int v33)])) _
          refine XS.lload X48.here hx rfl (hb hby at_145) rfl ?_
          show Steps p.tables e below (T48.setTop (mkF m 147 #[.val (.int p0), .val (.int p1), .val (.int p2), .val (.int v2), .val (.int v5), .val (.int j9), .val (.int v12), .val (.ref b15), .val (.long v23), .second, .val (.int v28), .val (.int v33), .val (.long v40), .second, .val (.int v45), .val (.int v50)] [(.long v23), (.int v33)])) _
          refine XS.lconst X48.here hx rfl (hb hby at_147) ?_
          show Steps p.tables e below (T48.setTop (mkF m 148 #[.val (.int p0), .val (.int p1), .val (.int p2), .val (.int v2), .val (.int v5), .val (.int j9), .val (.int v12), .val (.ref b15), .val (.long v23), .second, .val (.int v28), .val (.int v33), .val (.long v40), .second, .val (.int v45), .val (.int v50)] [(.long (1 : Int64)), (.long v23), (.int v33)])) _
          refine XS.lcmp X48.here hx rfl (hb hby at_148) rfl ?_
          exact k)
        obtain ⟨j59, hj59, pre60⟩ : ∃ (j59 : Int32), j59 = (if (1 : Int64) < v23 then (1 : Int32) else (0 : Int32)) ∧ ∀ t, Steps p.tables e below (T48.setTop (mkF m 157 #[.val (.int p0), .val (.int p1), .val (.int p2), .val (.int v2), .val (.int v5), .val (.int j9), .val (.int v12), .val (.ref b15), .val (.long v23), .second, .val (.int v28), .val (.int v33), .val (.long v40), .second, .val (.int v45), .val (.int v50)] [(.int j59), (.int v33)])) t → Steps p.tables e below (s₁.setTop (entryFrame m #[(.int p0), (.int p1), (.int p2)] maxLocals)) t := by
          by_cases hc58 : (1 : Int64) < v23
          · exact ⟨(1 : Int32), (by rw [if_pos hc58]), fun t k => pre57 t (by
              show Steps p.tables e below (T48.setTop (mkF m 149 #[.val (.int p0), .val (.int p1), .val (.int p2), .val (.int v2), .val (.int v5), .val (.int j9), .val (.int v12), .val (.ref b15), .val (.long v23), .second, .val (.int v28), .val (.int v33), .val (.long v40), .second, .val (.int v45), .val (.int v50)] [(.int (lcmpW v23 (1 : Int64))), (.int v33)])) _
              refine XS.ifNo X48.here hx rfl (hb hby at_149) rfl ((if0 _ _).trans (tlt ((lw_gt v23 (1 : Int64)).mpr hc58)).2.2.2) ?_
              show Steps p.tables e below (T48.setTop (mkF m 152 #[.val (.int p0), .val (.int p1), .val (.int p2), .val (.int v2), .val (.int v5), .val (.int j9), .val (.int v12), .val (.ref b15), .val (.long v23), .second, .val (.int v28), .val (.int v33), .val (.long v40), .second, .val (.int v45), .val (.int v50)] [(.int v33)])) _
              refine XS.iconst X48.here hx rfl (hb hby at_152) ?_
              show Steps p.tables e below (T48.setTop (mkF m 153 #[.val (.int p0), .val (.int p1), .val (.int p2), .val (.int v2), .val (.int v5), .val (.int j9), .val (.int v12), .val (.ref b15), .val (.long v23), .second, .val (.int v28), .val (.int v33), .val (.long v40), .second, .val (.int v45), .val (.int v50)] [(.int (1 : Int32)), (.int v33)])) _
              refine XS.goto X48.here hx rfl (pc0 := 153) (pc' := 157) rfl (hb hby at_153) (by decide) (by decide) ?_
              exact k)⟩
          · exact ⟨(0 : Int32), (by rw [if_neg hc58]), fun t k => pre57 t (by
              show Steps p.tables e below (T48.setTop (mkF m 149 #[.val (.int p0), .val (.int p1), .val (.int p2), .val (.int v2), .val (.int v5), .val (.int j9), .val (.int v12), .val (.ref b15), .val (.long v23), .second, .val (.int v28), .val (.int v33), .val (.long v40), .second, .val (.int v45), .val (.int v50)] [(.int (lcmpW v23 (1 : Int64))), (.int v33)])) _
              refine XS.ifYes X48.here hx rfl (pc0 := 149) (pc' := 156) rfl (hb hby at_149) rfl ((if0 _ _).trans (flt (fun q => hc58 ((lw_gt v23 (1 : Int64)).mp q))).2.2.2) (by decide) (by decide) ?_
              show Steps p.tables e below (T48.setTop (mkF m 156 #[.val (.int p0), .val (.int p1), .val (.int p2), .val (.int v2), .val (.int v5), .val (.int j9), .val (.int v12), .val (.ref b15), .val (.long v23), .second, .val (.int v28), .val (.int v33), .val (.long v40), .second, .val (.int v45), .val (.int v50)] [(.int v33)])) _
              refine XS.iconst X48.here hx rfl (hb hby at_156) ?_
              exact k)⟩
        by_cases hc61 : v33 = j59
        · have pre62 : ∀ t, Steps p.tables e below (T48.setTop (mkF m 166 #[.val (.int p0), .val (.int p1), .val (.int p2), .val (.int v2), .val (.int v5), .val (.int j9), .val (.int v12), .val (.ref b15), .val (.long v23), .second, .val (.int v28), .val (.int v33), .val (.long v40), .second, .val (.int v45), .val (.int v50)] [(.int (lcmpW v40 (0 : Int64))), (.int v45)])) t → Steps p.tables e below (s₁.setTop (entryFrame m #[(.int p0), (.int p1), (.int p2)] maxLocals)) t := fun t k => pre60 t (by
            show Steps p.tables e below (T48.setTop (mkF m 157 #[.val (.int p0), .val (.int p1), .val (.int p2), .val (.int v2), .val (.int v5), .val (.int j9), .val (.int v12), .val (.ref b15), .val (.long v23), .second, .val (.int v28), .val (.int v33), .val (.long v40), .second, .val (.int v45), .val (.int v50)] [(.int j59), (.int v33)])) _
            refine XS.icmpNo X48.here hx rfl (hb hby at_157) rfl (teq hc61).2 ?_
            show Steps p.tables e below (T48.setTop (mkF m 160 #[.val (.int p0), .val (.int p1), .val (.int p2), .val (.int v2), .val (.int v5), .val (.int j9), .val (.int v12), .val (.ref b15), .val (.long v23), .second, .val (.int v28), .val (.int v33), .val (.long v40), .second, .val (.int v45), .val (.int v50)] [])) _
            refine XS.iload X48.here hx rfl (hb hby at_160) rfl ?_
            show Steps p.tables e below (T48.setTop (mkF m 162 #[.val (.int p0), .val (.int p1), .val (.int p2), .val (.int v2), .val (.int v5), .val (.int j9), .val (.int v12), .val (.ref b15), .val (.long v23), .second, .val (.int v28), .val (.int v33), .val (.long v40), .second, .val (.int v45), .val (.int v50)] [(.int v45)])) _
            refine XS.lload X48.here hx rfl (hb hby at_162) rfl ?_
            show Steps p.tables e below (T48.setTop (mkF m 164 #[.val (.int p0), .val (.int p1), .val (.int p2), .val (.int v2), .val (.int v5), .val (.int j9), .val (.int v12), .val (.ref b15), .val (.long v23), .second, .val (.int v28), .val (.int v33), .val (.long v40), .second, .val (.int v45), .val (.int v50)] [(.long v40), (.int v45)])) _
            refine XS.lconst X48.here hx rfl (hb hby at_164) ?_
            show Steps p.tables e below (T48.setTop (mkF m 165 #[.val (.int p0), .val (.int p1), .val (.int p2), .val (.int v2), .val (.int v5), .val (.int j9), .val (.int v12), .val (.ref b15), .val (.long v23), .second, .val (.int v28), .val (.int v33), .val (.long v40), .second, .val (.int v45), .val (.int v50)] [(.long (0 : Int64)), (.long v40), (.int v45)])) _
            refine XS.lcmp X48.here hx rfl (hb hby at_165) rfl ?_
            exact k)
          obtain ⟨j64, hj64, pre65⟩ : ∃ (j64 : Int32), j64 = (if (0 : Int64) < v40 then (1 : Int32) else (0 : Int32)) ∧ ∀ t, Steps p.tables e below (T48.setTop (mkF m 174 #[.val (.int p0), .val (.int p1), .val (.int p2), .val (.int v2), .val (.int v5), .val (.int j9), .val (.int v12), .val (.ref b15), .val (.long v23), .second, .val (.int v28), .val (.int v33), .val (.long v40), .second, .val (.int v45), .val (.int v50)] [(.int j64), (.int v45)])) t → Steps p.tables e below (s₁.setTop (entryFrame m #[(.int p0), (.int p1), (.int p2)] maxLocals)) t := by
            by_cases hc63 : (0 : Int64) < v40
            · exact ⟨(1 : Int32), (by rw [if_pos hc63]), fun t k => pre62 t (by
                show Steps p.tables e below (T48.setTop (mkF m 166 #[.val (.int p0), .val (.int p1), .val (.int p2), .val (.int v2), .val (.int v5), .val (.int j9), .val (.int v12), .val (.ref b15), .val (.long v23), .second, .val (.int v28), .val (.int v33), .val (.long v40), .second, .val (.int v45), .val (.int v50)] [(.int (lcmpW v40 (0 : Int64))), (.int v45)])) _
                refine XS.ifNo X48.here hx rfl (hb hby at_166) rfl ((if0 _ _).trans (tlt ((lw_gt v40 (0 : Int64)).mpr hc63)).2.2.2) ?_
                show Steps p.tables e below (T48.setTop (mkF m 169 #[.val (.int p0), .val (.int p1), .val (.int p2), .val (.int v2), .val (.int v5), .val (.int j9), .val (.int v12), .val (.ref b15), .val (.long v23), .second, .val (.int v28), .val (.int v33), .val (.long v40), .second, .val (.int v45), .val (.int v50)] [(.int v45)])) _
                refine XS.iconst X48.here hx rfl (hb hby at_169) ?_
                show Steps p.tables e below (T48.setTop (mkF m 170 #[.val (.int p0), .val (.int p1), .val (.int p2), .val (.int v2), .val (.int v5), .val (.int j9), .val (.int v12), .val (.ref b15), .val (.long v23), .second, .val (.int v28), .val (.int v33), .val (.long v40), .second, .val (.int v45), .val (.int v50)] [(.int (1 : Int32)), (.int v45)])) _
                refine XS.goto X48.here hx rfl (pc0 := 170) (pc' := 174) rfl (hb hby at_170) (by decide) (by decide) ?_
                exact k)⟩
            · exact ⟨(0 : Int32), (by rw [if_neg hc63]), fun t k => pre62 t (by
                show Steps p.tables e below (T48.setTop (mkF m 166 #[.val (.int p0), .val (.int p1), .val (.int p2), .val (.int v2), .val (.int v5), .val (.int j9), .val (.int v12), .val (.ref b15), .val (.long v23), .second, .val (.int v28), .val (.int v33), .val (.long v40), .second, .val (.int v45), .val (.int v50)] [(.int (lcmpW v40 (0 : Int64))), (.int v45)])) _
                refine XS.ifYes X48.here hx rfl (pc0 := 166) (pc' := 173) rfl (hb hby at_166) rfl ((if0 _ _).trans (flt (fun q => hc63 ((lw_gt v40 (0 : Int64)).mp q))).2.2.2) (by decide) (by decide) ?_
                show Steps p.tables e below (T48.setTop (mkF m 173 #[.val (.int p0), .val (.int p1), .val (.int p2), .val (.int v2), .val (.int v5), .val (.int j9), .val (.int v12), .val (.ref b15), .val (.long v23), .second, .val (.int v28), .val (.int v33), .val (.long v40), .second, .val (.int v45), .val (.int v50)] [(.int v45)])) _
                refine XS.iconst X48.here hx rfl (hb hby at_173) ?_
                exact k)⟩
          by_cases hc66 : v45 = j64
          · have pre67 : ∀ t, Steps p.tables e below (T48.setTop (mkF m 183 #[.val (.int p0), .val (.int p1), .val (.int p2), .val (.int v2), .val (.int v5), .val (.int j9), .val (.int v12), .val (.ref b15), .val (.long v23), .second, .val (.int v28), .val (.int v33), .val (.long v40), .second, .val (.int v45), .val (.int v50)] [(.int (lcmpW v40 (1 : Int64))), (.int v50)])) t → Steps p.tables e below (s₁.setTop (entryFrame m #[(.int p0), (.int p1), (.int p2)] maxLocals)) t := fun t k => pre65 t (by
              show Steps p.tables e below (T48.setTop (mkF m 174 #[.val (.int p0), .val (.int p1), .val (.int p2), .val (.int v2), .val (.int v5), .val (.int j9), .val (.int v12), .val (.ref b15), .val (.long v23), .second, .val (.int v28), .val (.int v33), .val (.long v40), .second, .val (.int v45), .val (.int v50)] [(.int j64), (.int v45)])) _
              refine XS.icmpNo X48.here hx rfl (hb hby at_174) rfl (teq hc66).2 ?_
              show Steps p.tables e below (T48.setTop (mkF m 177 #[.val (.int p0), .val (.int p1), .val (.int p2), .val (.int v2), .val (.int v5), .val (.int j9), .val (.int v12), .val (.ref b15), .val (.long v23), .second, .val (.int v28), .val (.int v33), .val (.long v40), .second, .val (.int v45), .val (.int v50)] [])) _
              refine XS.iload X48.here hx rfl (hb hby at_177) rfl ?_
              show Steps p.tables e below (T48.setTop (mkF m 179 #[.val (.int p0), .val (.int p1), .val (.int p2), .val (.int v2), .val (.int v5), .val (.int j9), .val (.int v12), .val (.ref b15), .val (.long v23), .second, .val (.int v28), .val (.int v33), .val (.long v40), .second, .val (.int v45), .val (.int v50)] [(.int v50)])) _
              refine XS.lload X48.here hx rfl (hb hby at_179) rfl ?_
              show Steps p.tables e below (T48.setTop (mkF m 181 #[.val (.int p0), .val (.int p1), .val (.int p2), .val (.int v2), .val (.int v5), .val (.int j9), .val (.int v12), .val (.ref b15), .val (.long v23), .second, .val (.int v28), .val (.int v33), .val (.long v40), .second, .val (.int v45), .val (.int v50)] [(.long v40), (.int v50)])) _
              refine XS.lconst X48.here hx rfl (hb hby at_181) ?_
              show Steps p.tables e below (T48.setTop (mkF m 182 #[.val (.int p0), .val (.int p1), .val (.int p2), .val (.int v2), .val (.int v5), .val (.int j9), .val (.int v12), .val (.ref b15), .val (.long v23), .second, .val (.int v28), .val (.int v33), .val (.long v40), .second, .val (.int v45), .val (.int v50)] [(.long (1 : Int64)), (.long v40), (.int v50)])) _
              refine XS.lcmp X48.here hx rfl (hb hby at_182) rfl ?_
              exact k)
            obtain ⟨j69, hj69, pre70⟩ : ∃ (j69 : Int32), j69 = (if (1 : Int64) < v40 then (1 : Int32) else (0 : Int32)) ∧ ∀ t, Steps p.tables e below (T48.setTop (mkF m 191 #[.val (.int p0), .val (.int p1), .val (.int p2), .val (.int v2), .val (.int v5), .val (.int j9), .val (.int v12), .val (.ref b15), .val (.long v23), .second, .val (.int v28), .val (.int v33), .val (.long v40), .second, .val (.int v45), .val (.int v50)] [(.int j69), (.int v50)])) t → Steps p.tables e below (s₁.setTop (entryFrame m #[(.int p0), (.int p1), (.int p2)] maxLocals)) t := by
              by_cases hc68 : (1 : Int64) < v40
              · exact ⟨(1 : Int32), (by rw [if_pos hc68]), fun t k => pre67 t (by
                  show Steps p.tables e below (T48.setTop (mkF m 183 #[.val (.int p0), .val (.int p1), .val (.int p2), .val (.int v2), .val (.int v5), .val (.int j9), .val (.int v12), .val (.ref b15), .val (.long v23), .second, .val (.int v28), .val (.int v33), .val (.long v40), .second, .val (.int v45), .val (.int v50)] [(.int (lcmpW v40 (1 : Int64))), (.int v50)])) _
                  refine XS.ifNo X48.here hx rfl (hb hby at_183) rfl ((if0 _ _).trans (tlt ((lw_gt v40 (1 : Int64)).mpr hc68)).2.2.2) ?_
                  show Steps p.tables e below (T48.setTop (mkF m 186 #[.val (.int p0), .val (.int p1), .val (.int p2), .val (.int v2), .val (.int v5), .val (.int j9), .val (.int v12), .val (.ref b15), .val (.long v23), .second, .val (.int v28), .val (.int v33), .val (.long v40), .second, .val (.int v45), .val (.int v50)] [(.int v50)])) _
                  refine XS.iconst X48.here hx rfl (hb hby at_186) ?_
                  show Steps p.tables e below (T48.setTop (mkF m 187 #[.val (.int p0), .val (.int p1), .val (.int p2), .val (.int v2), .val (.int v5), .val (.int j9), .val (.int v12), .val (.ref b15), .val (.long v23), .second, .val (.int v28), .val (.int v33), .val (.long v40), .second, .val (.int v45), .val (.int v50)] [(.int (1 : Int32)), (.int v50)])) _
                  refine XS.goto X48.here hx rfl (pc0 := 187) (pc' := 191) rfl (hb hby at_187) (by decide) (by decide) ?_
                  exact k)⟩
              · exact ⟨(0 : Int32), (by rw [if_neg hc68]), fun t k => pre67 t (by
                  show Steps p.tables e below (T48.setTop (mkF m 183 #[.val (.int p0), .val (.int p1), .val (.int p2), .val (.int v2), .val (.int v5), .val (.int j9), .val (.int v12), .val (.ref b15), .val (.long v23), .second, .val (.int v28), .val (.int v33), .val (.long v40), .second, .val (.int v45), .val (.int v50)] [(.int (lcmpW v40 (1 : Int64))), (.int v50)])) _
                  refine XS.ifYes X48.here hx rfl (pc0 := 183) (pc' := 190) rfl (hb hby at_183) rfl ((if0 _ _).trans (flt (fun q => hc68 ((lw_gt v40 (1 : Int64)).mp q))).2.2.2) (by decide) (by decide) ?_
                  show Steps p.tables e below (T48.setTop (mkF m 190 #[.val (.int p0), .val (.int p1), .val (.int p2), .val (.int v2), .val (.int v5), .val (.int j9), .val (.int v12), .val (.ref b15), .val (.long v23), .second, .val (.int v28), .val (.int v33), .val (.long v40), .second, .val (.int v45), .val (.int v50)] [(.int v50)])) _
                  refine XS.iconst X48.here hx rfl (hb hby at_190) ?_
                  exact k)⟩
            by_cases hc71 : v50 = j69
            · exact ⟨(1 : Int32), (by subst hj69 hj64 hj59; simp only [if_pos hc56, if_pos hc61, if_pos hc66, if_pos hc71]), fun t k => pre70 t (by
                show Steps p.tables e below (T48.setTop (mkF m 191 #[.val (.int p0), .val (.int p1), .val (.int p2), .val (.int v2), .val (.int v5), .val (.int j9), .val (.int v12), .val (.ref b15), .val (.long v23), .second, .val (.int v28), .val (.int v33), .val (.long v40), .second, .val (.int v45), .val (.int v50)] [(.int j69), (.int v50)])) _
                refine XS.icmpNo X48.here hx rfl (hb hby at_191) rfl (teq hc71).2 ?_
                show Steps p.tables e below (T48.setTop (mkF m 194 #[.val (.int p0), .val (.int p1), .val (.int p2), .val (.int v2), .val (.int v5), .val (.int j9), .val (.int v12), .val (.ref b15), .val (.long v23), .second, .val (.int v28), .val (.int v33), .val (.long v40), .second, .val (.int v45), .val (.int v50)] [])) _
                refine XS.iconst X48.here hx rfl (hb hby at_194) ?_
                show Steps p.tables e below (T48.setTop (mkF m 195 #[.val (.int p0), .val (.int p1), .val (.int p2), .val (.int v2), .val (.int v5), .val (.int j9), .val (.int v12), .val (.ref b15), .val (.long v23), .second, .val (.int v28), .val (.int v33), .val (.long v40), .second, .val (.int v45), .val (.int v50)] [(.int (1 : Int32))])) _
                refine XS.goto X48.here hx rfl (pc0 := 195) (pc' := 199) rfl (hb hby at_195) (by decide) (by decide) ?_
                exact k)⟩
            · exact ⟨(0 : Int32), (by subst hj69 hj64 hj59; simp only [if_pos hc56, if_pos hc61, if_pos hc66, if_neg hc71]), fun t k => pre70 t (by
                show Steps p.tables e below (T48.setTop (mkF m 191 #[.val (.int p0), .val (.int p1), .val (.int p2), .val (.int v2), .val (.int v5), .val (.int j9), .val (.int v12), .val (.ref b15), .val (.long v23), .second, .val (.int v28), .val (.int v33), .val (.long v40), .second, .val (.int v45), .val (.int v50)] [(.int j69), (.int v50)])) _
                refine XS.icmpYes X48.here hx rfl (pc0 := 191) (pc' := 198) rfl (hb hby at_191) rfl (feq hc71).2 (by decide) (by decide) ?_
                show Steps p.tables e below (T48.setTop (mkF m 198 #[.val (.int p0), .val (.int p1), .val (.int p2), .val (.int v2), .val (.int v5), .val (.int j9), .val (.int v12), .val (.ref b15), .val (.long v23), .second, .val (.int v28), .val (.int v33), .val (.long v40), .second, .val (.int v45), .val (.int v50)] [])) _
                refine XS.iconst X48.here hx rfl (hb hby at_198) ?_
                exact k)⟩
          · exact ⟨(0 : Int32), (by subst hj64 hj59; simp only [if_pos hc56, if_pos hc61, if_neg hc66]), fun t k => pre65 t (by
              show Steps p.tables e below (T48.setTop (mkF m 174 #[.val (.int p0), .val (.int p1), .val (.int p2), .val (.int v2), .val (.int v5), .val (.int j9), .val (.int v12), .val (.ref b15), .val (.long v23), .second, .val (.int v28), .val (.int v33), .val (.long v40), .second, .val (.int v45), .val (.int v50)] [(.int j64), (.int v45)])) _
              refine XS.icmpYes X48.here hx rfl (pc0 := 174) (pc' := 198) rfl (hb hby at_174) rfl (feq hc66).2 (by decide) (by decide) ?_
              show Steps p.tables e below (T48.setTop (mkF m 198 #[.val (.int p0), .val (.int p1), .val (.int p2), .val (.int v2), .val (.int v5), .val (.int j9), .val (.int v12), .val (.ref b15), .val (.long v23), .second, .val (.int v28), .val (.int v33), .val (.long v40), .second, .val (.int v45), .val (.int v50)] [])) _
              refine XS.iconst X48.here hx rfl (hb hby at_198) ?_
              exact k)⟩
        · exact ⟨(0 : Int32), (by subst hj59; simp only [if_pos hc56, if_neg hc61]), fun t k => pre60 t (by
            show Steps p.tables e below (T48.setTop (mkF m 157 #[.val (.int p0), .val (.int p1), .val (.int p2), .val (.int v2), .val (.int v5), .val (.int j9), .val (.int v12), .val (.ref b15), .val (.long v23), .second, .val (.int v28), .val (.int v33), .val (.long v40), .second, .val (.int v45), .val (.int v50)] [(.int j59), (.int v33)])) _
            refine XS.icmpYes X48.here hx rfl (pc0 := 157) (pc' := 198) rfl (hb hby at_157) rfl (feq hc61).2 (by decide) (by decide) ?_
            show Steps p.tables e below (T48.setTop (mkF m 198 #[.val (.int p0), .val (.int p1), .val (.int p2), .val (.int v2), .val (.int v5), .val (.int j9), .val (.int v12), .val (.ref b15), .val (.long v23), .second, .val (.int v28), .val (.int v33), .val (.long v40), .second, .val (.int v45), .val (.int v50)] [])) _
            refine XS.iconst X48.here hx rfl (hb hby at_198) ?_
            exact k)⟩
      · exact ⟨(0 : Int32), (by rw [if_neg hc56]), fun t k => pre55 t (by
          show Steps p.tables e below (T48.setTop (mkF m 140 #[.val (.int p0), .val (.int p1), .val (.int p2), .val (.int v2), .val (.int v5), .val (.int j9), .val (.int v12), .val (.ref b15), .val (.long v23), .second, .val (.int v28), .val (.int v33), .val (.long v40), .second, .val (.int v45), .val (.int v50)] [(.int j54), (.int v28)])) _
          refine XS.icmpYes X48.here hx rfl (pc0 := 140) (pc' := 198) rfl (hb hby at_140) rfl (feq hc56).2 (by decide) (by decide) ?_
          show Steps p.tables e below (T48.setTop (mkF m 198 #[.val (.int p0), .val (.int p1), .val (.int p2), .val (.int v2), .val (.int v5), .val (.int j9), .val (.int v12), .val (.ref b15), .val (.long v23), .second, .val (.int v28), .val (.int v33), .val (.long v40), .second, .val (.int v45), .val (.int v50)] [])) _
          refine XS.iconst X48.here hx rfl (hb hby at_198) ?_
          exact k)⟩
    obtain ⟨fs, hr, hrun, hended, hW, hsame⟩ := X48.leave (v := some (.int (nar .boolean j72))) (fun h => by rw [Bd.returns] at h; cases h)
    refine ⟨_, _, pre73 _ ?_, hrun, hended, _, _, rfl, ?_, ⟨_, rfl⟩, hW, hsame.mono (by decide) (by decide)⟩
    · show Steps p.tables e below (T48.setTop (mkF m 199 #[.val (.int p0), .val (.int p1), .val (.int p2), .val (.int v2), .val (.int v5), .val (.int j9), .val (.int v12), .val (.ref b15), .val (.long v23), .second, .val (.int v28), .val (.int v33), .val (.long v40), .second, .val (.int v45), .val (.int v50)] [(.int j72)])) _
      exact retN X48 hx (t := .boolean) Bd.returns (by simp) (hb hby at_199) hr
    · show Q0 Z p0 p1 p2 w_DEFAULTCAPACITY_EMPTY_ELEMENTDATA h0 n0 _ T48.heap _
      have hv : (nar .boolean j72) = f0 p0 p1 p2 := (by subst hj72 hj54 hv50 hv45 hv40 hv33 hv28 hv23 hv12 hj9 hv5 hv2; simp only [f0, if_pos hc21])
      exact ⟨congrArg (fun z => some (Value.int z)) (hv.trans hlaw), N48⟩
  · have pre74 : ∀ t, Steps p.tables e below (T19.setTop (mkF m 55 #[.val (.int p0), .val (.int p1), .val (.int p2), .val (.int v2), .val (.int v5), .val (.int j9), .val (.int v12), .val (.ref b15), .unset, .unset, .unset, .unset, .unset, .unset, .unset, .unset] [(.int v5), (.ref b15)])) t → Steps p.tables e below (s₁.setTop (entryFrame m #[(.int p0), (.int p1), (.int p2)] maxLocals)) t := fun t k => pre20 t (by
      show Steps p.tables e below (T19.setTop (mkF m 48 #[.val (.int p0), .val (.int p1), .val (.int p2), .val (.int v2), .val (.int v5), .val (.int j9), .val (.int v12), .val (.ref b15), .unset, .unset, .unset, .unset, .unset, .unset, .unset, .unset] [(.int j9)])) _
      refine XS.ifNo X19.here hx rfl (hb hby at_48) rfl ((if0 _ _).trans (feq hc21).1) ?_
      show Steps p.tables e below (T19.setTop (mkF m 51 #[.val (.int p0), .val (.int p1), .val (.int p2), .val (.int v2), .val (.int v5), .val (.int j9), .val (.int v12), .val (.ref b15), .unset, .unset, .unset, .unset, .unset, .unset, .unset, .unset] [])) _
      refine XS.aload X19.here hx rfl (hb hby at_51) rfl rfl ?_
      show Steps p.tables e below (T19.setTop (mkF m 53 #[.val (.int p0), .val (.int p1), .val (.int p2), .val (.int v2), .val (.int v5), .val (.int j9), .val (.int v12), .val (.ref b15), .unset, .unset, .unset, .unset, .unset, .unset, .unset, .unset] [(.ref b15)])) _
      refine XS.iload X19.here hx rfl (hb hby at_53) rfl ?_
      exact k)
    obtain ⟨cq75, kq75, q75a, q75b, q75c⟩ := isOf hZ rfl A15_19
    obtain ⟨_, _, ⟨T75, L75, k75, n75⟩, -, X75, ⟨Lc75, hQ75, l75, y75, z75⟩, st75⟩ := X19.virtualBack hx (y := (⟨"com/example/covenant/covenant/model/InheritedNames", "makeRoom", "(I)V"⟩ : MethodName)) (z := (⟨"com/example/covenant/covenant/model/InheritedNames", "makeRoom", "(I)V"⟩ : MethodName)) hown (mvT hZ (hw _ (List.mem_of_getElem? (i := 56) rfl))) (mvT hZ (hw _ (List.mem_of_getElem? (i := 57) rfl))) (notFace_of_selects (args := #[]) (mvT hZ (hw _ (List.mem_of_getElem? (i := 59) rfl)))) (mvT hZ (hw _ (List.mem_of_getElem? (i := 59) rfl))) (mvT hZ (hw _ (List.mem_of_getElem? (i := 58) rfl))) (by decide) (backOf (W := 0) (rm8 l Z aw hw [] b15 v5 ((0 : Int64) + (v2.toInt64)) T19.heap n0 Z19 F19_a0_room' A15_19 g_b15) hZ (hw _ (List.mem_of_getElem? (i := 60) rfl)) (hw _ (List.mem_of_getElem? (i := 3) rfl)) (by decide) (by decide)) q75a q75c (g := (mkF m 55 #[.val (.int p0), .val (.int p1), .val (.int p2), .val (.int v2), .val (.int v5), .val (.int j9), .val (.int v12), .val (.ref b15), .unset, .unset, .unset, .unset, .unset, .unset, .unset, .unset] [(.int v5), (.ref b15)])) rfl (by rw [hml]; rfl) (Steps.refl _) (argsL := [(.int v5)]) (rest := []) (lenOf pd_1 rfl) rfl (by show 2 * 0 + _ ≤ _; exact Nat.le_of_eq rfl) (hb hby at_55) (fun _ _ => ⟨rfl, rfl, (by decide : 4 + 0 ≤ _), (by decide : 23 + 0 ≤ _)⟩)
    dsimp only [Pt.U, Pt.locs, Pt.cells, Pt.slots] at X75 l75 y75 z75 st75 hQ75
    subst l75 y75 z75
    obtain ⟨rfl, N75q, K75q, E75_a0, F75_a0_room⟩ := hQ75
    have N75 := Fr.app N19 N75q
    have S_DEFAULTCAPACITY_EMPTY_ELEMENTDATA_75 := own_sta_keep S_DEFAULTCAPACITY_EMPTY_ELEMENTDATA_19 K75q (allS (own_exa_plain A15_19) all0)
    have A15_75 := A15_19.keep K75q
    have F75_a0_room' : Fld Z T75.heap b15 "com/example/covenant/covenant/model/InheritedNames" "room" "J" (.long (((0 : Int64) + (v2.toInt64)) + (v5.toInt64))) := F75_a0_room
    have K75 : Keep h0 T75.heap [] := K19.trans K75q (allS (Or.inr sz_b15) all0)
    have Z75 : n0 ≤ T75.heap.size := Nat.le_trans Z19 K75q.1
    have pre76 : ∀ t, Steps p.tables e below (T75.setTop (mkF m 73 #[.val (.int p0), .val (.int p1), .val (.int p2), .val (.int v2), .val (.int v5), .val (.int j9), .val (.int v12), .val (.ref b15), .unset, .unset, .unset, .unset, .unset, .unset, .unset, .unset] [(.long ((v2.toInt64) + (v5.toInt64)))])) t → Steps p.tables e below (s₁.setTop (entryFrame m #[(.int p0), (.int p1), (.int p2)] maxLocals)) t := fun t k => pre74 t (by
      show Steps p.tables e below (T19.setTop (mkF m 55 #[.val (.int p0), .val (.int p1), .val (.int p2), .val (.int v2), .val (.int v5), .val (.int j9), .val (.int v12), .val (.ref b15), .unset, .unset, .unset, .unset, .unset, .unset, .unset, .unset] [(.int v5), (.ref b15)])) _
      refine st75.trans ?_
      show Steps p.tables e below (T75.setTop (mkF m 58 #[.val (.int p0), .val (.int p1), .val (.int p2), .val (.int v2), .val (.int v5), .val (.int j9), .val (.int v12), .val (.ref b15), .unset, .unset, .unset, .unset, .unset, .unset, .unset, .unset] [])) _
      refine XS.iloadN X75.here hx rfl (hb hby at_58) rfl ?_
      show Steps p.tables e below (T75.setTop (mkF m 59 #[.val (.int p0), .val (.int p1), .val (.int p2), .val (.int v2), .val (.int v5), .val (.int j9), .val (.int v12), .val (.ref b15), .unset, .unset, .unset, .unset, .unset, .unset, .unset, .unset] [(.int v2)])) _
      refine XS.i2l X75.here hx rfl (hb hby at_59) rfl ?_
      show Steps p.tables e below (T75.setTop (mkF m 60 #[.val (.int p0), .val (.int p1), .val (.int p2), .val (.int v2), .val (.int v5), .val (.int j9), .val (.int v12), .val (.ref b15), .unset, .unset, .unset, .unset, .unset, .unset, .unset, .unset] [(.long (v2.toInt64))])) _
      refine XS.iload X75.here hx rfl (hb hby at_60) rfl ?_
      show Steps p.tables e below (T75.setTop (mkF m 62 #[.val (.int p0), .val (.int p1), .val (.int p2), .val (.int v2), .val (.int v5), .val (.int j9), .val (.int v12), .val (.ref b15), .unset, .unset, .unset, .unset, .unset, .unset, .unset, .unset] [(.int j9), (.long (v2.toInt64))])) _
      refine XS.ifNo X75.here hx rfl (hb hby at_62) rfl ((if0 _ _).trans (feq (hc21 : ¬ (j9 = (0 : Int32)))).1) ?_
      show Steps p.tables e below (T75.setTop (mkF m 65 #[.val (.int p0), .val (.int p1), .val (.int p2), .val (.int v2), .val (.int v5), .val (.int j9), .val (.int v12), .val (.ref b15), .unset, .unset, .unset, .unset, .unset, .unset, .unset, .unset] [(.long (v2.toInt64))])) _
      refine XS.iload X75.here hx rfl (hb hby at_65) rfl ?_
      show Steps p.tables e below (T75.setTop (mkF m 67 #[.val (.int p0), .val (.int p1), .val (.int p2), .val (.int v2), .val (.int v5), .val (.int j9), .val (.int v12), .val (.ref b15), .unset, .unset, .unset, .unset, .unset, .unset, .unset, .unset] [(.int v5), (.long (v2.toInt64))])) _
      refine XS.i2l X75.here hx rfl (hb hby at_67) rfl ?_
      show Steps p.tables e below (T75.setTop (mkF m 68 #[.val (.int p0), .val (.int p1), .val (.int p2), .val (.int v2), .val (.int v5), .val (.int j9), .val (.int v12), .val (.ref b15), .unset, .unset, .unset, .unset, .unset, .unset, .unset, .unset] [(.long (v5.toInt64)), (.long (v2.toInt64))])) _
      refine XS.goto X75.here hx rfl (pc0 := 68) (pc' := 72) rfl (hb hby at_68) (by decide) (by decide) ?_
      show Steps p.tables e below (T75.setTop (mkF m 72 #[.val (.int p0), .val (.int p1), .val (.int p2), .val (.int v2), .val (.int v5), .val (.int j9), .val (.int v12), .val (.ref b15), .unset, .unset, .unset, .unset, .unset, .unset, .unset, .unset] [(.long (v5.toInt64)), (.long (v2.toInt64))])) _
      refine XS.ladd X75.here hx rfl (hb hby at_72) rfl ?_
      exact k)
    obtain ⟨v77, hv77⟩ : ∃ z : Int64, z = ((v2.toInt64) + (v5.toInt64)) := ⟨_, rfl⟩
    have pre78 : ∀ t, Steps p.tables e below (T75.setTop (mkF m 73 #[.val (.int p0), .val (.int p1), .val (.int p2), .val (.int v2), .val (.int v5), .val (.int j9), .val (.int v12), .val (.ref b15), .unset, .unset, .unset, .unset, .unset, .unset, .unset, .unset] [(.long v77)])) t → Steps p.tables e below (s₁.setTop (entryFrame m #[(.int p0), (.int p1), (.int p2)] maxLocals)) t := fun t k => pre76 t (by rw [hv77] at k; exact k)
    have pre79 : ∀ t, Steps p.tables e below (T75.setTop (mkF m 77 #[.val (.int p0), .val (.int p1), .val (.int p2), .val (.int v2), .val (.int v5), .val (.int j9), .val (.int v12), .val (.ref b15), .val (.long v77), .second, .unset, .unset, .unset, .unset, .unset, .unset] [(.ref b15)])) t → Steps p.tables e below (s₁.setTop (entryFrame m #[(.int p0), (.int p1), (.int p2)] maxLocals)) t := fun t k => pre78 t (by
      show Steps p.tables e below (T75.setTop (mkF m 73 #[.val (.int p0), .val (.int p1), .val (.int p2), .val (.int v2), .val (.int v5), .val (.int j9), .val (.int v12), .val (.ref b15), .unset, .unset, .unset, .unset, .unset, .unset, .unset, .unset] [(.long v77)])) _
      refine XS.lstore X75.here hx rfl (hb hby at_73) rfl (l' := #[.val (.int p0), .val (.int p1), .val (.int p2), .val (.int v2), .val (.int v5), .val (.int j9), .val (.int v12), .val (.ref b15), .val (.long v77), .second, .unset, .unset, .unset, .unset, .unset, .unset]) rfl ?_
      show Steps p.tables e below (T75.setTop (mkF m 75 #[.val (.int p0), .val (.int p1), .val (.int p2), .val (.int v2), .val (.int v5), .val (.int j9), .val (.int v12), .val (.ref b15), .val (.long v77), .second, .unset, .unset, .unset, .unset, .unset, .unset] [])) _
      refine XS.aload X75.here hx rfl (hb hby at_75) rfl rfl ?_
      exact k)
    obtain ⟨cq80, kq80, q80a, q80b, q80c⟩ := isOf hZ rfl A15_75
    obtain ⟨_, _, ⟨T80, L80, k80, n80⟩, -, X80, ⟨Lc80, hQ80, l80, y80, z80⟩, st80⟩ := X75.virtualBack hx (y := (⟨"com/example/covenant/covenant/model/InheritedNames", "takeRoom", "()Z"⟩ : MethodName)) (z := (⟨"com/example/covenant/covenant/model/InheritedNames", "takeRoom", "()Z"⟩ : MethodName)) hown (mvT hZ (hw _ (List.mem_of_getElem? (i := 63) rfl))) (mvT hZ (hw _ (List.mem_of_getElem? (i := 64) rfl))) (notFace_of_selects (args := #[]) (mvT hZ (hw _ (List.mem_of_getElem? (i := 66) rfl)))) (mvT hZ (hw _ (List.mem_of_getElem? (i := 66) rfl))) (mvT hZ (hw _ (List.mem_of_getElem? (i := 65) rfl))) (by decide) (backOf (W := 0) (rm9 l Z aw hw [] b15 (((0 : Int64) + (v2.toInt64)) + (v5.toInt64)) T75.heap n0 Z75 F75_a0_room' A15_75 g_b15) hZ (hw _ (List.mem_of_getElem? (i := 67) rfl)) (hw _ (List.mem_of_getElem? (i := 3) rfl)) (by decide) (by decide)) q80a q80c (g := (mkF m 77 #[.val (.int p0), .val (.int p1), .val (.int p2), .val (.int v2), .val (.int v5), .val (.int j9), .val (.int v12), .val (.ref b15), .val (.long v77), .second, .unset, .unset, .unset, .unset, .unset, .unset] [(.ref b15)])) rfl (by rw [hml]; rfl) (Steps.refl _) (argsL := []) (rest := []) (lenOf pd_2 rfl) rfl (by show 2 * 0 + _ ≤ _; exact Nat.le_of_eq rfl) (hb hby at_77) (fun _ _ => ⟨rfl, rfl, (by decide : 4 + 0 ≤ _), (by decide : 23 + 0 ≤ _)⟩)
    dsimp only [Pt.U, Pt.locs, Pt.cells, Pt.slots] at X80 l80 y80 z80 st80 hQ80
    subst l80 y80 z80
    obtain ⟨rfl, N80q, K80q, E80_a0, F80_a0_room⟩ := hQ80
    have N80 := Fr.app N75 N80q
    have S_DEFAULTCAPACITY_EMPTY_ELEMENTDATA_80 := own_sta_keep S_DEFAULTCAPACITY_EMPTY_ELEMENTDATA_75 K80q (allS (own_exa_plain A15_75) all0)
    have A15_80 := A15_75.keep K80q
    have F80_a0_room' : Fld Z T80.heap b15 "com/example/covenant/covenant/model/InheritedNames" "room" "J" (.long (f9_a0_room (((0 : Int64) + (v2.toInt64)) + (v5.toInt64)))) := F80_a0_room
    have K80 : Keep h0 T80.heap [] := K75.trans K80q (allS (Or.inr sz_b15) all0)
    have Z80 : n0 ≤ T80.heap.size := Nat.le_trans Z75 K80q.1
    have pre81 : ∀ t, Steps p.tables e below (T80.setTop (mkF m 80 #[.val (.int p0), .val (.int p1), .val (.int p2), .val (.int v2), .val (.int v5), .val (.int j9), .val (.int v12), .val (.ref b15), .val (.long v77), .second, .unset, .unset, .unset, .unset, .unset, .unset] [(.int (f9 (((0 : Int64) + (v2.toInt64)) + (v5.toInt64))))])) t → Steps p.tables e below (s₁.setTop (entryFrame m #[(.int p0), (.int p1), (.int p2)] maxLocals)) t := fun t k => pre79 t (by
      show Steps p.tables e below (T75.setTop (mkF m 77 #[.val (.int p0), .val (.int p1), .val (.int p2), .val (.int v2), .val (.int v5), .val (.int j9), .val (.int v12), .val (.ref b15), .val (.long v77), .second, .unset, .unset, .unset, .unset, .unset, .unset] [(.ref b15)])) _
      refine st80.trans ?_
      exact k)
    obtain ⟨v82, hv82⟩ : ∃ z : Int32, z = (f9 (((0 : Int64) + (v2.toInt64)) + (v5.toInt64))) := ⟨_, rfl⟩
    have pre83 : ∀ t, Steps p.tables e below (T80.setTop (mkF m 80 #[.val (.int p0), .val (.int p1), .val (.int p2), .val (.int v2), .val (.int v5), .val (.int j9), .val (.int v12), .val (.ref b15), .val (.long v77), .second, .unset, .unset, .unset, .unset, .unset, .unset] [(.int v82)])) t → Steps p.tables e below (s₁.setTop (entryFrame m #[(.int p0), (.int p1), (.int p2)] maxLocals)) t := fun t k => pre81 t (by rw [hv82] at k; exact k)
    have pre84 : ∀ t, Steps p.tables e below (T80.setTop (mkF m 84 #[.val (.int p0), .val (.int p1), .val (.int p2), .val (.int v2), .val (.int v5), .val (.int j9), .val (.int v12), .val (.ref b15), .val (.long v77), .second, .val (.int v82), .unset, .unset, .unset, .unset, .unset] [(.ref b15)])) t → Steps p.tables e below (s₁.setTop (entryFrame m #[(.int p0), (.int p1), (.int p2)] maxLocals)) t := fun t k => pre83 t (by
      show Steps p.tables e below (T80.setTop (mkF m 80 #[.val (.int p0), .val (.int p1), .val (.int p2), .val (.int v2), .val (.int v5), .val (.int j9), .val (.int v12), .val (.ref b15), .val (.long v77), .second, .unset, .unset, .unset, .unset, .unset, .unset] [(.int v82)])) _
      refine XS.istore X80.here hx rfl (hb hby at_80) rfl (l' := #[.val (.int p0), .val (.int p1), .val (.int p2), .val (.int v2), .val (.int v5), .val (.int j9), .val (.int v12), .val (.ref b15), .val (.long v77), .second, .val (.int v82), .unset, .unset, .unset, .unset, .unset]) rfl ?_
      show Steps p.tables e below (T80.setTop (mkF m 82 #[.val (.int p0), .val (.int p1), .val (.int p2), .val (.int v2), .val (.int v5), .val (.int j9), .val (.int v12), .val (.ref b15), .val (.long v77), .second, .val (.int v82), .unset, .unset, .unset, .unset, .unset] [])) _
      refine XS.aload X80.here hx rfl (hb hby at_82) rfl rfl ?_
      exact k)
    obtain ⟨cq85, kq85, q85a, q85b, q85c⟩ := isOf hZ rfl A15_80
    obtain ⟨_, _, ⟨T85, L85, k85, n85⟩, -, X85, ⟨Lc85, hQ85, l85, y85, z85⟩, st85⟩ := X80.virtualBack hx (y := (⟨"com/example/covenant/covenant/model/InheritedNames", "takeRoom", "()Z"⟩ : MethodName)) (z := (⟨"com/example/covenant/covenant/model/InheritedNames", "takeRoom", "()Z"⟩ : MethodName)) hown (mvT hZ (hw _ (List.mem_of_getElem? (i := 63) rfl))) (mvT hZ (hw _ (List.mem_of_getElem? (i := 64) rfl))) (notFace_of_selects (args := #[]) (mvT hZ (hw _ (List.mem_of_getElem? (i := 66) rfl)))) (mvT hZ (hw _ (List.mem_of_getElem? (i := 66) rfl))) (mvT hZ (hw _ (List.mem_of_getElem? (i := 65) rfl))) (by decide) (backOf (W := 0) (rm9 l Z aw hw [] b15 (f9_a0_room (((0 : Int64) + (v2.toInt64)) + (v5.toInt64))) T80.heap n0 Z80 F80_a0_room' A15_80 g_b15) hZ (hw _ (List.mem_of_getElem? (i := 67) rfl)) (hw _ (List.mem_of_getElem? (i := 3) rfl)) (by decide) (by decide)) q85a q85c (g := (mkF m 84 #[.val (.int p0), .val (.int p1), .val (.int p2), .val (.int v2), .val (.int v5), .val (.int j9), .val (.int v12), .val (.ref b15), .val (.long v77), .second, .val (.int v82), .unset, .unset, .unset, .unset, .unset] [(.ref b15)])) rfl (by rw [hml]; rfl) (Steps.refl _) (argsL := []) (rest := []) (lenOf pd_2 rfl) rfl (by show 2 * 0 + _ ≤ _; exact Nat.le_of_eq rfl) (hb hby at_84) (fun _ _ => ⟨rfl, rfl, (by decide : 4 + 0 ≤ _), (by decide : 23 + 0 ≤ _)⟩)
    dsimp only [Pt.U, Pt.locs, Pt.cells, Pt.slots] at X85 l85 y85 z85 st85 hQ85
    subst l85 y85 z85
    obtain ⟨rfl, N85q, K85q, E85_a0, F85_a0_room⟩ := hQ85
    have N85 := Fr.app N80 N85q
    have S_DEFAULTCAPACITY_EMPTY_ELEMENTDATA_85 := own_sta_keep S_DEFAULTCAPACITY_EMPTY_ELEMENTDATA_80 K85q (allS (own_exa_plain A15_80) all0)
    have A15_85 := A15_80.keep K85q
    have F85_a0_room' : Fld Z T85.heap b15 "com/example/covenant/covenant/model/InheritedNames" "room" "J" (.long (f9_a0_room (f9_a0_room (((0 : Int64) + (v2.toInt64)) + (v5.toInt64))))) := F85_a0_room
    have K85 : Keep h0 T85.heap [] := K80.trans K85q (allS (Or.inr sz_b15) all0)
    have Z85 : n0 ≤ T85.heap.size := Nat.le_trans Z80 K85q.1
    have pre86 : ∀ t, Steps p.tables e below (T85.setTop (mkF m 87 #[.val (.int p0), .val (.int p1), .val (.int p2), .val (.int v2), .val (.int v5), .val (.int j9), .val (.int v12), .val (.ref b15), .val (.long v77), .second, .val (.int v82), .unset, .unset, .unset, .unset, .unset] [(.int (f9 (f9_a0_room (((0 : Int64) + (v2.toInt64)) + (v5.toInt64)))))])) t → Steps p.tables e below (s₁.setTop (entryFrame m #[(.int p0), (.int p1), (.int p2)] maxLocals)) t := fun t k => pre84 t (by
      show Steps p.tables e below (T80.setTop (mkF m 84 #[.val (.int p0), .val (.int p1), .val (.int p2), .val (.int v2), .val (.int v5), .val (.int j9), .val (.int v12), .val (.ref b15), .val (.long v77), .second, .val (.int v82), .unset, .unset, .unset, .unset, .unset] [(.ref b15)])) _
      refine st85.trans ?_
      exact k)
    obtain ⟨v87, hv87⟩ : ∃ z : Int32, z = (f9 (f9_a0_room (((0 : Int64) + (v2.toInt64)) + (v5.toInt64)))) := ⟨_, rfl⟩
    have pre88 : ∀ t, Steps p.tables e below (T85.setTop (mkF m 87 #[.val (.int p0), .val (.int p1), .val (.int p2), .val (.int v2), .val (.int v5), .val (.int j9), .val (.int v12), .val (.ref b15), .val (.long v77), .second, .val (.int v82), .unset, .unset, .unset, .unset, .unset] [(.int v87)])) t → Steps p.tables e below (s₁.setTop (entryFrame m #[(.int p0), (.int p1), (.int p2)] maxLocals)) t := fun t k => pre86 t (by rw [hv87] at k; exact k)
    have pre89 : ∀ t, Steps p.tables e below (T85.setTop (mkF m 93 #[.val (.int p0), .val (.int p1), .val (.int p2), .val (.int v2), .val (.int v5), .val (.int j9), .val (.int v12), .val (.ref b15), .val (.long v77), .second, .val (.int v82), .val (.int v87), .unset, .unset, .unset, .unset] [(.int v12), (.ref b15)])) t → Steps p.tables e below (s₁.setTop (entryFrame m #[(.int p0), (.int p1), (.int p2)] maxLocals)) t := fun t k => pre88 t (by
      show Steps p.tables e below (T85.setTop (mkF m 87 #[.val (.int p0), .val (.int p1), .val (.int p2), .val (.int v2), .val (.int v5), .val (.int j9), .val (.int v12), .val (.ref b15), .val (.long v77), .second, .val (.int v82), .unset, .unset, .unset, .unset, .unset] [(.int v87)])) _
      refine XS.istore X85.here hx rfl (hb hby at_87) rfl (l' := #[.val (.int p0), .val (.int p1), .val (.int p2), .val (.int v2), .val (.int v5), .val (.int j9), .val (.int v12), .val (.ref b15), .val (.long v77), .second, .val (.int v82), .val (.int v87), .unset, .unset, .unset, .unset]) rfl ?_
      show Steps p.tables e below (T85.setTop (mkF m 89 #[.val (.int p0), .val (.int p1), .val (.int p2), .val (.int v2), .val (.int v5), .val (.int j9), .val (.int v12), .val (.ref b15), .val (.long v77), .second, .val (.int v82), .val (.int v87), .unset, .unset, .unset, .unset] [])) _
      refine XS.aload X85.here hx rfl (hb hby at_89) rfl rfl ?_
      show Steps p.tables e below (T85.setTop (mkF m 91 #[.val (.int p0), .val (.int p1), .val (.int p2), .val (.int v2), .val (.int v5), .val (.int j9), .val (.int v12), .val (.ref b15), .val (.long v77), .second, .val (.int v82), .val (.int v87), .unset, .unset, .unset, .unset] [(.ref b15)])) _
      refine XS.iload X85.here hx rfl (hb hby at_91) rfl ?_
      exact k)
    obtain ⟨cq90, kq90, q90a, q90b, q90c⟩ := isOf hZ rfl A15_85
    obtain ⟨_, _, ⟨T90, L90, k90, n90⟩, -, X90, ⟨Lc90, hQ90, l90, y90, z90⟩, st90⟩ := X85.virtualBack hx (y := (⟨"com/example/covenant/covenant/model/InheritedNames", "makeRoom", "(I)V"⟩ : MethodName)) (z := (⟨"com/example/covenant/covenant/model/InheritedNames", "makeRoom", "(I)V"⟩ : MethodName)) hown (mvT hZ (hw _ (List.mem_of_getElem? (i := 56) rfl))) (mvT hZ (hw _ (List.mem_of_getElem? (i := 57) rfl))) (notFace_of_selects (args := #[]) (mvT hZ (hw _ (List.mem_of_getElem? (i := 59) rfl)))) (mvT hZ (hw _ (List.mem_of_getElem? (i := 59) rfl))) (mvT hZ (hw _ (List.mem_of_getElem? (i := 58) rfl))) (by decide) (backOf (W := 0) (rm8 l Z aw hw [] b15 v12 (f9_a0_room (f9_a0_room (((0 : Int64) + (v2.toInt64)) + (v5.toInt64)))) T85.heap n0 Z85 F85_a0_room' A15_85 g_b15) hZ (hw _ (List.mem_of_getElem? (i := 60) rfl)) (hw _ (List.mem_of_getElem? (i := 3) rfl)) (by decide) (by decide)) q90a q90c (g := (mkF m 93 #[.val (.int p0), .val (.int p1), .val (.int p2), .val (.int v2), .val (.int v5), .val (.int j9), .val (.int v12), .val (.ref b15), .val (.long v77), .second, .val (.int v82), .val (.int v87), .unset, .unset, .unset, .unset] [(.int v12), (.ref b15)])) rfl (by rw [hml]; rfl) (Steps.refl _) (argsL := [(.int v12)]) (rest := []) (lenOf pd_1 rfl) rfl (by show 2 * 0 + _ ≤ _; exact Nat.le_of_eq rfl) (hb hby at_93) (fun _ _ => ⟨rfl, rfl, (by decide : 4 + 0 ≤ _), (by decide : 23 + 0 ≤ _)⟩)
    dsimp only [Pt.U, Pt.locs, Pt.cells, Pt.slots] at X90 l90 y90 z90 st90 hQ90
    subst l90 y90 z90
    obtain ⟨rfl, N90q, K90q, E90_a0, F90_a0_room⟩ := hQ90
    have N90 := Fr.app N85 N90q
    have S_DEFAULTCAPACITY_EMPTY_ELEMENTDATA_90 := own_sta_keep S_DEFAULTCAPACITY_EMPTY_ELEMENTDATA_85 K90q (allS (own_exa_plain A15_85) all0)
    have A15_90 := A15_85.keep K90q
    have F90_a0_room' : Fld Z T90.heap b15 "com/example/covenant/covenant/model/InheritedNames" "room" "J" (.long ((f9_a0_room (f9_a0_room (((0 : Int64) + (v2.toInt64)) + (v5.toInt64)))) + (v12.toInt64))) := F90_a0_room
    have K90 : Keep h0 T90.heap [] := K85.trans K90q (allS (Or.inr sz_b15) all0)
    have Z90 : n0 ≤ T90.heap.size := Nat.le_trans Z85 K90q.1
    have pre91 : ∀ t, Steps p.tables e below (T90.setTop (mkF m 103 #[.val (.int p0), .val (.int p1), .val (.int p2), .val (.int v2), .val (.int v5), .val (.int j9), .val (.int v12), .val (.ref b15), .val (.long v77), .second, .val (.int v82), .val (.int v87), .unset, .unset, .unset, .unset] [(.long (0 : Int64)), (.long (v77 - (2 : Int64)))])) t → Steps p.tables e below (s₁.setTop (entryFrame m #[(.int p0), (.int p1), (.int p2)] maxLocals)) t := fun t k => pre89 t (by
      show Steps p.tables e below (T85.setTop (mkF m 93 #[.val (.int p0), .val (.int p1), .val (.int p2), .val (.int v2), .val (.int v5), .val (.int j9), .val (.int v12), .val (.ref b15), .val (.long v77), .second, .val (.int v82), .val (.int v87), .unset, .unset, .unset, .unset] [(.int v12), (.ref b15)])) _
      refine st90.trans ?_
      show Steps p.tables e below (T90.setTop (mkF m 96 #[.val (.int p0), .val (.int p1), .val (.int p2), .val (.int v2), .val (.int v5), .val (.int j9), .val (.int v12), .val (.ref b15), .val (.long v77), .second, .val (.int v82), .val (.int v87), .unset, .unset, .unset, .unset] [])) _
      refine XS.lload X90.here hx rfl (hb hby at_96) rfl ?_
      show Steps p.tables e below (T90.setTop (mkF m 98 #[.val (.int p0), .val (.int p1), .val (.int p2), .val (.int v2), .val (.int v5), .val (.int j9), .val (.int v12), .val (.ref b15), .val (.long v77), .second, .val (.int v82), .val (.int v87), .unset, .unset, .unset, .unset] [(.long v77)])) _
      refine X90.ldc2Long hx hown (mvT hZ (hw _ (List.mem_of_getElem? (i := 68) rfl))) (g := (mkF m 98 #[.val (.int p0), .val (.int p1), .val (.int p2), .val (.int v2), .val (.int v5), .val (.int j9), .val (.int v12), .val (.ref b15), .val (.long v77), .second, .val (.int v82), .val (.int v87), .unset, .unset, .unset, .unset] [(.long v77)])) rfl (hb hby at_98) _ ?_
      show Steps p.tables e below (T90.setTop (mkF m 101 #[.val (.int p0), .val (.int p1), .val (.int p2), .val (.int v2), .val (.int v5), .val (.int j9), .val (.int v12), .val (.ref b15), .val (.long v77), .second, .val (.int v82), .val (.int v87), .unset, .unset, .unset, .unset] [(.long (2 : Int64)), (.long v77)])) _
      refine XS.lsub X90.here hx rfl (hb hby at_101) rfl ?_
      show Steps p.tables e below (T90.setTop (mkF m 102 #[.val (.int p0), .val (.int p1), .val (.int p2), .val (.int v2), .val (.int v5), .val (.int j9), .val (.int v12), .val (.ref b15), .val (.long v77), .second, .val (.int v82), .val (.int v87), .unset, .unset, .unset, .unset] [(.long (v77 - (2 : Int64)))])) _
      refine XS.lconst X90.here hx rfl (hb hby at_102) ?_
      exact k)
    obtain ⟨_, _, ⟨T92, L92, k92, n92⟩, -, X92, ⟨Lc92, hQ92, l92, y92, z92⟩, st92⟩ := Jvm.LawKit.callS X90 hx (y := (⟨"java/lang/Math", "max", "(JJ)J"⟩ : MethodName)) hown (mvT hZ (hw _ (List.mem_of_getElem? (i := 69) rfl))) (mvT hZ (hw _ (List.mem_of_getElem? (i := 70) rfl))) (mvT hZ (hw _ (List.mem_of_getElem? (i := 71) rfl))) (mvT hZ (hw _ (List.mem_of_getElem? (i := 72) rfl))) (by decide) (backOf (W := 0) (rm10 l Z aw hw [] (v77 - (2 : Int64)) (0 : Int64) T90.heap n0 Z90) hZ (hw _ (List.mem_of_getElem? (i := 72) rfl)) (hw _ (List.mem_of_getElem? (i := 71) rfl)) (by decide) (by decide)) (g := (mkF m 103 #[.val (.int p0), .val (.int p1), .val (.int p2), .val (.int v2), .val (.int v5), .val (.int j9), .val (.int v12), .val (.ref b15), .val (.long v77), .second, .val (.int v82), .val (.int v87), .unset, .unset, .unset, .unset] [(.long (0 : Int64)), (.long (v77 - (2 : Int64)))])) rfl (by rw [hml]; rfl) (argsL := [(.long (v77 - (2 : Int64))), (.long (0 : Int64))]) (rest := []) (lenOf pd_3 rfl) rfl (by show 2 * 0 + _ ≤ _; exact Nat.le_of_eq rfl) (hb hby at_103) (fun _ _ => ⟨rfl, rfl, (by decide : 4 + 0 ≤ _), (by decide : 23 + 0 ≤ _)⟩)
    dsimp only [Pt.U, Pt.locs, Pt.cells, Pt.slots] at X92 l92 y92 z92 st92 hQ92
    subst l92 y92 z92
    obtain ⟨rfl, N92q, e92⟩ := hQ92
    have N92 := Fr.app N90 N92q
    have pre93 : ∀ t, Steps p.tables e below (T92.setTop (mkF m 110 #[.val (.int p0), .val (.int p1), .val (.int p2), .val (.int v2), .val (.int v5), .val (.int j9), .val (.int v12), .val (.ref b15), .val (.long v77), .second, .val (.int v82), .val (.int v87), .unset, .unset, .unset, .unset] [(.long ((f10 (v77 - (2 : Int64)) (0 : Int64)) + (v12.toInt64)))])) t → Steps p.tables e below (s₁.setTop (entryFrame m #[(.int p0), (.int p1), (.int p2)] maxLocals)) t := fun t k => pre91 t (by
      show Steps p.tables e below (T90.setTop (mkF m 103 #[.val (.int p0), .val (.int p1), .val (.int p2), .val (.int v2), .val (.int v5), .val (.int j9), .val (.int v12), .val (.ref b15), .val (.long v77), .second, .val (.int v82), .val (.int v87), .unset, .unset, .unset, .unset] [(.long (0 : Int64)), (.long (v77 - (2 : Int64)))])) _
      refine st92 _ ?_
      show Steps p.tables e below (T92.setTop (mkF m 106 #[.val (.int p0), .val (.int p1), .val (.int p2), .val (.int v2), .val (.int v5), .val (.int j9), .val (.int v12), .val (.ref b15), .val (.long v77), .second, .val (.int v82), .val (.int v87), .unset, .unset, .unset, .unset] [(.long (f10 (v77 - (2 : Int64)) (0 : Int64)))])) _
      refine XS.iload X92.here hx rfl (hb hby at_106) rfl ?_
      show Steps p.tables e below (T92.setTop (mkF m 108 #[.val (.int p0), .val (.int p1), .val (.int p2), .val (.int v2), .val (.int v5), .val (.int j9), .val (.int v12), .val (.ref b15), .val (.long v77), .second, .val (.int v82), .val (.int v87), .unset, .unset, .unset, .unset] [(.int v12), (.long (f10 (v77 - (2 : Int64)) (0 : Int64)))])) _
      refine XS.i2l X92.here hx rfl (hb hby at_108) rfl ?_
      show Steps p.tables e below (T92.setTop (mkF m 109 #[.val (.int p0), .val (.int p1), .val (.int p2), .val (.int v2), .val (.int v5), .val (.int j9), .val (.int v12), .val (.ref b15), .val (.long v77), .second, .val (.int v82), .val (.int v87), .unset, .unset, .unset, .unset] [(.long (v12.toInt64)), (.long (f10 (v77 - (2 : Int64)) (0 : Int64)))])) _
      refine XS.ladd X92.here hx rfl (hb hby at_109) rfl ?_
      exact k)
    obtain ⟨v94, hv94⟩ : ∃ z : Int64, z = ((f10 (v77 - (2 : Int64)) (0 : Int64)) + (v12.toInt64)) := ⟨_, rfl⟩
    have pre95 : ∀ t, Steps p.tables e below (T92.setTop (mkF m 110 #[.val (.int p0), .val (.int p1), .val (.int p2), .val (.int v2), .val (.int v5), .val (.int j9), .val (.int v12), .val (.ref b15), .val (.long v77), .second, .val (.int v82), .val (.int v87), .unset, .unset, .unset, .unset] [(.long v94)])) t → Steps p.tables e below (s₁.setTop (entryFrame m #[(.int p0), (.int p1), (.int p2)] maxLocals)) t := fun t k => pre93 t (by rw [hv94] at k; exact k)
    have pre96 : ∀ t, Steps p.tables e below (T92.setTop (mkF m 114 #[.val (.int p0), .val (.int p1), .val (.int p2), .val (.int v2), .val (.int v5), .val (.int j9), .val (.int v12), .val (.ref b15), .val (.long v77), .second, .val (.int v82), .val (.int v87), .val (.long v94), .second, .unset, .unset] [(.ref b15)])) t → Steps p.tables e below (s₁.setTop (entryFrame m #[(.int p0), (.int p1), (.int p2)] maxLocals)) t := fun t k => pre95 t (by
      show Steps p.tables e below (T92.setTop (mkF m 110 #[.val (.int p0), .val (.int p1), .val (.int p2), .val (.int v2), .val (.int v5), .val (.int j9), .val (.int v12), .val (.ref b15), .val (.long v77), .second, .val (.int v82), .val (.int v87), .unset, .unset, .unset, .unset] [(.long v94)])) _
      refine XS.lstore X92.here hx rfl (hb hby at_110) rfl (l' := #[.val (.int p0), .val (.int p1), .val (.int p2), .val (.int v2), .val (.int v5), .val (.int j9), .val (.int v12), .val (.ref b15), .val (.long v77), .second, .val (.int v82), .val (.int v87), .val (.long v94), .second, .unset, .unset]) rfl ?_
      show Steps p.tables e below (T92.setTop (mkF m 112 #[.val (.int p0), .val (.int p1), .val (.int p2), .val (.int v2), .val (.int v5), .val (.int j9), .val (.int v12), .val (.ref b15), .val (.long v77), .second, .val (.int v82), .val (.int v87), .val (.long v94), .second, .unset, .unset] [])) _
      refine XS.aload X92.here hx rfl (hb hby at_112) rfl rfl ?_
      exact k)
    obtain ⟨cq97, kq97, q97a, q97b, q97c⟩ := isOf hZ e92 A15_90
    obtain ⟨_, _, ⟨T97, L97, k97, n97⟩, -, X97, ⟨Lc97, hQ97, l97, y97, z97⟩, st97⟩ := X92.virtualBack hx (y := (⟨"com/example/covenant/covenant/model/InheritedNames", "takeRoom", "()Z"⟩ : MethodName)) (z := (⟨"com/example/covenant/covenant/model/InheritedNames", "takeRoom", "()Z"⟩ : MethodName)) hown (mvT hZ (hw _ (List.mem_of_getElem? (i := 63) rfl))) (mvT hZ (hw _ (List.mem_of_getElem? (i := 64) rfl))) (notFace_of_selects (args := #[]) (mvT hZ (hw _ (List.mem_of_getElem? (i := 66) rfl)))) (mvT hZ (hw _ (List.mem_of_getElem? (i := 66) rfl))) (mvT hZ (hw _ (List.mem_of_getElem? (i := 65) rfl))) (by decide) (backOf (W := 0) (rm9 l Z aw hw [] b15 ((f9_a0_room (f9_a0_room (((0 : Int64) + (v2.toInt64)) + (v5.toInt64)))) + (v12.toInt64)) T90.heap n0 Z90 F90_a0_room' A15_90 g_b15) hZ (hw _ (List.mem_of_getElem? (i := 67) rfl)) (hw _ (List.mem_of_getElem? (i := 3) rfl)) (by decide) (by decide)) q97a q97c (g := (mkF m 114 #[.val (.int p0), .val (.int p1), .val (.int p2), .val (.int v2), .val (.int v5), .val (.int j9), .val (.int v12), .val (.ref b15), .val (.long v77), .second, .val (.int v82), .val (.int v87), .val (.long v94), .second, .unset, .unset] [(.ref b15)])) rfl (by rw [hml]; rfl) (Steps.refl _) (argsL := []) (rest := []) (lenOf pd_2 rfl) rfl (by show 2 * 0 + _ ≤ _; exact Nat.le_of_eq rfl) (hb hby at_114) (fun _ _ => ⟨rfl, e92, (by decide : 4 + 0 ≤ _), (by decide : 23 + 0 ≤ _)⟩)
    dsimp only [Pt.U, Pt.locs, Pt.cells, Pt.slots] at X97 l97 y97 z97 st97 hQ97
    subst l97 y97 z97
    obtain ⟨rfl, N97q, K97q, E97_a0, F97_a0_room⟩ := hQ97
    have N97 := Fr.app N92 N97q
    have S_DEFAULTCAPACITY_EMPTY_ELEMENTDATA_97 := own_sta_keep S_DEFAULTCAPACITY_EMPTY_ELEMENTDATA_90 K97q (allS (own_exa_plain A15_90) all0)
    have A15_97 := A15_90.keep K97q
    have F97_a0_room' : Fld Z T97.heap b15 "com/example/covenant/covenant/model/InheritedNames" "room" "J" (.long (f9_a0_room ((f9_a0_room (f9_a0_room (((0 : Int64) + (v2.toInt64)) + (v5.toInt64)))) + (v12.toInt64)))) := F97_a0_room
    have K97 : Keep h0 T97.heap [] := K90.trans K97q (allS (Or.inr sz_b15) all0)
    have Z97 : n0 ≤ T97.heap.size := Nat.le_trans Z90 K97q.1
    have pre98 : ∀ t, Steps p.tables e below (T97.setTop (mkF m 117 #[.val (.int p0), .val (.int p1), .val (.int p2), .val (.int v2), .val (.int v5), .val (.int j9), .val (.int v12), .val (.ref b15), .val (.long v77), .second, .val (.int v82), .val (.int v87), .val (.long v94), .second, .unset, .unset] [(.int (f9 ((f9_a0_room (f9_a0_room (((0 : Int64) + (v2.toInt64)) + (v5.toInt64)))) + (v12.toInt64))))])) t → Steps p.tables e below (s₁.setTop (entryFrame m #[(.int p0), (.int p1), (.int p2)] maxLocals)) t := fun t k => pre96 t (by
      show Steps p.tables e below (T92.setTop (mkF m 114 #[.val (.int p0), .val (.int p1), .val (.int p2), .val (.int v2), .val (.int v5), .val (.int j9), .val (.int v12), .val (.ref b15), .val (.long v77), .second, .val (.int v82), .val (.int v87), .val (.long v94), .second, .unset, .unset] [(.ref b15)])) _
      refine st97.trans ?_
      exact k)
    obtain ⟨v99, hv99⟩ : ∃ z : Int32, z = (f9 ((f9_a0_room (f9_a0_room (((0 : Int64) + (v2.toInt64)) + (v5.toInt64)))) + (v12.toInt64))) := ⟨_, rfl⟩
    have pre100 : ∀ t, Steps p.tables e below (T97.setTop (mkF m 117 #[.val (.int p0), .val (.int p1), .val (.int p2), .val (.int v2), .val (.int v5), .val (.int j9), .val (.int v12), .val (.ref b15), .val (.long v77), .second, .val (.int v82), .val (.int v87), .val (.long v94), .second, .unset, .unset] [(.int v99)])) t → Steps p.tables e below (s₁.setTop (entryFrame m #[(.int p0), (.int p1), (.int p2)] maxLocals)) t := fun t k => pre98 t (by rw [hv99] at k; exact k)
    have pre101 : ∀ t, Steps p.tables e below (T97.setTop (mkF m 121 #[.val (.int p0), .val (.int p1), .val (.int p2), .val (.int v2), .val (.int v5), .val (.int j9), .val (.int v12), .val (.ref b15), .val (.long v77), .second, .val (.int v82), .val (.int v87), .val (.long v94), .second, .val (.int v99), .unset] [(.ref b15)])) t → Steps p.tables e below (s₁.setTop (entryFrame m #[(.int p0), (.int p1), (.int p2)] maxLocals)) t := fun t k => pre100 t (by
      show Steps p.tables e below (T97.setTop (mkF m 117 #[.val (.int p0), .val (.int p1), .val (.int p2), .val (.int v2), .val (.int v5), .val (.int j9), .val (.int v12), .val (.ref b15), .val (.long v77), .second, .val (.int v82), .val (.int v87), .val (.long v94), .second, .unset, .unset] [(.int v99)])) _
      refine XS.istore X97.here hx rfl (hb hby at_117) rfl (l' := #[.val (.int p0), .val (.int p1), .val (.int p2), .val (.int v2), .val (.int v5), .val (.int j9), .val (.int v12), .val (.ref b15), .val (.long v77), .second, .val (.int v82), .val (.int v87), .val (.long v94), .second, .val (.int v99), .unset]) rfl ?_
      show Steps p.tables e below (T97.setTop (mkF m 119 #[.val (.int p0), .val (.int p1), .val (.int p2), .val (.int v2), .val (.int v5), .val (.int j9), .val (.int v12), .val (.ref b15), .val (.long v77), .second, .val (.int v82), .val (.int v87), .val (.long v94), .second, .val (.int v99), .unset] [])) _
      refine XS.aload X97.here hx rfl (hb hby at_119) rfl rfl ?_
      exact k)
    obtain ⟨cq102, kq102, q102a, q102b, q102c⟩ := isOf hZ rfl A15_97
    obtain ⟨_, _, ⟨T102, L102, k102, n102⟩, -, X102, ⟨Lc102, hQ102, l102, y102, z102⟩, st102⟩ := X97.virtualBack hx (y := (⟨"com/example/covenant/covenant/model/InheritedNames", "takeRoom", "()Z"⟩ : MethodName)) (z := (⟨"com/example/covenant/covenant/model/InheritedNames", "takeRoom", "()Z"⟩ : MethodName)) hown (mvT hZ (hw _ (List.mem_of_getElem? (i := 63) rfl))) (mvT hZ (hw _ (List.mem_of_getElem? (i := 64) rfl))) (notFace_of_selects (args := #[]) (mvT hZ (hw _ (List.mem_of_getElem? (i := 66) rfl)))) (mvT hZ (hw _ (List.mem_of_getElem? (i := 66) rfl))) (mvT hZ (hw _ (List.mem_of_getElem? (i := 65) rfl))) (by decide) (backOf (W := 0) (rm9 l Z aw hw [] b15 (f9_a0_room ((f9_a0_room (f9_a0_room (((0 : Int64) + (v2.toInt64)) + (v5.toInt64)))) + (v12.toInt64))) T97.heap n0 Z97 F97_a0_room' A15_97 g_b15) hZ (hw _ (List.mem_of_getElem? (i := 67) rfl)) (hw _ (List.mem_of_getElem? (i := 3) rfl)) (by decide) (by decide)) q102a q102c (g := (mkF m 121 #[.val (.int p0), .val (.int p1), .val (.int p2), .val (.int v2), .val (.int v5), .val (.int j9), .val (.int v12), .val (.ref b15), .val (.long v77), .second, .val (.int v82), .val (.int v87), .val (.long v94), .second, .val (.int v99), .unset] [(.ref b15)])) rfl (by rw [hml]; rfl) (Steps.refl _) (argsL := []) (rest := []) (lenOf pd_2 rfl) rfl (by show 2 * 0 + _ ≤ _; exact Nat.le_of_eq rfl) (hb hby at_121) (fun _ _ => ⟨rfl, rfl, (by decide : 4 + 0 ≤ _), (by decide : 23 + 0 ≤ _)⟩)
    dsimp only [Pt.U, Pt.locs, Pt.cells, Pt.slots] at X102 l102 y102 z102 st102 hQ102
    subst l102 y102 z102
    obtain ⟨rfl, N102q, K102q, E102_a0, F102_a0_room⟩ := hQ102
    have N102 := Fr.app N97 N102q
    have S_DEFAULTCAPACITY_EMPTY_ELEMENTDATA_102 := own_sta_keep S_DEFAULTCAPACITY_EMPTY_ELEMENTDATA_97 K102q (allS (own_exa_plain A15_97) all0)
    have A15_102 := A15_97.keep K102q
    have F102_a0_room' : Fld Z T102.heap b15 "com/example/covenant/covenant/model/InheritedNames" "room" "J" (.long (f9_a0_room (f9_a0_room ((f9_a0_room (f9_a0_room (((0 : Int64) + (v2.toInt64)) + (v5.toInt64)))) + (v12.toInt64))))) := F102_a0_room
    have K102 : Keep h0 T102.heap [] := K97.trans K102q (allS (Or.inr sz_b15) all0)
    have Z102 : n0 ≤ T102.heap.size := Nat.le_trans Z97 K102q.1
    have pre103 : ∀ t, Steps p.tables e below (T102.setTop (mkF m 124 #[.val (.int p0), .val (.int p1), .val (.int p2), .val (.int v2), .val (.int v5), .val (.int j9), .val (.int v12), .val (.ref b15), .val (.long v77), .second, .val (.int v82), .val (.int v87), .val (.long v94), .second, .val (.int v99), .unset] [(.int (f9 (f9_a0_room ((f9_a0_room (f9_a0_room (((0 : Int64) + (v2.toInt64)) + (v5.toInt64)))) + (v12.toInt64)))))])) t → Steps p.tables e below (s₁.setTop (entryFrame m #[(.int p0), (.int p1), (.int p2)] maxLocals)) t := fun t k => pre101 t (by
      show Steps p.tables e below (T97.setTop (mkF m 121 #[.val (.int p0), .val (.int p1), .val (.int p2), .val (.int v2), .val (.int v5), .val (.int j9), .val (.int v12), .val (.ref b15), .val (.long v77), .second, .val (.int v82), .val (.int v87), .val (.long v94), .second, .val (.int v99), .unset] [(.ref b15)])) _
      refine st102.trans ?_
      exact k)
    obtain ⟨v104, hv104⟩ : ∃ z : Int32, z = (f9 (f9_a0_room ((f9_a0_room (f9_a0_room (((0 : Int64) + (v2.toInt64)) + (v5.toInt64)))) + (v12.toInt64)))) := ⟨_, rfl⟩
    have pre105 : ∀ t, Steps p.tables e below (T102.setTop (mkF m 124 #[.val (.int p0), .val (.int p1), .val (.int p2), .val (.int v2), .val (.int v5), .val (.int j9), .val (.int v12), .val (.ref b15), .val (.long v77), .second, .val (.int v82), .val (.int v87), .val (.long v94), .second, .val (.int v99), .unset] [(.int v104)])) t → Steps p.tables e below (s₁.setTop (entryFrame m #[(.int p0), (.int p1), (.int p2)] maxLocals)) t := fun t k => pre103 t (by rw [hv104] at k; exact k)
    have pre106 : ∀ t, Steps p.tables e below (T102.setTop (mkF m 132 #[.val (.int p0), .val (.int p1), .val (.int p2), .val (.int v2), .val (.int v5), .val (.int j9), .val (.int v12), .val (.ref b15), .val (.long v77), .second, .val (.int v82), .val (.int v87), .val (.long v94), .second, .val (.int v99), .val (.int v104)] [(.int (lcmpW v77 (0 : Int64))), (.int v82)])) t → Steps p.tables e below (s₁.setTop (entryFrame m #[(.int p0), (.int p1), (.int p2)] maxLocals)) t := fun t k => pre105 t (by
      show Steps p.tables e below (T102.setTop (mkF m 124 #[.val (.int p0), .val (.int p1), .val (.int p2), .val (.int v2), .val (.int v5), .val (.int j9), .val (.int v12), .val (.ref b15), .val (.long v77), .second, .val (.int v82), .val (.int v87), .val (.long v94), .second, .val (.int v99), .unset] [(.int v104)])) _
      refine XS.istore X102.here hx rfl (hb hby at_124) rfl (l' := #[.val (.int p0), .val (.int p1), .val (.int p2), .val (.int v2), .val (.int v5), .val (.int j9), .val (.int v12), .val (.ref b15), .val (.long v77), .second, .val (.int v82), .val (.int v87), .val (.long v94), .second, .val (.int v99), .val (.int v104)]) rfl ?_
      show Steps p.tables e below (T102.setTop (mkF m 126 #[.val (.int p0), .val (.int p1), .val (.int p2), .val (.int v2), .val (.int v5), .val (.int j9), .val (.int v12), .val (.ref b15), .val (.long v77), .second, .val (.int v82), .val (.int v87), .val (.long v94), .second, .val (.int v99), .val (.int v104)] [])) _
      refine XS.iload X102.here hx rfl (hb hby at_126) rfl ?_
      show Steps p.tables e below (T102.setTop (mkF m 128 #[.val (.int p0), .val (.int p1), .val (.int p2), .val (.int v2), .val (.int v5), .val (.int j9), .val (.int v12), .val (.ref b15), .val (.long v77), .second, .val (.int v82), .val (.int v87), .val (.long v94), .second, .val (.int v99), .val (.int v104)] [(.int v82)])) _
      refine XS.lload X102.here hx rfl (hb hby at_128) rfl ?_
      show Steps p.tables e below (T102.setTop (mkF m 130 #[.val (.int p0), .val (.int p1), .val (.int p2), .val (.int v2), .val (.int v5), .val (.int j9), .val (.int v12), .val (.ref b15), .val (.long v77), .second, .val (.int v82), .val (.int v87), .val (.long v94), .second, .val (.int v99), .val (.int v104)] [(.long v77), (.int v82)])) _
      refine XS.lconst X102.here hx rfl (hb hby at_130) ?_
      show Steps p.tables e below (T102.setTop (mkF m 131 #[.val (.int p0), .val (.int p1), .val (.int p2), .val (.int v2), .val (.int v5), .val (.int j9), .val (.int v12), .val (.ref b15), .val (.long v77), .second, .val (.int v82), .val (.int v87), .val (.long v94), .second, .val (.int v99), .val (.int v104)] [(.long (0 : Int64)), (.long v77), (.int v82)])) _
      refine XS.lcmp X102.here hx rfl (hb hby at_131) rfl ?_
      exact k)
    obtain ⟨j108, hj108, pre109⟩ : ∃ (j108 : Int32), j108 = (if (0 : Int64) < v77 then (1 : Int32) else (0 : Int32)) ∧ ∀ t, Steps p.tables e below (T102.setTop (mkF m 140 #[.val (.int p0), .val (.int p1), .val (.int p2), .val (.int v2), .val (.int v5), .val (.int j9), .val (.int v12), .val (.ref b15), .val (.long v77), .second, .val (.int v82), .val (.int v87), .val (.long v94), .second, .val (.int v99), .val (.int v104)] [(.int j108), (.int v82)])) t → Steps p.tables e below (s₁.setTop (entryFrame m #[(.int p0), (.int p1), (.int p2)] maxLocals)) t := by
      by_cases hc107 : (0 : Int64) < v77
      · exact ⟨(1 : Int32), (by rw [if_pos hc107]), fun t k => pre106 t (by
          show Steps p.tables e below (T102.setTop (mkF m 132 #[.val (.int p0), .val (.int p1), .val (.int p2), .val (.int v2), .val (.int v5), .val (.int j9), .val (.int v12), .val (.ref b15), .val (.long v77), .second, .val (.int v82), .val (.int v87), .val (.long v94), .second, .val (.int v99), .val (.int v104)] [(.int (lcmpW v77 (0 : Int64))), (.int v82)])) _
          refine XS.ifNo X102.here hx rfl (hb hby at_132) rfl ((if0 _ _).trans (tlt ((lw_gt v77 (0 : Int64)).mpr hc107)).2.2.2) ?_
          show Steps p.tables e below (T102.setTop (mkF m 135 #[.val (.int p0), .val (.int p1), .val (.int p2), .val (.int v2), .val (.int v5), .val (.int j9), .val (.int v12), .val (.ref b15), .val (.long v77), .second, .val (.int v82), .val (.int v87), .val (.long v94), .second, .val (.int v99), .val (.int v104)] [(.int v82)])) _
          refine XS.iconst X102.here hx rfl (hb hby at_135) ?_
          show Steps p.tables e below (T102.setTop (mkF m 136 #[.val (.int p0), .val (.int p1), .val (.int p2), .val (.int v2), .val (.int v5), .val (.int j9), .val (.int v12), .val (.ref b15), .val (.long v77), .second, .val (.int v82), .val (.int v87), .val (.long v94), .second, .val (.int v99), .val (.int v104)] [(.int (1 : Int32)), (.int v82)])) _
          refine XS.goto X102.here hx rfl (pc0 := 136) (pc' := 140) rfl (hb hby at_136) (by decide) (by decide) ?_
          exact k)⟩
      · exact ⟨(0 : Int32), (by rw [if_neg hc107]), fun t k => pre106 t (by
          show Steps p.tables e below (T102.setTop (mkF m 132 #[.val (.int p0), .val (.int p1), .val (.int p2), .val (.int v2), .val (.int v5), .val (.int j9), .val (.int v12), .val (.ref b15), .val (.long v77), .second, .val (.int v82), .val (.int v87), .val (.long v94), .second, .val (.int v99), .val (.int v104)] [(.int (lcmpW v77 (0 : Int64))), (.int v82)])) _
          refine XS.ifYes X102.here hx rfl (pc0 := 132) (pc' := 139) rfl (hb hby at_132) rfl ((if0 _ _).trans (flt (fun q => hc107 ((lw_gt v77 (0 : Int64)).mp q))).2.2.2) (by decide) (by decide) ?_
          show Steps p.tables e below (T102.setTop (mkF m 139 #[.val (.int p0), .val (.int p1), .val (.int p2), .val (.int v2), .val (.int v5), .val (.int j9), .val (.int v12), .val (.ref b15), .val (.long v77), .second, .val (.int v82), .val (.int v87), .val (.long v94), .second, .val (.int v99), .val (.int v104)] [(.int v82)])) _
          refine XS.iconst X102.here hx rfl (hb hby at_139) ?_
          exact k)⟩
    obtain ⟨j126, hj126, pre127⟩ : ∃ (j126 : Int32), j126 = (if v82 = j108 then (let j113 : Int32 := (if (1 : Int64) < v77 then (1 : Int32) else (0 : Int32)); (if v87 = j113 then (let j118 : Int32 := (if (0 : Int64) < v94 then (1 : Int32) else (0 : Int32)); (if v99 = j118 then (let j123 : Int32 := (if (1 : Int64) < v94 then (1 : Int32) else (0 : Int32)); (if v104 = j123 then (1 : Int32) else (0 : Int32))) else (0 : Int32))) else (0 : Int32))) else (0 : Int32)) ∧ ∀ t, Steps p.tables e below (T102.setTop (mkF m 199 #[.val (.int p0), .val (.int p1), .val (.int p2), .val (.int v2), .val (.int v5), .val (.int j9), .val (.int v12), .val (.ref b15), .val (.long v77), .second, .val (.int v82), .val (.int v87), .val (.long v94), .second, .val (.int v99), .val (.int v104)] [(.int j126)])) t → Steps p.tables e below (s₁.setTop (entryFrame m #[(.int p0), (.int p1), (.int p2)] maxLocals)) t := by
      by_cases hc110 : v82 = j108
      · have pre111 : ∀ t, Steps p.tables e below (T102.setTop (mkF m 149 #[.val (.int p0), .val (.int p1), .val (.int p2), .val (.int v2), .val (.int v5), .val (.int j9), .val (.int v12), .val (.ref b15), .val (.long v77), .second, .val (.int v82), .val (.int v87), .val (.long v94), .second, .val (.int v99), .val (.int v104)] [(.int (lcmpW v77 (1 : Int64))), (.int v87)])) t → Steps p.tables e below (s₁.setTop (entryFrame m #[(.int p0), (.int p1), (.int p2)] maxLocals)) t := fun t k => pre109 t (by
          show Steps p.tables e below (T102.setTop (mkF m 140 #[.val (.int p0), .val (.int p1), .val (.int p2), .val (.int v2), .val (.int v5), .val (.int j9), .val (.int v12), .val (.ref b15), .val (.long v77), .second, .val (.int v82), .val (.int v87), .val (.long v94), .second, .val (.int v99), .val (.int v104)] [(.int j108), (.int v82)])) _
          refine XS.icmpNo X102.here hx rfl (hb hby at_140) rfl (teq hc110).2 ?_
          show Steps p.tables e below (T102.setTop (mkF m 143 #[.val (.int p0), .val (.int p1), .val (.int p2), .val (.int v2), .val (.int v5), .val (.int j9), .val (.int v12), .val (.ref b15), .val (.long v77), .second, .val (.int v82), .val (.int v87), .val (.long v94), .second, .val (.int v99), .val (.int v104)] [])) _
          refine XS.iload X102.here hx rfl (hb hby at_143) rfl ?_
          show Steps p.tables e below (T102.setTop (mkF m 145 #[.val (.int p0), .val (.int p1), .val (.int p2), .val (.int v2), .val (.int v5), .val (.int j9), .val (.int v12), .val (.ref b15), .val (.long v77), .second, .val (.int v82), .val (.int v87), .val (.long v94), .second, .val (.int v99), .val (.int v104)] [(.int v87)])) _
          refine XS.lload X102.here hx rfl (hb hby at_145) rfl ?_
          show Steps p.tables e below (T102.setTop (mkF m 147 #[.val (.int p0), .val (.int p1), .val (.int p2), .val (.int v2), .val (.int v5), .val (.int j9), .val (.int v12), .val (.ref b15), .val (.long v77), .second, .val (.int v82), .val (.int v87), .val (.long v94), .second, .val (.int v99), .val (.int v104)] [(.long v77), (.int v87)])) _
          refine XS.lconst X102.here hx rfl (hb hby at_147) ?_
          show Steps p.tables e below (T102.setTop (mkF m 148 #[.val (.int p0), .val (.int p1), .val (.int p2), .val (.int v2), .val (.int v5), .val (.int j9), .val (.int v12), .val (.ref b15), .val (.long v77), .second, .val (.int v82), .val (.int v87), .val (.long v94), .second, .val (.int v99), .val (.int v104)] [(.long (1 : Int64)), (.long v77), (.int v87)])) _
          refine XS.lcmp X102.here hx rfl (hb hby at_148) rfl ?_
          exact k)
        obtain ⟨j113, hj113, pre114⟩ : ∃ (j113 : Int32), j113 = (if (1 : Int64) < v77 then (1 : Int32) else (0 : Int32)) ∧ ∀ t, Steps p.tables e below (T102.setTop (mkF m 157 #[.val (.int p0), .val (.int p1), .val (.int p2), .val (.int v2), .val (.int v5), .val (.int j9), .val (.int v12), .val (.ref b15), .val (.long v77), .second, .val (.int v82), .val (.int v87), .val (.long v94), .second, .val (.int v99), .val (.int v104)] [(.int j113), (.int v87)])) t → Steps p.tables e below (s₁.setTop (entryFrame m #[(.int p0), (.int p1), (.int p2)] maxLocals)) t := by
          by_cases hc112 : (1 : Int64) < v77
          · exact ⟨(1 : Int32), (by rw [if_pos hc112]), fun t k => pre111 t (by
              show Steps p.tables e below (T102.setTop (mkF m 149 #[.val (.int p0), .val (.int p1), .val (.int p2), .val (.int v2), .val (.int v5), .val (.int j9), .val (.int v12), .val (.ref b15), .val (.long v77), .second, .val (.int v82), .val (.int v87), .val (.long v94), .second, .val (.int v99), .val (.int v104)] [(.int (lcmpW v77 (1 : Int64))), (.int v87)])) _
              refine XS.ifNo X102.here hx rfl (hb hby at_149) rfl ((if0 _ _).trans (tlt ((lw_gt v77 (1 : Int64)).mpr hc112)).2.2.2) ?_
              show Steps p.tables e below (T102.setTop (mkF m 152 #[.val (.int p0), .val (.int p1), .val (.int p2), .val (.int v2), .val (.int v5), .val (.int j9), .val (.int v12), .val (.ref b15), .val (.long v77), .second, .val (.int v82), .val (.int v87), .val (.long v94), .second, .val (.int v99), .val (.int v104)] [(.int v87)])) _
              refine XS.iconst X102.here hx rfl (hb hby at_152) ?_
              show Steps p.tables e below (T102.setTop (mkF m 153 #[.val (.int p0), .val (.int p1), .val (.int p2), .val (.int v2), .val (.int v5), .val (.int j9), .val (.int v12), .val (.ref b15), .val (.long v77), .second, .val (.int v82), .val (.int v87), .val (.long v94), .second, .val (.int v99), .val (.int v104)] [(.int (1 : Int32)), (.int v87)])) _
              refine XS.goto X102.here hx rfl (pc0 := 153) (pc' := 157) rfl (hb hby at_153) (by decide) (by decide) ?_
              exact k)⟩
          · exact ⟨(0 : Int32), (by rw [if_neg hc112]), fun t k => pre111 t (by
              show Steps p.tables e below (T102.setTop (mkF m 149 #[.val (.int p0), .val (.int p1), .val (.int p2), .val (.int v2), .val (.int v5), .val (.int j9), .val (.int v12), .val (.ref b15), .val (.long v77), .second, .val (.int v82), .val (.int v87), .val (.long v94), .second, .val (.int v99), .val (.int v104)] [(.int (lcmpW v77 (1 : Int64))), (.int v87)])) _
              refine XS.ifYes X102.here hx rfl (pc0 := 149) (pc' := 156) rfl (hb hby at_149) rfl ((if0 _ _).trans (flt (fun q => hc112 ((lw_gt v77 (1 : Int64)).mp q))).2.2.2) (by decide) (by decide) ?_
              show Steps p.tables e below (T102.setTop (mkF m 156 #[.val (.int p0), .val (.int p1), .val (.int p2), .val (.int v2), .val (.int v5), .val (.int j9), .val (.int v12), .val (.ref b15), .val (.long v77), .second, .val (.int v82), .val (.int v87), .val (.long v94), .second, .val (.int v99), .val (.int v104)] [(.int v87)])) _
              refine XS.iconst X102.here hx rfl (hb hby at_156) ?_
              exact k)⟩
        by_cases hc115 : v87 = j113
        · have pre116 : ∀ t, Steps p.tables e below (T102.setTop (mkF m 166 #[.val (.int p0), .val (.int p1), .val (.int p2), .val (.int v2), .val (.int v5), .val (.int j9), .val (.int v12), .val (.ref b15), .val (.long v77), .second, .val (.int v82), .val (.int v87), .val (.long v94), .second, .val (.int v99), .val (.int v104)] [(.int (lcmpW v94 (0 : Int64))), (.int v99)])) t → Steps p.tables e below (s₁.setTop (entryFrame m #[(.int p0), (.int p1), (.int p2)] maxLocals)) t := fun t k => pre114 t (by
            show Steps p.tables e below (T102.setTop (mkF m 157 #[.val (.int p0), .val (.int p1), .val (.int p2), .val (.int v2), .val (.int v5), .val (.int j9), .val (.int v12), .val (.ref b15), .val (.long v77), .second, .val (.int v82), .val (.int v87), .val (.long v94), .second, .val (.int v99), .val (.int v104)] [(.int j113), (.int v87)])) _
            refine XS.icmpNo X102.here hx rfl (hb hby at_157) rfl (teq hc115).2 ?_
            show Steps p.tables e below (T102.setTop (mkF m 160 #[.val (.int p0), .val (.int p1), .val (.int p2), .val (.int v2), .val (.int v5), .val (.int j9), .val (.int v12), .val (.ref b15), .val (.long v77), .second, .val (.int v82), .val (.int v87), .val (.long v94), .second, .val (.int v99), .val (.int v104)] [])) _
            refine XS.iload X102.here hx rfl (hb hby at_160) rfl ?_
            show Steps p.tables e below (T102.setTop (mkF m 162 #[.val (.int p0), .val (.int p1), .val (.int p2), .val (.int v2), .val (.int v5), .val (.int j9), .val (.int v12), .val (.ref b15), .val (.long v77), .second, .val (.int v82), .val (.int v87), .val (.long v94), .second, .val (.int v99), .val (.int v104)] [(.int v99)])) _
            refine XS.lload X102.here hx rfl (hb hby at_162) rfl ?_
            show Steps p.tables e below (T102.setTop (mkF m 164 #[.val (.int p0), .val (.int p1), .val (.int p2), .val (.int v2), .val (.int v5), .val (.int j9), .val (.int v12), .val (.ref b15), .val (.long v77), .second, .val (.int v82), .val (.int v87), .val (.long v94), .second, .val (.int v99), .val (.int v104)] [(.long v94), (.int v99)])) _
            refine XS.lconst X102.here hx rfl (hb hby at_164) ?_
            show Steps p.tables e below (T102.setTop (mkF m 165 #[.val (.int p0), .val (.int p1), .val (.int p2), .val (.int v2), .val (.int v5), .val (.int j9), .val (.int v12), .val (.ref b15), .val (.long v77), .second, .val (.int v82), .val (.int v87), .val (.long v94), .second, .val (.int v99), .val (.int v104)] [(.long (0 : Int64)), (.long v94), (.int v99)])) _
            refine XS.lcmp X102.here hx rfl (hb hby at_165) rfl ?_
            exact k)
          obtain ⟨j118, hj118, pre119⟩ : ∃ (j118 : Int32), j118 = (if (0 : Int64) < v94 then (1 : Int32) else (0 : Int32)) ∧ ∀ t, Steps p.tables e below (T102.setTop (mkF m 174 #[.val (.int p0), .val (.int p1), .val (.int p2), .val (.int v2), .val (.int v5), .val (.int j9), .val (.int v12), .val (.ref b15), .val (.long v77), .second, .val (.int v82), .val (.int v87), .val (.long v94), .second, .val (.int v99), .val (.int v104)] [(.int j118), (.int v99)])) t → Steps p.tables e below (s₁.setTop (entryFrame m #[(.int p0), (.int p1), (.int p2)] maxLocals)) t := by
            by_cases hc117 : (0 : Int64) < v94
            · exact ⟨(1 : Int32), (by rw [if_pos hc117]), fun t k => pre116 t (by
                show Steps p.tables e below (T102.setTop (mkF m 166 #[.val (.int p0), .val (.int p1), .val (.int p2), .val (.int v2), .val (.int v5), .val (.int j9), .val (.int v12), .val (.ref b15), .val (.long v77), .second, .val (.int v82), .val (.int v87), .val (.long v94), .second, .val (.int v99), .val (.int v104)] [(.int (lcmpW v94 (0 : Int64))), (.int v99)])) _
                refine XS.ifNo X102.here hx rfl (hb hby at_166) rfl ((if0 _ _).trans (tlt ((lw_gt v94 (0 : Int64)).mpr hc117)).2.2.2) ?_
                show Steps p.tables e below (T102.setTop (mkF m 169 #[.val (.int p0), .val (.int p1), .val (.int p2), .val (.int v2), .val (.int v5), .val (.int j9), .val (.int v12), .val (.ref b15), .val (.long v77), .second, .val (.int v82), .val (.int v87), .val (.long v94), .second, .val (.int v99), .val (.int v104)] [(.int v99)])) _
                refine XS.iconst X102.here hx rfl (hb hby at_169) ?_
                show Steps p.tables e below (T102.setTop (mkF m 170 #[.val (.int p0), .val (.int p1), .val (.int p2), .val (.int v2), .val (.int v5), .val (.int j9), .val (.int v12), .val (.ref b15), .val (.long v77), .second, .val (.int v82), .val (.int v87), .val (.long v94), .second, .val (.int v99), .val (.int v104)] [(.int (1 : Int32)), (.int v99)])) _
                refine XS.goto X102.here hx rfl (pc0 := 170) (pc' := 174) rfl (hb hby at_170) (by decide) (by decide) ?_
                exact k)⟩
            · exact ⟨(0 : Int32), (by rw [if_neg hc117]), fun t k => pre116 t (by
                show Steps p.tables e below (T102.setTop (mkF m 166 #[.val (.int p0), .val (.int p1), .val (.int p2), .val (.int v2), .val (.int v5), .val (.int j9), .val (.int v12), .val (.ref b15), .val (.long v77), .second, .val (.int v82), .val (.int v87), .val (.long v94), .second, .val (.int v99), .val (.int v104)] [(.int (lcmpW v94 (0 : Int64))), (.int v99)])) _
                refine XS.ifYes X102.here hx rfl (pc0 := 166) (pc' := 173) rfl (hb hby at_166) rfl ((if0 _ _).trans (flt (fun q => hc117 ((lw_gt v94 (0 : Int64)).mp q))).2.2.2) (by decide) (by decide) ?_
                show Steps p.tables e below (T102.setTop (mkF m 173 #[.val (.int p0), .val (.int p1), .val (.int p2), .val (.int v2), .val (.int v5), .val (.int j9), .val (.int v12), .val (.ref b15), .val (.long v77), .second, .val (.int v82), .val (.int v87), .val (.long v94), .second, .val (.int v99), .val (.int v104)] [(.int v99)])) _
                refine XS.iconst X102.here hx rfl (hb hby at_173) ?_
                exact k)⟩
          by_cases hc120 : v99 = j118
          · have pre121 : ∀ t, Steps p.tables e below (T102.setTop (mkF m 183 #[.val (.int p0), .val (.int p1), .val (.int p2), .val (.int v2), .val (.int v5), .val (.int j9), .val (.int v12), .val (.ref b15), .val (.long v77), .second, .val (.int v82), .val (.int v87), .val (.long v94), .second, .val (.int v99), .val (.int v104)] [(.int (lcmpW v94 (1 : Int64))), (.int v104)])) t → Steps p.tables e below (s₁.setTop (entryFrame m #[(.int p0), (.int p1), (.int p2)] maxLocals)) t := fun t k => pre119 t (by
              show Steps p.tables e below (T102.setTop (mkF m 174 #[.val (.int p0), .val (.int p1), .val (.int p2), .val (.int v2), .val (.int v5), .val (.int j9), .val (.int v12), .val (.ref b15), .val (.long v77), .second, .val (.int v82), .val (.int v87), .val (.long v94), .second, .val (.int v99), .val (.int v104)] [(.int j118), (.int v99)])) _
              refine XS.icmpNo X102.here hx rfl (hb hby at_174) rfl (teq hc120).2 ?_
              show Steps p.tables e below (T102.setTop (mkF m 177 #[.val (.int p0), .val (.int p1), .val (.int p2), .val (.int v2), .val (.int v5), .val (.int j9), .val (.int v12), .val (.ref b15), .val (.long v77), .second, .val (.int v82), .val (.int v87), .val (.long v94), .second, .val (.int v99), .val (.int v104)] [])) _
              refine XS.iload X102.here hx rfl (hb hby at_177) rfl ?_
              show Steps p.tables e below (T102.setTop (mkF m 179 #[.val (.int p0), .val (.int p1), .val (.int p2), .val (.int v2), .val (.int v5), .val (.int j9), .val (.int v12), .val (.ref b15), .val (.long v77), .second, .val (.int v82), .val (.int v87), .val (.long v94), .second, .val (.int v99), .val (.int v104)] [(.int v104)])) _
              refine XS.lload X102.here hx rfl (hb hby at_179) rfl ?_
              show Steps p.tables e below (T102.setTop (mkF m 181 #[.val (.int p0), .val (.int p1), .val (.int p2), .val (.int v2), .val (.int v5), .val (.int j9), .val (.int v12), .val (.ref b15), .val (.long v77), .second, .val (.int v82), .val (.int v87), .val (.long v94), .second, .val (.int v99), .val (.int v104)] [(.long v94), (.int v104)])) _
              refine XS.lconst X102.here hx rfl (hb hby at_181) ?_
              show Steps p.tables e below (T102.setTop (mkF m 182 #[.val (.int p0), .val (.int p1), .val (.int p2), .val (.int v2), .val (.int v5), .val (.int j9), .val (.int v12), .val (.ref b15), .val (.long v77), .second, .val (.int v82), .val (.int v87), .val (.long v94), .second, .val (.int v99), .val (.int v104)] [(.long (1 : Int64)), (.long v94), (.int v104)])) _
              refine XS.lcmp X102.here hx rfl (hb hby at_182) rfl ?_
              exact k)
            obtain ⟨j123, hj123, pre124⟩ : ∃ (j123 : Int32), j123 = (if (1 : Int64) < v94 then (1 : Int32) else (0 : Int32)) ∧ ∀ t, Steps p.tables e below (T102.setTop (mkF m 191 #[.val (.int p0), .val (.int p1), .val (.int p2), .val (.int v2), .val (.int v5), .val (.int j9), .val (.int v12), .val (.ref b15), .val (.long v77), .second, .val (.int v82), .val (.int v87), .val (.long v94), .second, .val (.int v99), .val (.int v104)] [(.int j123), (.int v104)])) t → Steps p.tables e below (s₁.setTop (entryFrame m #[(.int p0), (.int p1), (.int p2)] maxLocals)) t := by
              by_cases hc122 : (1 : Int64) < v94
              · exact ⟨(1 : Int32), (by rw [if_pos hc122]), fun t k => pre121 t (by
                  show Steps p.tables e below (T102.setTop (mkF m 183 #[.val (.int p0), .val (.int p1), .val (.int p2), .val (.int v2), .val (.int v5), .val (.int j9), .val (.int v12), .val (.ref b15), .val (.long v77), .second, .val (.int v82), .val (.int v87), .val (.long v94), .second, .val (.int v99), .val (.int v104)] [(.int (lcmpW v94 (1 : Int64))), (.int v104)])) _
                  refine XS.ifNo X102.here hx rfl (hb hby at_183) rfl ((if0 _ _).trans (tlt ((lw_gt v94 (1 : Int64)).mpr hc122)).2.2.2) ?_
                  show Steps p.tables e below (T102.setTop (mkF m 186 #[.val (.int p0), .val (.int p1), .val (.int p2), .val (.int v2), .val (.int v5), .val (.int j9), .val (.int v12), .val (.ref b15), .val (.long v77), .second, .val (.int v82), .val (.int v87), .val (.long v94), .second, .val (.int v99), .val (.int v104)] [(.int v104)])) _
                  refine XS.iconst X102.here hx rfl (hb hby at_186) ?_
                  show Steps p.tables e below (T102.setTop (mkF m 187 #[.val (.int p0), .val (.int p1), .val (.int p2), .val (.int v2), .val (.int v5), .val (.int j9), .val (.int v12), .val (.ref b15), .val (.long v77), .second, .val (.int v82), .val (.int v87), .val (.long v94), .second, .val (.int v99), .val (.int v104)] [(.int (1 : Int32)), (.int v104)])) _
                  refine XS.goto X102.here hx rfl (pc0 := 187) (pc' := 191) rfl (hb hby at_187) (by decide) (by decide) ?_
                  exact k)⟩
              · exact ⟨(0 : Int32), (by rw [if_neg hc122]), fun t k => pre121 t (by
                  show Steps p.tables e below (T102.setTop (mkF m 183 #[.val (.int p0), .val (.int p1), .val (.int p2), .val (.int v2), .val (.int v5), .val (.int j9), .val (.int v12), .val (.ref b15), .val (.long v77), .second, .val (.int v82), .val (.int v87), .val (.long v94), .second, .val (.int v99), .val (.int v104)] [(.int (lcmpW v94 (1 : Int64))), (.int v104)])) _
                  refine XS.ifYes X102.here hx rfl (pc0 := 183) (pc' := 190) rfl (hb hby at_183) rfl ((if0 _ _).trans (flt (fun q => hc122 ((lw_gt v94 (1 : Int64)).mp q))).2.2.2) (by decide) (by decide) ?_
                  show Steps p.tables e below (T102.setTop (mkF m 190 #[.val (.int p0), .val (.int p1), .val (.int p2), .val (.int v2), .val (.int v5), .val (.int j9), .val (.int v12), .val (.ref b15), .val (.long v77), .second, .val (.int v82), .val (.int v87), .val (.long v94), .second, .val (.int v99), .val (.int v104)] [(.int v104)])) _
                  refine XS.iconst X102.here hx rfl (hb hby at_190) ?_
                  exact k)⟩
            by_cases hc125 : v104 = j123
            · exact ⟨(1 : Int32), (by subst hj123 hj118 hj113; simp only [if_pos hc110, if_pos hc115, if_pos hc120, if_pos hc125]), fun t k => pre124 t (by
                show Steps p.tables e below (T102.setTop (mkF m 191 #[.val (.int p0), .val (.int p1), .val (.int p2), .val (.int v2), .val (.int v5), .val (.int j9), .val (.int v12), .val (.ref b15), .val (.long v77), .second, .val (.int v82), .val (.int v87), .val (.long v94), .second, .val (.int v99), .val (.int v104)] [(.int j123), (.int v104)])) _
                refine XS.icmpNo X102.here hx rfl (hb hby at_191) rfl (teq hc125).2 ?_
                show Steps p.tables e below (T102.setTop (mkF m 194 #[.val (.int p0), .val (.int p1), .val (.int p2), .val (.int v2), .val (.int v5), .val (.int j9), .val (.int v12), .val (.ref b15), .val (.long v77), .second, .val (.int v82), .val (.int v87), .val (.long v94), .second, .val (.int v99), .val (.int v104)] [])) _
                refine XS.iconst X102.here hx rfl (hb hby at_194) ?_
                show Steps p.tables e below (T102.setTop (mkF m 195 #[.val (.int p0), .val (.int p1), .val (.int p2), .val (.int v2), .val (.int v5), .val (.int j9), .val (.int v12), .val (.ref b15), .val (.long v77), .second, .val (.int v82), .val (.int v87), .val (.long v94), .second, .val (.int v99), .val (.int v104)] [(.int (1 : Int32))])) _
                refine XS.goto X102.here hx rfl (pc0 := 195) (pc' := 199) rfl (hb hby at_195) (by decide) (by decide) ?_
                exact k)⟩
            · exact ⟨(0 : Int32), (by subst hj123 hj118 hj113; simp only [if_pos hc110, if_pos hc115, if_pos hc120, if_neg hc125]), fun t k => pre124 t (by
                show Steps p.tables e below (T102.setTop (mkF m 191 #[.val (.int p0), .val (.int p1), .val (.int p2), .val (.int v2), .val (.int v5), .val (.int j9), .val (.int v12), .val (.ref b15), .val (.long v77), .second, .val (.int v82), .val (.int v87), .val (.long v94), .second, .val (.int v99), .val (.int v104)] [(.int j123), (.int v104)])) _
                refine XS.icmpYes X102.here hx rfl (pc0 := 191) (pc' := 198) rfl (hb hby at_191) rfl (feq hc125).2 (by decide) (by decide) ?_
                show Steps p.tables e below (T102.setTop (mkF m 198 #[.val (.int p0), .val (.int p1), .val (.int p2), .val (.int v2), .val (.int v5), .val (.int j9), .val (.int v12), .val (.ref b15), .val (.long v77), .second, .val (.int v82), .val (.int v87), .val (.long v94), .second, .val (.int v99), .val (.int v104)] [])) _
                refine XS.iconst X102.here hx rfl (hb hby at_198) ?_
                exact k)⟩
          · exact ⟨(0 : Int32), (by subst hj118 hj113; simp only [if_pos hc110, if_pos hc115, if_neg hc120]), fun t k => pre119 t (by
              show Steps p.tables e below (T102.setTop (mkF m 174 #[.val (.int p0), .val (.int p1), .val (.int p2), .val (.int v2), .val (.int v5), .val (.int j9), .val (.int v12), .val (.ref b15), .val (.long v77), .second, .val (.int v82), .val (.int v87), .val (.long v94), .second, .val (.int v99), .val (.int v104)] [(.int j118), (.int v99)])) _
              refine XS.icmpYes X102.here hx rfl (pc0 := 174) (pc' := 198) rfl (hb hby at_174) rfl (feq hc120).2 (by decide) (by decide) ?_
              show Steps p.tables e below (T102.setTop (mkF m 198 #[.val (.int p0), .val (.int p1), .val (.int p2), .val (.int v2), .val (.int v5), .val (.int j9), .val (.int v12), .val (.ref b15), .val (.long v77), .second, .val (.int v82), .val (.int v87), .val (.long v94), .second, .val (.int v99), .val (.int v104)] [])) _
              refine XS.iconst X102.here hx rfl (hb hby at_198) ?_
              exact k)⟩
        · exact ⟨(0 : Int32), (by subst hj113; simp only [if_pos hc110, if_neg hc115]), fun t k => pre114 t (by
            show Steps p.tables e below (T102.setTop (mkF m 157 #[.val (.int p0), .val (.int p1), .val (.int p2), .val (.int v2), .val (.int v5), .val (.int j9), .val (.int v12), .val (.ref b15), .val (.long v77), .second, .val (.int v82), .val (.int v87), .val (.long v94), .second, .val (.int v99), .val (.int v104)] [(.int j113), (.int v87)])) _
            refine XS.icmpYes X102.here hx rfl (pc0 := 157) (pc' := 198) rfl (hb hby at_157) rfl (feq hc115).2 (by decide) (by decide) ?_
            show Steps p.tables e below (T102.setTop (mkF m 198 #[.val (.int p0), .val (.int p1), .val (.int p2), .val (.int v2), .val (.int v5), .val (.int j9), .val (.int v12), .val (.ref b15), .val (.long v77), .second, .val (.int v82), .val (.int v87), .val (.long v94), .second, .val (.int v99), .val (.int v104)] [])) _
            refine XS.iconst X102.here hx rfl (hb hby at_198) ?_
            exact k)⟩
      · exact ⟨(0 : Int32), (by rw [if_neg hc110]), fun t k => pre109 t (by
          show Steps p.tables e below (T102.setTop (mkF m 140 #[.val (.int p0), .val (.int p1), .val (.int p2), .val (.int v2), .val (.int v5), .val (.int j9), .val (.int v12), .val (.ref b15), .val (.long v77), .second, .val (.int v82), .val (.int v87), .val (.long v94), .second, .val (.int v99), .val (.int v104)] [(.int j108), (.int v82)])) _
          refine XS.icmpYes X102.here hx rfl (pc0 := 140) (pc' := 198) rfl (hb hby at_140) rfl (feq hc110).2 (by decide) (by decide) ?_
          show Steps p.tables e below (T102.setTop (mkF m 198 #[.val (.int p0), .val (.int p1), .val (.int p2), .val (.int v2), .val (.int v5), .val (.int j9), .val (.int v12), .val (.ref b15), .val (.long v77), .second, .val (.int v82), .val (.int v87), .val (.long v94), .second, .val (.int v99), .val (.int v104)] [])) _
          refine XS.iconst X102.here hx rfl (hb hby at_198) ?_
          exact k)⟩
    obtain ⟨fs, hr, hrun, hended, hW, hsame⟩ := X102.leave (v := some (.int (nar .boolean j126))) (fun h => by rw [Bd.returns] at h; cases h)
    refine ⟨_, _, pre127 _ ?_, hrun, hended, _, _, rfl, ?_, ⟨_, rfl⟩, hW, hsame.mono (by decide) (by decide)⟩
    · show Steps p.tables e below (T102.setTop (mkF m 199 #[.val (.int p0), .val (.int p1), .val (.int p2), .val (.int v2), .val (.int v5), .val (.int j9), .val (.int v12), .val (.ref b15), .val (.long v77), .second, .val (.int v82), .val (.int v87), .val (.long v94), .second, .val (.int v99), .val (.int v104)] [(.int j126)])) _
      exact retN X102 hx (t := .boolean) Bd.returns (by simp) (hb hby at_199) hr
    · show Q0 Z p0 p1 p2 w_DEFAULTCAPACITY_EMPTY_ELEMENTDATA h0 n0 _ T102.heap _
      have hv : (nar .boolean j126) = f0 p0 p1 p2 := (by subst hj126 hj108 hv104 hv99 hv94 hv87 hv82 hv77 hv12 hj9 hv5 hv2; simp only [f0, if_neg hc21])
      exact ⟨congrArg (fun z => some (Value.int z)) (hv.trans hlaw), N102⟩
theorem own_b (Q : Prop) [Decidable Q] (R : Prop) [Decidable R] (h : Q ↔ ¬ R) : (if Q then (0 : Int32) else (1 : Int32)) = (if R then (1 : Int32) else (0 : Int32)) := by
  by_cases r : R
  · rw [if_pos r, if_neg (fun q => h.mp q r)]
  · rw [if_neg r, if_pos (h.mpr r)]
theorem own_take (w : Int64) (h : 0 ≤ w.toInt) : (f9_a0_room w).toInt = if w.toInt = 0 then 0 else w.toInt - 1 := by
  have k0 : (0 : Int64).toInt = 0 := by decide
  have k1 : (1 : Int64).toInt = 1 := by decide
  have a := c_lsub w 1
  have r := rng64 w
  have r2 := rng64 (w - 1)
  unfold f9_a0_room
  by_cases q : w = 0
  · subst q; rfl
  · have q' : ¬ w.toInt = 0 := fun z => q (Int64.toInt_inj.mp (by rw [z, k0]))
    rw [if_neg q, if_neg q']; omega
theorem own_is (w : Int64) : (w = 0) ↔ w.toInt = 0 := by
  have k0 : (0 : Int64).toInt = 0 := by decide
  rw [← Int64.toInt_inj, k0]
theorem own_max (a : Int64) : (f10 a 0).toInt = if a.toInt < 0 then 0 else a.toInt := by
  have k0 : (0 : Int64).toInt = 0 := by decide
  show (if a < 0 then (0 : Int64) else a).toInt = _
  by_cases q : a < 0
  · rw [if_pos q]; rw [Int64.lt_iff_toInt_lt, k0] at q; rw [if_pos q]; rfl
  · rw [if_neg q]; rw [Int64.lt_iff_toInt_lt, k0] at q; rw [if_neg q]
theorem own_fin (R k : Int64) (h0 : 0 ≤ R.toInt) (h1 : R.toInt ≤ 4294967296) (k0 : 0 ≤ k.toInt) (k1 : k.toInt ≤ 3) :
    nar .boolean (if f9 R = (if (0 : Int64) < R then (1 : Int32) else (0 : Int32)) then (if f9 (f9_a0_room R) = (if (1 : Int64) < R then (1 : Int32) else (0 : Int32)) then (if f9 ((f9_a0_room (f9_a0_room R)) + k) = (if (0 : Int64) < (f10 (R - (2 : Int64)) (0 : Int64)) + k then (1 : Int32) else (0 : Int32)) then (if f9 (f9_a0_room ((f9_a0_room (f9_a0_room R)) + k)) = (if (1 : Int64) < (f10 (R - (2 : Int64)) (0 : Int64)) + k then (1 : Int32) else (0 : Int32)) then (1 : Int32) else (0 : Int32)) else (0 : Int32)) else (0 : Int32)) else (0 : Int32)) = 1 := by
  have z0 : (0 : Int64).toInt = 0 := by decide
  have z1 : (1 : Int64).toInt = 1 := by decide
  have z2 : (2 : Int64).toInt = 2 := by decide
  have a1 := own_take R h0
  have a2 := own_take (f9_a0_room R) (by rw [a1]; split <;> omega)
  have s := c_ladd (f9_a0_room (f9_a0_room R)) k
  have d := c_lsub R 2
  have rd := rng64 (R - 2)
  have m := own_max (R - 2)
  have s2 := c_ladd (f10 (R - 2) 0) k
  have r1 := rng64 (f9_a0_room (f9_a0_room R) + k)
  have r2 := rng64 (f10 (R - 2) 0 + k)
  have e2 : (f9_a0_room (f9_a0_room R)).toInt = if R.toInt ≤ 1 then 0 else R.toInt - 2 := by
    rw [a2, a1]; repeat' split
    all_goals omega
  have e3 : (f9_a0_room (f9_a0_room R) + k).toInt = (if R.toInt ≤ 1 then 0 else R.toInt - 2) + k.toInt := by
    rw [← e2]; split at e2 <;> omega
  have e4 : (f10 (R - 2) 0 + k).toInt = (if R.toInt ≤ 1 then 0 else R.toInt - 2) + k.toInt := by
    split at m <;> split <;> omega
  have a3 := own_take (f9_a0_room (f9_a0_room R) + k) (by rw [e3]; split <;> omega)
  have t1 : f9 R = (if (0 : Int64) < R then (1 : Int32) else (0 : Int32)) := own_b _ _ (by rw [own_is, Int64.lt_iff_toInt_lt, z0]; omega)
  have t2 : f9 (f9_a0_room R) = (if (1 : Int64) < R then (1 : Int32) else (0 : Int32)) := own_b _ _ (by rw [own_is, Int64.lt_iff_toInt_lt, z1, a1]; split <;> omega)
  have t3 : f9 ((f9_a0_room (f9_a0_room R)) + k) = (if (0 : Int64) < (f10 (R - (2 : Int64)) (0 : Int64)) + k then (1 : Int32) else (0 : Int32)) := own_b _ _ (by rw [own_is, Int64.lt_iff_toInt_lt, z0, e3, e4]; split <;> omega)
  have t4 : f9 (f9_a0_room ((f9_a0_room (f9_a0_room R)) + k)) = (if (1 : Int64) < (f10 (R - (2 : Int64)) (0 : Int64)) + k then (1 : Int32) else (0 : Int32)) := own_b _ _ (by
    rw [own_is, Int64.lt_iff_toInt_lt, z1, a3, e3, e4]
    repeat' split
    all_goals omega)
  rw [if_pos t1, if_pos t2, if_pos t3, if_pos t4]
  rfl
theorem own_law (p0 p1 p2 : Int32) : f0 p0 p1 p2 = 1 := by
  have m0 := c_mask p0 2147483647 31 (by decide) (by decide)
  have m1 := c_mask p1 2147483647 31 (by decide) (by decide)
  have m2 := c_mask ((p2.toUInt32 >>> ((1 : Int32) &&& 31).toUInt32).toInt32) 3 2 (by decide) (by decide)
  have k : ((2 ^ 31 : Nat) : Int) = 2147483648 := by decide
  have k2 : ((2 ^ 2 : Nat) : Int) = 4 := by decide
  rw [k] at m0 m1
  rw [k2] at m2
  have z0 : (0 : Int64).toInt = 0 := by decide
  unfold f0
  dsimp only
  generalize (p0 &&& (2147483647 : Int32)) = a at *
  generalize (p1 &&& (2147483647 : Int32)) = b at *
  generalize ((p2.toUInt32 >>> ((1 : Int32) &&& 31).toUInt32).toInt32) &&& (3 : Int32) = c at *
  have ia := c_i2l a
  have ib := c_i2l b
  have ic := c_i2l c
  have sa := c_ladd a.toInt64 b.toInt64
  have ra := rng64 (a.toInt64 + b.toInt64)
  split
  · rw [Int64.zero_add, Int64.add_zero]
    exact own_fin _ _ (by omega) (by omega) (by omega) (by omega)
  · rw [Int64.zero_add]
    exact own_fin _ _ (by omega) (by omega) (by omega) (by omega)

set_option maxRecDepth 65536 in
set_option maxHeartbeats 40000000 in
theorem comes_1 {Post : Tables → Env → Array Value → State → Outcome → State → Prop} (hpost : ∀ tb e args s v u, (limb_1_1.after args s (.returned v) u = true ∧ limb_1_2.after args s (.returned v) u = true ∧ True) → FrameEnd s (.returned v) u (Jvm.fieldLocs frame_1_writes args s ++ Jvm.arrayLocs frame_1_arrays args s ++ Jvm.staticLocs frame_1_statics s) 16 128 → Post tb e args s (.returned v) u) :
    ArmFor flags0 classFile x code maxLocals ret World_1 tables_1 room_1 Calls_1 rest_1 Pre_1 Post := by
  intro l hfl _ _ p e ha hc hk s m args below hf hA hF happ hP
  obtain ⟨hcalls, hrest, hpre⟩ := hP
  obtain ⟨-, -, -, hnamed, -, -, -, hat⟩ := (Spec.applies_iff hf).mp happ
  obtain ⟨hg, hn⟩ := and_e (Cond.before_iff.mp (show (Jvm.Cond.and given_1 narrow_1).before args s = true from hpre))
  obtain ⟨g1, g2⟩ := and_e hg
  obtain ⟨g3, g4⟩ := and_e g2
  obtain ⟨g5, g6⟩ := and_e g4
  obtain ⟨w0, w1, w2, rfl⟩ : ∃ w0 w1 w2 : Value, args = #[w0, w1, w2] := by
    have hs : args.size = 3 := by simpa [Cond.value, given_1] using g1
    obtain ⟨L⟩ := args
    match L, hs with
    | [w0, w1, w2], _ => exact ⟨w0, w1, w2, rfl⟩
  have hw := fun d (hd : d ∈ tables_1) => atoms_spec (ws := Jvm.Cond.code x code maxLocals ret :: tables_1) hat d (List.mem_cons_of_mem _ hd)
  have hfit : Fit s := fun {y c} hc i hi => by
    obtain ⟨ha, rfl⟩ := Array.getElem?_eq_some_iff.mp hc
    have q := List.all_eq_true.mp ((Array.all_eq_true_iff_forall_mem.mp hF) _ (Array.getElem_mem ha)) i (List.mem_range.mpr hi)
    simpa [Array.getElem?_eq_getElem hi] using q
  obtain ⟨hsets, hown0⟩ := atoms_of _ (rest_1_c_eq ▸ (show rest_1_c.before _ s = true from hrest))
  obtain ⟨i0, ei0⟩ := is_v g3
  obtain rfl : w0 = (.int i0) := Option.some.inj ei0
  obtain ⟨i1, ei1⟩ := is_v g5
  obtain rfl : w1 = (.int i1) := Option.some.inj ei1
  obtain ⟨i2, ei2⟩ := is_v g6
  obtain rfl : w2 = (.int i2) := Option.some.inj ei2
  obtain ⟨z0, ez0⟩ := exa_v (Cond.before_iff.mp (hsets _ (List.mem_of_getElem? (i := 7) rfl)))
  have S0 : Sta s s.heap "java/util/ArrayList" "DEFAULTCAPACITY_EMPTY_ELEMENTDATA" "[Ljava/lang/Object;" (.ref z0) := Sta.start ez0 (Or.inr ⟨hw _ (List.mem_of_getElem? (i := 30) rfl), hsets _ (List.mem_of_getElem? (i := 2) rfl)⟩)
  obtain ⟨n, o, h1, h2, h3, _, L, rfl, ⟨rfl, N⟩, hq⟩ := rm0 l s _ hw tables_1 i0 i1 i2 z0 s.heap s.heap.size (Nat.le_refl _) S0 (own_law i0 i1 i2) p e ha hc hk s m _ below hf ((Spec.applies_iff_loose hf).mp happ).1 ⟨rfl, State.Warmed39.refl s, rfl⟩ trivial
  refine ⟨n, _, h1, h2, h3, hpost _ _ _ _ _ _ ⟨Cond.after_iff.mpr rfl, Cond.after_iff.mpr (eq_i res_at (Term.int_eval (1)) rfl), trivial⟩ ⟨hq.1, hq.2.1, (hq.2.2.sift fun y hy => Or.inr (N y hy)).mono (by decide) (by decide)⟩⟩
theorem main_1_1 : Claimed_1_1 := comes_1 fun _ _ _ _ _ _ h hF => ⟨h.1, hF⟩
theorem main_1_2 : Claimed_1_2 := comes_1 fun _ _ _ _ _ _ h hF => ⟨h.2.1, hF⟩
end Jvm.Pilot.@@N@@
namespace Jvm.Pilot.@@N@@
open Jvm Jvm.ClassFile Sem Op Lib Jvm.Free Jvm.Stand Jvm.Pilot.@@N@@.Jvm.D
/-! MADE BY PROGRAM (witnessworld.py) out of the Statement's table words and the real class files: 22 classes; the members and pool entries that the words name. The judged class is class 1, her method 1. -/
namespace start1
open Jvm.ClassFile
def u (s : String) : CpInfo := .utf8 (stringToUtf16 s)
/-- a pool by its gaps: so many unusable entries, then the entry; so many at the end -/
def gap : Nat → List CpInfo → List CpInfo
  | 0, r => r
  | n + 1, r => .unusable :: gap n r
def poolList (es : List (Nat × CpInfo)) (last : Nat) : List CpInfo := es.foldr (fun e r => gap e.1 (e.2 :: r)) (gap last [])
def pool (es : List (Nat × CpInfo)) (last : Nat) : Array CpInfo := ⟨poolList es last⟩
def fileOf (pool : Array CpInfo) (this : Nat) (attrs : Array Attribute := #[]) (ms : Array MethodInfo := #[]) (fl : Nat := 33) (sup : Nat := 0) (ifs : Array Nat := #[]) (fds : Array FieldInfo := #[]) : ClassFile where
  minorVersion := 0
  majorVersion := 65
  constantPool := pool
  accessFlags := fl
  thisClass := this
  superClass := sup
  interfaces := ifs
  fields := fds
  methods := ms
  attributes := attrs
def plain (name : String) (sup : Option ClassId) : Class where
  name := name
  kind := .ordinary
  loader := none
  accessFlags := 33
  super := sup
  interfaces := #[]
  cf := none
  fields := #[]
  methods := #[]
  instanceTypes := #[]
  staticTypes := #[]
  resolved := #[]
  callSites := []
  init := .initialized
  statics := none
  mirror := none

def pool0 : Array CpInfo := pool [(5, u "<init>"), (0, u "()V"), (1, .class_ 10), (1, u "java/lang/Object")] 113

def k0c0 : Code := { maxStack := 0, maxLocals := 1, code := object_method_1_code, exceptionTable := #[], attributes := #[] }
def k0m0 : Method := { name := "<init>", desc := "()V", sig := { parameters := [], returnType := none }, accessFlags := 1, code := some k0c0 }
/-- java/lang/Object -/
def k0 : Class := { plain "java/lang/Object" none with
  accessFlags := 33
  interfaces := #[]
  cf := some (fileOf pool0 8 #[] #[{ accessFlags := 1, nameIndex := 5, descriptorIndex := 6, attributes := #[] }] 33 0 #[] #[])
  fields := #[]
  methods := #[k0m0]
  instanceTypes := #[]
  staticTypes := #[]
  resolved := Array.replicate 124 none
  statics := none }

def pool1 : Array CpInfo := pool [(2, .class_ 4), (0, .nameAndType 5 6), (0, u "java/lang/Object"), (0, u "<init>"), (0, u "()V"), (0, .integer 2147483647), (0, .class_ 9), (0, u "com/example/covenant/covenant/model/InheritedNames"), (0, .methodref 8 3), (0, .methodref 8 12), (0, .nameAndType 13 14), (0, u "makeRoom"), (0, u "(I)V"), (0, .methodref 8 16), (0, .nameAndType 17 18), (0, u "takeRoom"), (0, u "()Z"), (0, .long 2), (1, .methodref 22 23), (0, .class_ 24), (0, .nameAndType 25 26), (0, u "java/lang/Math"), (0, u "max"), (0, u "(JJ)J"), (0, .class_ 28), (0, u "com/example/covenant/covenant/model/InheritedNamesTakeRoomPinLaw"), (2, u "law"), (0, u "(III)Z")] 3

def k1m0 : Method := { name := "<init>", desc := "()V", sig := { parameters := [], returnType := none }, accessFlags := 1, code := none }
def k1c1 : Code := { maxStack := 5, maxLocals := 16, code := code, exceptionTable := #[], attributes := #[] }
def k1m1 : Method := { name := "law", desc := "(III)Z", sig := { parameters := [.int, .int, .int], returnType := some .boolean }, accessFlags := 9, code := some k1c1 }
/-- com/example/covenant/covenant/model/InheritedNamesTakeRoomPinLaw -/
def k1 : Class := { plain "com/example/covenant/covenant/model/InheritedNamesTakeRoomPinLaw" (some 0) with
  accessFlags := 49
  interfaces := #[]
  cf := some (fileOf pool1 27 #[] #[{ accessFlags := 1, nameIndex := 5, descriptorIndex := 6, attributes := #[] }, { accessFlags := 9, nameIndex := 31, descriptorIndex := 32, attributes := #[] }] 49 2 #[] #[])
  fields := #[]
  methods := #[k1m0, k1m1]
  instanceTypes := #[]
  staticTypes := #[]
  resolved := Array.replicate 36 none
  statics := none }

def pool2 : Array CpInfo := pool [(1, .methodref 2 3), (0, .class_ 4), (0, .nameAndType 5 6), (0, u "java/lang/Object"), (0, u "<init>"), (0, u "()V"), (0, .class_ 8), (0, u "java/util/HashMap"), (0, .methodref 7 3), (0, .fieldref 11 12), (0, .class_ 13), (0, .nameAndType 14 15), (0, u "com/example/covenant/covenant/model/InheritedNames"), (0, u "definers"), (0, u "Ljava/util/Map;"), (0, .class_ 17), (0, u "java/util/ArrayList"), (0, .methodref 16 3), (0, .fieldref 11 20), (0, .nameAndType 21 22), (0, u "pending"), (0, u "Ljava/util/List;"), (0, .fieldref 11 24), (0, .nameAndType 25 15), (0, u "made"), (24, .class_ 52), (1, u "com/example/covenant/covenant/model/InheritedNames$Definers"), (17, u "()Z"), (6, .class_ 78), (0, u "com/example/covenant/covenant/model/InheritedNames$Extension"), (14, .fieldref 11 94), (0, .nameAndType 95 96), (0, u "room"), (0, u "J"), (27, u "makeRoom"), (0, u "(I)V"), (0, u "takeRoom"), (7, .class_ 135), (0, u "com/example/covenant/covenant/model/InheritedNames$Definers$1")] 30

def k2c0 : Code := { maxStack := 3, maxLocals := 1, code := prog_55_method_1_code, exceptionTable := #[], attributes := #[] }
def k2m0 : Method := { name := "<init>", desc := "()V", sig := { parameters := [], returnType := none }, accessFlags := 0, code := some k2c0 }
def k2c1 : Code := { maxStack := 5, maxLocals := 2, code := prog_55_method_5_code, exceptionTable := #[], attributes := #[] }
def k2m1 : Method := { name := "makeRoom", desc := "(I)V", sig := { parameters := [.int], returnType := none }, accessFlags := 0, code := some k2c1 }
def k2c2 : Code := { maxStack := 5, maxLocals := 1, code := prog_55_method_6_code, exceptionTable := #[], attributes := #[] }
def k2m2 : Method := { name := "takeRoom", desc := "()Z", sig := { parameters := [], returnType := some .boolean }, accessFlags := 0, code := some k2c2 }
/-- com/example/covenant/covenant/model/InheritedNames -/
def k2 : Class := { plain "com/example/covenant/covenant/model/InheritedNames" (some 0) with
  accessFlags := 48
  interfaces := #[]
  cf := some (fileOf pool2 11 #[.nestMembers #[77, 50, 134]] #[{ accessFlags := 0, nameIndex := 5, descriptorIndex := 6, attributes := #[] }, { accessFlags := 0, nameIndex := 124, descriptorIndex := 125, attributes := #[] }, { accessFlags := 0, nameIndex := 126, descriptorIndex := 70, attributes := #[] }] 48 2 #[] #[{ accessFlags := 18, nameIndex := 14, descriptorIndex := 15, attributes := #[] }, { accessFlags := 18, nameIndex := 21, descriptorIndex := 22, attributes := #[] }, { accessFlags := 18, nameIndex := 25, descriptorIndex := 15, attributes := #[] }, { accessFlags := 2, nameIndex := 95, descriptorIndex := 96, attributes := #[] }])
  fields := #[{ name := "definers", type := (.object "java/util/Map"), accessFlags := 18, slot := 0, constantValue := 0 }, { name := "pending", type := (.object "java/util/List"), accessFlags := 18, slot := 1, constantValue := 0 }, { name := "made", type := (.object "java/util/Map"), accessFlags := 18, slot := 2, constantValue := 0 }, { name := "room", type := .long, accessFlags := 2, slot := 3, constantValue := 0 }]
  methods := #[k2m0, k2m1, k2m2]
  instanceTypes := #[(.object "java/util/Map"), (.object "java/util/List"), (.object "java/util/Map"), .long]
  staticTypes := #[]
  resolved := Array.replicate 166 none
  statics := none }

def pool3 : Array CpInfo := pool [(2, .class_ 4), (1, u "java/util/Map"), (31, .class_ 37), (0, u "java/util/Map$Entry"), (55, .class_ 94), (0, u "java/lang/Object")] 168

/-- java/util/Map -/
def k3 : Class := { plain "java/util/Map" (some 0) with
  accessFlags := 1537
  interfaces := #[]
  cf := some (fileOf pool3 2 #[.nestMembers #[36]] #[] 1537 93 #[] #[])
  fields := #[]
  methods := #[]
  instanceTypes := #[]
  staticTypes := #[]
  resolved := Array.replicate 263 none
  statics := none }

def pool4 : Array CpInfo := pool [(1, .methodref 2 3), (0, .class_ 4), (0, .nameAndType 5 6), (0, u "java/lang/Object"), (0, u "<init>"), (0, u "()V"), (1, .class_ 10), (1, u "java/util/AbstractMap"), (42, .class_ 54), (0, u "java/util/Map"), (9, u "keySet"), (0, u "Ljava/util/Set;"), (0, .class_ 67), (0, u "java/util/AbstractMap$1"), (5, u "values"), (0, u "Ljava/util/Collection;"), (0, .class_ 76), (0, u "java/util/AbstractMap$2"), (104, .class_ 182), (0, u "java/util/AbstractMap$ViewCollection"), (0, .class_ 184), (0, u "java/util/AbstractMap$SimpleImmutableEntry"), (0, .class_ 186), (0, u "java/util/AbstractMap$SimpleEntry"), (0, .class_ 188), (0, u "java/util/AbstractMap$2$1"), (0, .class_ 190), (0, u "java/util/AbstractMap$1$1")] 5

def k4c0 : Code := { maxStack := 1, maxLocals := 1, code := jdk_71_method_1_code, exceptionTable := #[], attributes := #[] }
def k4m0 : Method := { name := "<init>", desc := "()V", sig := { parameters := [], returnType := none }, accessFlags := 4, code := some k4c0 }
/-- java/util/AbstractMap -/
def k4 : Class := { plain "java/util/AbstractMap" (some 0) with
  accessFlags := 1057
  interfaces := #[3]
  cf := some (fileOf pool4 8 #[.nestMembers #[181, 183, 185, 75, 187, 66, 189]] #[{ accessFlags := 4, nameIndex := 5, descriptorIndex := 6, attributes := #[] }] 1057 2 #[53] #[{ accessFlags := 128, nameIndex := 64, descriptorIndex := 65, attributes := #[] }, { accessFlags := 128, nameIndex := 73, descriptorIndex := 74, attributes := #[] }])
  fields := #[{ name := "keySet", type := (.object "java/util/Set"), accessFlags := 128, slot := 0, constantValue := 0 }, { name := "values", type := (.object "java/util/Collection"), accessFlags := 128, slot := 1, constantValue := 0 }]
  methods := #[k4m0]
  instanceTypes := #[(.object "java/util/Set"), (.object "java/util/Collection")]
  staticTypes := #[]
  resolved := Array.replicate 196 none
  statics := none }

def pool5 : Array CpInfo := pool [(1, .class_ 2), (0, u "java/lang/Cloneable"), (0, .class_ 4), (0, u "java/lang/Object")] 2

/-- java/lang/Cloneable -/
def k5 : Class := { plain "java/lang/Cloneable" (some 0) with
  accessFlags := 1537
  interfaces := #[]
  cf := some (fileOf pool5 1 #[] #[] 1537 3 #[] #[])
  fields := #[]
  methods := #[]
  instanceTypes := #[]
  staticTypes := #[]
  resolved := Array.replicate 7 none
  statics := none }

def pool6 : Array CpInfo := pool [(1, .class_ 2), (0, u "java/io/Serializable"), (0, .class_ 4), (0, u "java/lang/Object")] 2

/-- java/io/Serializable -/
def k6 : Class := { plain "java/io/Serializable" (some 0) with
  accessFlags := 1537
  interfaces := #[]
  cf := some (fileOf pool6 1 #[] #[] 1537 3 #[] #[])
  fields := #[]
  methods := #[]
  instanceTypes := #[]
  staticTypes := #[]
  resolved := Array.replicate 7 none
  statics := none }

def pool7 : Array CpInfo := pool [(40, .class_ 41), (0, u "java/util/HashMap"), (1, .methodref 44 45), (0, .class_ 46), (0, .nameAndType 47 48), (0, u "java/util/AbstractMap"), (0, u "<init>"), (0, u "()V"), (32, .fieldref 40 82), (0, .nameAndType 83 84), (0, u "loadFactor"), (0, u "F"), (5, u "threshold"), (0, u "I"), (0, .float 1061158912), (8, .class_ 103), (1, u "java/util/Map"), (0, u "size"), (2, u "table"), (0, u "[Ljava/util/HashMap$Node;"), (14, u "entrySet"), (39, .class_ 165), (1, u "java/util/HashMap$Node"), (14, .class_ 181), (0, u "java/util/HashMap$TreeNode"), (22, u "modCount"), (37, u "Ljava/util/Set;"), (0, .class_ 244), (0, u "java/util/HashMap$KeySet"), (18, .class_ 264), (0, u "java/util/HashMap$Values"), (3, .class_ 269), (0, u "java/util/HashMap$EntrySet"), (76, .class_ 348), (1, u "java/util/HashMap$UnsafeHolder"), (43, .class_ 393), (0, u "java/lang/Cloneable"), (0, .class_ 395), (0, u "java/io/Serializable"), (0, u "serialVersionUID"), (0, u "J"), (3, u "DEFAULT_INITIAL_CAPACITY"), (1, u "MAXIMUM_CAPACITY"), (0, u "DEFAULT_LOAD_FACTOR"), (0, u "TREEIFY_THRESHOLD"), (1, u "UNTREEIFY_THRESHOLD"), (1, u "MIN_TREEIFY_CAPACITY"), (186, .class_ 597), (0, u "java/util/HashMap$EntrySpliterator"), (0, .class_ 599), (0, u "java/util/HashMap$ValueSpliterator"), (0, .class_ 601), (0, u "java/util/HashMap$KeySpliterator"), (0, .class_ 603), (0, u "java/util/HashMap$HashMapSpliterator"), (0, .class_ 605), (0, u "java/util/HashMap$EntryIterator"), (0, .class_ 607), (0, u "java/util/HashMap$ValueIterator"), (0, .class_ 609), (0, u "java/util/HashMap$KeyIterator"), (0, .class_ 611), (0, u "java/util/HashMap$HashIterator")] 17

def k7c0 : Code := { maxStack := 2, maxLocals := 1, code := jdk_69_method_7_code, exceptionTable := #[], attributes := #[] }
def k7m0 : Method := { name := "<init>", desc := "()V", sig := { parameters := [], returnType := none }, accessFlags := 1, code := some k7c0 }
/-- java/util/HashMap -/
def k7 : Class := { plain "java/util/HashMap" (some 4) with
  accessFlags := 33
  interfaces := #[3, 5, 6]
  cf := some (fileOf pool7 40 #[.nestMembers #[180, 596, 598, 600, 602, 604, 606, 608, 610, 346, 268, 263, 243, 163]] #[{ accessFlags := 1, nameIndex := 47, descriptorIndex := 48, attributes := #[] }] 33 44 #[101, 392, 394] #[{ accessFlags := 26, nameIndex := 396, descriptorIndex := 397, attributes := #[] }, { accessFlags := 24, nameIndex := 401, descriptorIndex := 91, attributes := #[] }, { accessFlags := 24, nameIndex := 403, descriptorIndex := 91, attributes := #[] }, { accessFlags := 24, nameIndex := 404, descriptorIndex := 84, attributes := #[] }, { accessFlags := 24, nameIndex := 405, descriptorIndex := 91, attributes := #[] }, { accessFlags := 24, nameIndex := 407, descriptorIndex := 91, attributes := #[] }, { accessFlags := 24, nameIndex := 409, descriptorIndex := 91, attributes := #[] }, { accessFlags := 128, nameIndex := 107, descriptorIndex := 108, attributes := #[] }, { accessFlags := 128, nameIndex := 123, descriptorIndex := 242, attributes := #[] }, { accessFlags := 128, nameIndex := 104, descriptorIndex := 91, attributes := #[] }, { accessFlags := 128, nameIndex := 204, descriptorIndex := 91, attributes := #[] }, { accessFlags := 0, nameIndex := 90, descriptorIndex := 91, attributes := #[] }, { accessFlags := 16, nameIndex := 83, descriptorIndex := 84, attributes := #[] }])
  fields := #[{ name := "serialVersionUID", type := .long, accessFlags := 26, slot := 0, constantValue := 0 }, { name := "DEFAULT_INITIAL_CAPACITY", type := .int, accessFlags := 24, slot := 1, constantValue := 0 }, { name := "MAXIMUM_CAPACITY", type := .int, accessFlags := 24, slot := 2, constantValue := 0 }, { name := "DEFAULT_LOAD_FACTOR", type := .float, accessFlags := 24, slot := 3, constantValue := 0 }, { name := "TREEIFY_THRESHOLD", type := .int, accessFlags := 24, slot := 4, constantValue := 0 }, { name := "UNTREEIFY_THRESHOLD", type := .int, accessFlags := 24, slot := 5, constantValue := 0 }, { name := "MIN_TREEIFY_CAPACITY", type := .int, accessFlags := 24, slot := 6, constantValue := 0 }, { name := "table", type := (.array (.object "java/util/HashMap$Node")), accessFlags := 128, slot := 2, constantValue := 0 }, { name := "entrySet", type := (.object "java/util/Set"), accessFlags := 128, slot := 3, constantValue := 0 }, { name := "size", type := .int, accessFlags := 128, slot := 4, constantValue := 0 }, { name := "modCount", type := .int, accessFlags := 128, slot := 5, constantValue := 0 }, { name := "threshold", type := .int, accessFlags := 0, slot := 6, constantValue := 0 }, { name := "loadFactor", type := .float, accessFlags := 16, slot := 7, constantValue := 0 }]
  methods := #[k7m0]
  instanceTypes := #[(.object "java/util/Set"), (.object "java/util/Collection"), (.array (.object "java/util/HashMap$Node")), (.object "java/util/Set"), .int, .int, .int, .float]
  staticTypes := #[.long, .int, .int, .float, .int, .int, .int]
  resolved := Array.replicate 629 none
  statics := none }

def pool8 : Array CpInfo := pool [(8, .class_ 10), (1, u "java/lang/Iterable"), (24, .class_ 36), (0, u "java/lang/Object")] 25

/-- java/lang/Iterable -/
def k8 : Class := { plain "java/lang/Iterable" (some 0) with
  accessFlags := 1537
  interfaces := #[]
  cf := some (fileOf pool8 8 #[] #[] 1537 35 #[] #[])
  fields := #[]
  methods := #[]
  instanceTypes := #[]
  staticTypes := #[]
  resolved := Array.replicate 62 none
  statics := none }

def pool9 : Array CpInfo := pool [(10, .class_ 12), (1, u "java/util/Collection"), (47, .class_ 61), (0, u "java/lang/Object"), (0, .class_ 63), (0, u "java/lang/Iterable")] 51

/-- java/util/Collection -/
def k9 : Class := { plain "java/util/Collection" (some 0) with
  accessFlags := 1537
  interfaces := #[8]
  cf := some (fileOf pool9 10 #[] #[] 1537 60 #[62] #[])
  fields := #[]
  methods := #[]
  instanceTypes := #[]
  staticTypes := #[]
  resolved := Array.replicate 115 none
  statics := none }

def pool10 : Array CpInfo := pool [(1, .methodref 2 3), (0, .class_ 4), (0, .nameAndType 5 6), (0, u "java/lang/Object"), (0, u "<init>"), (0, u "()V"), (1, .class_ 10), (1, u "java/util/AbstractCollection"), (66, .class_ 78), (0, u "java/util/Collection")] 81

def k10c0 : Code := { maxStack := 1, maxLocals := 1, code := jdk_22_method_1_code, exceptionTable := #[], attributes := #[] }
def k10m0 : Method := { name := "<init>", desc := "()V", sig := { parameters := [], returnType := none }, accessFlags := 4, code := some k10c0 }
/-- java/util/AbstractCollection -/
def k10 : Class := { plain "java/util/AbstractCollection" (some 0) with
  accessFlags := 1057
  interfaces := #[9]
  cf := some (fileOf pool10 8 #[] #[{ accessFlags := 4, nameIndex := 5, descriptorIndex := 6, attributes := #[] }] 1057 2 #[77] #[])
  fields := #[]
  methods := #[k10m0]
  instanceTypes := #[]
  staticTypes := #[]
  resolved := Array.replicate 160 none
  statics := none }

def pool11 : Array CpInfo := pool [(8, .class_ 10), (1, u "java/util/SequencedCollection"), (15, .class_ 27), (0, u "java/lang/Object"), (0, .class_ 29), (0, u "java/util/Collection")] 27

/-- java/util/SequencedCollection -/
def k11 : Class := { plain "java/util/SequencedCollection" (some 0) with
  accessFlags := 1537
  interfaces := #[9]
  cf := some (fileOf pool11 8 #[] #[] 1537 26 #[28] #[])
  fields := #[]
  methods := #[]
  instanceTypes := #[]
  staticTypes := #[]
  resolved := Array.replicate 57 none
  statics := none }

def pool12 : Array CpInfo := pool [(8, .class_ 10), (1, u "java/util/List"), (92, .class_ 104), (0, u "java/lang/Object"), (15, .class_ 121), (0, u "java/util/SequencedCollection")] 129

/-- java/util/List -/
def k12 : Class := { plain "java/util/List" (some 0) with
  accessFlags := 1537
  interfaces := #[11]
  cf := some (fileOf pool12 8 #[] #[] 1537 103 #[120] #[])
  fields := #[]
  methods := #[]
  instanceTypes := #[]
  staticTypes := #[]
  resolved := Array.replicate 251 none
  statics := none }

def pool13 : Array CpInfo := pool [(1, .methodref 2 3), (0, .class_ 4), (0, .nameAndType 5 6), (0, u "java/util/AbstractCollection"), (0, u "<init>"), (0, u "()V"), (0, .fieldref 8 9), (0, .class_ 10), (0, .nameAndType 11 12), (0, u "java/util/AbstractList"), (0, u "modCount"), (0, u "I"), (64, .class_ 78), (0, u "java/util/AbstractList$Itr"), (3, .class_ 83), (0, u "java/util/AbstractList$ListItr"), (9, .class_ 94), (0, u "java/util/AbstractList$RandomAccessSubList"), (3, .class_ 99), (0, u "java/util/AbstractList$SubList"), (33, .class_ 134), (0, u "java/util/List"), (73, .class_ 209), (0, u "java/util/AbstractList$SubList$1"), (0, .class_ 211), (0, u "java/util/AbstractList$RandomAccessSpliterator")] 6

def k13c0 : Code := { maxStack := 2, maxLocals := 1, code := jdk_39_method_1_code, exceptionTable := #[], attributes := #[] }
def k13m0 : Method := { name := "<init>", desc := "()V", sig := { parameters := [], returnType := none }, accessFlags := 4, code := some k13c0 }
/-- java/util/AbstractList -/
def k13 : Class := { plain "java/util/AbstractList" (some 10) with
  accessFlags := 1057
  interfaces := #[12]
  cf := some (fileOf pool13 8 #[.nestMembers #[93, 98, 208, 210, 82, 77]] #[{ accessFlags := 4, nameIndex := 5, descriptorIndex := 6, attributes := #[] }] 1057 2 #[133] #[{ accessFlags := 132, nameIndex := 11, descriptorIndex := 12, attributes := #[] }])
  fields := #[{ name := "modCount", type := .int, accessFlags := 132, slot := 0, constantValue := 0 }]
  methods := #[k13m0]
  instanceTypes := #[.int]
  staticTypes := #[]
  resolved := Array.replicate 218 none
  statics := none }

def pool14 : Array CpInfo := pool [(1, .class_ 2), (0, u "java/util/RandomAccess"), (0, .class_ 4), (0, u "java/lang/Object")] 2

/-- java/util/RandomAccess -/
def k14 : Class := { plain "java/util/RandomAccess" (some 0) with
  accessFlags := 1537
  interfaces := #[]
  cf := some (fileOf pool14 1 #[] #[] 1537 3 #[] #[])
  fields := #[]
  methods := #[]
  instanceTypes := #[]
  staticTypes := #[]
  resolved := Array.replicate 7 none
  statics := none }

def pool15 : Array CpInfo := pool [(1, .methodref 2 3), (0, .class_ 4), (0, .nameAndType 5 6), (0, u "java/util/AbstractList"), (0, u "<init>"), (0, u "()V"), (2, .fieldref 10 11), (0, .class_ 12), (0, .nameAndType 13 14), (0, u "java/util/ArrayList"), (0, u "elementData"), (0, u "[Ljava/lang/Object;"), (2, u "EMPTY_ELEMENTDATA"), (21, .fieldref 10 40), (0, .nameAndType 41 14), (0, u "DEFAULTCAPACITY_EMPTY_ELEMENTDATA"), (8, u "size"), (0, u "I"), (96, .class_ 149), (0, u "java/util/List"), (112, .class_ 263), (0, u "java/util/ArrayList$ListItr"), (3, .class_ 268), (0, u "java/util/ArrayList$Itr"), (7, .class_ 277), (0, u "java/util/ArrayList$SubList"), (12, .class_ 291), (0, u "java/util/ArrayList$ArrayListSpliterator"), (37, .class_ 330), (0, u "java/util/RandomAccess"), (0, .class_ 332), (0, u "java/lang/Cloneable"), (0, .class_ 334), (0, u "java/io/Serializable"), (0, u "serialVersionUID"), (0, u "J"), (3, u "DEFAULT_CAPACITY"), (159, .class_ 501), (0, u "java/util/ArrayList$SubList$2"), (0, .class_ 503), (0, u "java/util/ArrayList$SubList$1")] 5

def k15c0 : Code := { maxStack := 2, maxLocals := 1, code := jdk_38_method_2_code, exceptionTable := #[], attributes := #[] }
def k15m0 : Method := { name := "<init>", desc := "()V", sig := { parameters := [], returnType := none }, accessFlags := 1, code := some k15c0 }
/-- java/util/ArrayList -/
def k15 : Class := { plain "java/util/ArrayList" (some 13) with
  accessFlags := 33
  interfaces := #[12, 14, 5, 6]
  cf := some (fileOf pool15 10 #[.nestMembers #[290, 276, 500, 502, 262, 267]] #[{ accessFlags := 1, nameIndex := 5, descriptorIndex := 6, attributes := #[] }] 33 2 #[148, 329, 331, 333] #[{ accessFlags := 26, nameIndex := 335, descriptorIndex := 336, attributes := #[] }, { accessFlags := 26, nameIndex := 340, descriptorIndex := 51, attributes := #[] }, { accessFlags := 26, nameIndex := 17, descriptorIndex := 14, attributes := #[] }, { accessFlags := 26, nameIndex := 41, descriptorIndex := 14, attributes := #[] }, { accessFlags := 128, nameIndex := 13, descriptorIndex := 14, attributes := #[] }, { accessFlags := 2, nameIndex := 50, descriptorIndex := 51, attributes := #[] }])
  fields := #[{ name := "serialVersionUID", type := .long, accessFlags := 26, slot := 0, constantValue := 0 }, { name := "DEFAULT_CAPACITY", type := .int, accessFlags := 26, slot := 1, constantValue := 0 }, { name := "EMPTY_ELEMENTDATA", type := (.array (.object "java/lang/Object")), accessFlags := 26, slot := 2, constantValue := 0 }, { name := "DEFAULTCAPACITY_EMPTY_ELEMENTDATA", type := (.array (.object "java/lang/Object")), accessFlags := 26, slot := 3, constantValue := 0 }, { name := "elementData", type := (.array (.object "java/lang/Object")), accessFlags := 128, slot := 1, constantValue := 0 }, { name := "size", type := .int, accessFlags := 2, slot := 2, constantValue := 0 }]
  methods := #[k15m0]
  instanceTypes := #[.int, (.array (.object "java/lang/Object")), .int]
  staticTypes := #[.long, .int, (.array (.object "java/lang/Object")), (.array (.object "java/lang/Object"))]
  resolved := Array.replicate 509 none
  statics := some 0 }

def pool16 : Array CpInfo := pool [(1, .class_ 2), (0, u "java/lang/Math"), (1, .class_ 6), (1, u "java/lang/Object"), (0, u "<init>"), (0, u "()V"), (89, .class_ 100), (1, u "java/lang/Math$RandomNumberGeneratorHolder"), (20, u "(JJ)J"), (50, u "negativeZeroFloatBits"), (0, u "J"), (2, u "negativeZeroDoubleBits"), (21, u "max"), (46, u "$assertionsDisabled"), (0, u "Z"), (91, u "twoToTheDoubleScaleDown"), (0, u "D"), (4, u "twoToTheDoubleScaleUp"), (9, u "E"), (3, u "PI"), (2, u "TAU"), (2, u "DEGREES_TO_RADIANS"), (0, u "RADIANS_TO_DEGREES")] 94

def k16m0 : Method := { name := "<init>", desc := "()V", sig := { parameters := [], returnType := none }, accessFlags := 2, code := none }
def k16c1 : Code := { maxStack := 4, maxLocals := 4, code := jdk_29_method_66_code, exceptionTable := #[], attributes := #[] }
def k16m1 : Method := { name := "max", desc := "(JJ)J", sig := { parameters := [.long, .long], returnType := some .long }, accessFlags := 9, code := some k16c1 }
/-- java/lang/Math -/
def k16 : Class := { plain "java/lang/Math" (some 0) with
  accessFlags := 49
  interfaces := #[]
  cf := some (fileOf pool16 1 #[.nestMembers #[98]] #[{ accessFlags := 2, nameIndex := 7, descriptorIndex := 8, attributes := #[] }, { accessFlags := 9, nameIndex := 198, descriptorIndex := 121, attributes := #[] }] 49 4 #[] #[{ accessFlags := 25, nameIndex := 354, descriptorIndex := 339, attributes := #[] }, { accessFlags := 25, nameIndex := 358, descriptorIndex := 339, attributes := #[] }, { accessFlags := 25, nameIndex := 361, descriptorIndex := 339, attributes := #[] }, { accessFlags := 26, nameIndex := 364, descriptorIndex := 339, attributes := #[] }, { accessFlags := 26, nameIndex := 365, descriptorIndex := 339, attributes := #[] }, { accessFlags := 26, nameIndex := 172, descriptorIndex := 173, attributes := #[] }, { accessFlags := 26, nameIndex := 176, descriptorIndex := 173, attributes := #[] }, { accessFlags := 8, nameIndex := 344, descriptorIndex := 339, attributes := #[] }, { accessFlags := 8, nameIndex := 338, descriptorIndex := 339, attributes := #[] }, { accessFlags := 4120, nameIndex := 245, descriptorIndex := 246, attributes := #[] }])
  fields := #[{ name := "E", type := .double, accessFlags := 25, slot := 0, constantValue := 0 }, { name := "PI", type := .double, accessFlags := 25, slot := 1, constantValue := 0 }, { name := "TAU", type := .double, accessFlags := 25, slot := 2, constantValue := 0 }, { name := "DEGREES_TO_RADIANS", type := .double, accessFlags := 26, slot := 3, constantValue := 0 }, { name := "RADIANS_TO_DEGREES", type := .double, accessFlags := 26, slot := 4, constantValue := 0 }, { name := "negativeZeroFloatBits", type := .long, accessFlags := 26, slot := 5, constantValue := 0 }, { name := "negativeZeroDoubleBits", type := .long, accessFlags := 26, slot := 6, constantValue := 0 }, { name := "twoToTheDoubleScaleUp", type := .double, accessFlags := 8, slot := 7, constantValue := 0 }, { name := "twoToTheDoubleScaleDown", type := .double, accessFlags := 8, slot := 8, constantValue := 0 }, { name := "$assertionsDisabled", type := .boolean, accessFlags := 4120, slot := 9, constantValue := 0 }]
  methods := #[k16m0, k16m1]
  instanceTypes := #[]
  staticTypes := #[.double, .double, .double, .double, .double, .long, .long, .double, .double, .boolean]
  resolved := Array.replicate 460 none
  statics := none }

/-- the primitive byte -/
def k17 : Class := { plain "byte" none with kind := .primitive 'B', accessFlags := 0x411 }
/-- [B -/
def k18 : Class := { plain "[B" (some 0) with kind := .array 17 .byte, interfaces := #[5, 6], accessFlags := 1041 }

/-- the primitive int -/
def k19 : Class := { plain "int" none with kind := .primitive 'I', accessFlags := 0x411 }
/-- [I -/
def k20 : Class := { plain "[I" (some 0) with kind := .array 19 .int, interfaces := #[5, 6], accessFlags := 1041 }

/-- [Ljava/lang/Object; -/
def k21 : Class := { plain "[Ljava/lang/Object;" (some 0) with kind := .array 0 (.object "java/lang/Object"), interfaces := #[5, 6], accessFlags := 1041 }

def heap : Heap := #[{ cls := 15, slots := #[.long 0, .int 0, .ref 1, .ref 2], vm := .statics 15 },
  { cls := 21, slots := #[], vm := .none },
  { cls := 21, slots := #[], vm := .none }]
def classes : Array Class := #[k0, k1, k2, k3, k4, k5, k6, k7, k8, k9, k10, k11, k12, k13, k14, k15, k16, k17, k18, k19, k20, k21]
def interned : List (Array UInt16 × Addr) := []
def slotsUsed : Nat := 4
def theMethod : MethodId := ⟨1, 1⟩
def args0 : Array Value := #[.int 5, .int 3, .int 3]
def aboutOver (below : List Frame) : State where
  vm := { classes := classes, interned := interned.toArray }
  heap := heap
  slotsUsed := slotsUsed
  threads := #[{ frames := .invoking theMethod args0 :: below }]
def below0 : List Frame := [.native { method := ⟨0, 0⟩, args := #[] }]
def about1 : State := aboutOver below0
def p0 : Program := .bare "" "" ""
def e0 : Env := launch0.env 0 0 0
theorem w_frames : about1.frames = Frame.invoking theMethod args0 :: below0 := rfl
set_option maxRecDepth 65536 in
theorem w_args : argsFit about1.vm theMethod args0 = true := by decide +kernel
set_option maxRecDepth 65536 in
theorem w_heap : heapFits about1 = true := by decide +kernel
set_option maxRecDepth 65536 in
theorem w_runnable : about1.curStatus? = some .runnable := by decide +kernel
set_option maxRecDepth 65536 in
theorem w_alone : about1.alone = true := by decide +kernel
set_option maxRecDepth 65536 in
theorem w_named : about1.methodNamed? x = some theMethod := by decide +kernel
set_option maxRecDepth 65536 in
theorem w_hears : about1.hears theMethod below0 = true := by decide +kernel
set_option maxRecDepth 65536 in
theorem w_ripe : about1.ripe theMethod args0 below0 = true := by decide +kernel
theorem w_running : about1.status = .running := rfl
set_option maxRecDepth 65536 in
theorem w_room : about1.hasRoom e0.platform room_1 = true :=
  launch0.hasRoom_least _ room_1 (by decide +kernel) (by decide +kernel) (by decide +kernel) (by decide +kernel) (by decide +kernel) (by decide +kernel)
theorem allAtoms_all (ts : List Jvm.Cond) (a : Array Jvm.Value) (st : Jvm.State) : (allAtoms ts).before a st = ts.all (fun c => c.before a st) := by
  induction ts with
  | nil => rfl
  | cons c t ih =>
    show (Jvm.Cond.and c (allAtoms t)).before a st = _
    rw [Jvm.Cond.before_and, ih, List.all_cons]
def words1 : List Jvm.Cond := Jvm.Cond.code x code maxLocals ret :: tables_1
/-- a 'code' word, met by the world's own term for the bytes: nothing is compared byte by byte -/
theorem code_word {y : MethodName} {bytes : ByteArray} {mx : Nat} {rt : Option FieldType} {a : Array Value} {s : State} {m : MethodId} {meth : Method} {c : Code} (h1 : s.methodNamed? y = some m) (h2 : s.vm.method? m = some meth) (h3 : meth.code = some c) (h4 : c.code = bytes)
    (h5 : (c.maxLocals == mx && c.exceptionTable.isEmpty && decide (c.maxStack ≤ mostOperands) && decide (meth.sig.returnType = rt) && !meth.locks && decide (parseMethodDescriptor y.desc = some meth.sig)) = true) : (Jvm.Cond.code y bytes mx rt).before a s = true := by
  simp only [Bool.and_eq_true, beq_iff_eq, Bool.not_eq_true', decide_eq_true_eq] at h5
  obtain ⟨⟨⟨⟨⟨g1, g2⟩, g3⟩, g4⟩, g5⟩, g6⟩ := h5
  simp [Cond.before, Cond.holds, Cond.value, h1, h2, h3, h4, g1, g2, g3, g4, g5, g6]
def isCode : Jvm.Cond → Bool
  | .code _ _ _ _ => true
  | _ => false
theorem all_split {L : List Jvm.Cond} {P : Jvm.Cond → Bool} (h1 : L.all (fun c => isCode c || P c) = true) (h2 : ∀ c ∈ L.filter isCode, P c = true) : L.all P = true := by
  refine List.all_eq_true.mpr fun c hc => ?_
  have h := List.all_eq_true.mp h1 c hc
  rcases Bool.eq_false_or_eq_true (isCode c) with hi | hi
  · exact h2 c (List.mem_filter.mpr ⟨hc, hi⟩)
  · simpa [hi] using h
set_option maxRecDepth 65536 in
theorem w_c0 : (Jvm.Cond.code x code maxLocals ret).before args0 about1 = true := code_word (m := ⟨1, 1⟩) (meth := k1m1) (c := k1c1) (by decide +kernel) rfl rfl rfl (by decide +kernel)
set_option maxRecDepth 65536 in
theorem w_c1 : (Jvm.Cond.code ({ cls := "com/example/covenant/covenant/model/InheritedNames", name := "<init>", desc := "()V" } : Jvm.MethodName) prog_55_method_1_code (1 : Nat) (Option.none : Option Jvm.ClassFile.FieldType)).before args0 about1 = true := code_word (m := ⟨2, 0⟩) (meth := k2m0) (c := k2c0) (by decide +kernel) rfl rfl rfl (by decide +kernel)
set_option maxRecDepth 65536 in
theorem w_c2 : (Jvm.Cond.code ({ cls := "java/lang/Object", name := "<init>", desc := "()V" } : Jvm.MethodName) object_method_1_code (1 : Nat) (Option.none : Option Jvm.ClassFile.FieldType)).before args0 about1 = true := code_word (m := ⟨0, 0⟩) (meth := k0m0) (c := k0c0) (by decide +kernel) rfl rfl rfl (by decide +kernel)
set_option maxRecDepth 65536 in
theorem w_c3 : (Jvm.Cond.code ({ cls := "java/util/HashMap", name := "<init>", desc := "()V" } : Jvm.MethodName) jdk_69_method_7_code (1 : Nat) (Option.none : Option Jvm.ClassFile.FieldType)).before args0 about1 = true := code_word (m := ⟨7, 0⟩) (meth := k7m0) (c := k7c0) (by decide +kernel) rfl rfl rfl (by decide +kernel)
set_option maxRecDepth 65536 in
theorem w_c4 : (Jvm.Cond.code ({ cls := "java/util/AbstractMap", name := "<init>", desc := "()V" } : Jvm.MethodName) jdk_71_method_1_code (1 : Nat) (Option.none : Option Jvm.ClassFile.FieldType)).before args0 about1 = true := code_word (m := ⟨4, 0⟩) (meth := k4m0) (c := k4c0) (by decide +kernel) rfl rfl rfl (by decide +kernel)
set_option maxRecDepth 65536 in
theorem w_c5 : (Jvm.Cond.code ({ cls := "java/util/ArrayList", name := "<init>", desc := "()V" } : Jvm.MethodName) jdk_38_method_2_code (1 : Nat) (Option.none : Option Jvm.ClassFile.FieldType)).before args0 about1 = true := code_word (m := ⟨15, 0⟩) (meth := k15m0) (c := k15c0) (by decide +kernel) rfl rfl rfl (by decide +kernel)
set_option maxRecDepth 65536 in
theorem w_c6 : (Jvm.Cond.code ({ cls := "java/util/AbstractList", name := "<init>", desc := "()V" } : Jvm.MethodName) jdk_39_method_1_code (1 : Nat) (Option.none : Option Jvm.ClassFile.FieldType)).before args0 about1 = true := code_word (m := ⟨13, 0⟩) (meth := k13m0) (c := k13c0) (by decide +kernel) rfl rfl rfl (by decide +kernel)
set_option maxRecDepth 65536 in
theorem w_c7 : (Jvm.Cond.code ({ cls := "java/util/AbstractCollection", name := "<init>", desc := "()V" } : Jvm.MethodName) jdk_22_method_1_code (1 : Nat) (Option.none : Option Jvm.ClassFile.FieldType)).before args0 about1 = true := code_word (m := ⟨10, 0⟩) (meth := k10m0) (c := k10c0) (by decide +kernel) rfl rfl rfl (by decide +kernel)
set_option maxRecDepth 65536 in
theorem w_c8 : (Jvm.Cond.code ({ cls := "com/example/covenant/covenant/model/InheritedNames", name := "makeRoom", desc := "(I)V" } : Jvm.MethodName) prog_55_method_5_code (2 : Nat) (Option.none : Option Jvm.ClassFile.FieldType)).before args0 about1 = true := code_word (m := ⟨2, 1⟩) (meth := k2m1) (c := k2c1) (by decide +kernel) rfl rfl rfl (by decide +kernel)
set_option maxRecDepth 65536 in
theorem w_c9 : (Jvm.Cond.code ({ cls := "com/example/covenant/covenant/model/InheritedNames", name := "takeRoom", desc := "()Z" } : Jvm.MethodName) prog_55_method_6_code (1 : Nat) (Option.some Jvm.ClassFile.FieldType.boolean)).before args0 about1 = true := code_word (m := ⟨2, 2⟩) (meth := k2m2) (c := k2c2) (by decide +kernel) rfl rfl rfl (by decide +kernel)
set_option maxRecDepth 65536 in
theorem w_c10 : (Jvm.Cond.code ({ cls := "java/lang/Math", name := "max", desc := "(JJ)J" } : Jvm.MethodName) jdk_29_method_66_code (4 : Nat) (Option.some Jvm.ClassFile.FieldType.long)).before args0 about1 = true := code_word (m := ⟨16, 1⟩) (meth := k16m1) (c := k16c1) (by decide +kernel) rfl rfl rfl (by decide +kernel)
def codes1 : List Jvm.Cond := [Jvm.Cond.code x code maxLocals ret, Jvm.Cond.code ({ cls := "com/example/covenant/covenant/model/InheritedNames", name := "<init>", desc := "()V" } : Jvm.MethodName) prog_55_method_1_code (1 : Nat) (Option.none : Option Jvm.ClassFile.FieldType), Jvm.Cond.code ({ cls := "java/lang/Object", name := "<init>", desc := "()V" } : Jvm.MethodName) object_method_1_code (1 : Nat) (Option.none : Option Jvm.ClassFile.FieldType), Jvm.Cond.code ({ cls := "java/util/HashMap", name := "<init>", desc := "()V" } : Jvm.MethodName) jdk_69_method_7_code (1 : Nat) (Option.none : Option Jvm.ClassFile.FieldType), Jvm.Cond.code ({ cls := "java/util/AbstractMap", name := "<init>", desc := "()V" } : Jvm.MethodName) jdk_71_method_1_code (1 : Nat) (Option.none : Option Jvm.ClassFile.FieldType), Jvm.Cond.code ({ cls := "java/util/ArrayList", name := "<init>", desc := "()V" } : Jvm.MethodName) jdk_38_method_2_code (1 : Nat) (Option.none : Option Jvm.ClassFile.FieldType), Jvm.Cond.code ({ cls := "java/util/AbstractList", name := "<init>", desc := "()V" } : Jvm.MethodName) jdk_39_method_1_code (1 : Nat) (Option.none : Option Jvm.ClassFile.FieldType), Jvm.Cond.code ({ cls := "java/util/AbstractCollection", name := "<init>", desc := "()V" } : Jvm.MethodName) jdk_22_method_1_code (1 : Nat) (Option.none : Option Jvm.ClassFile.FieldType), Jvm.Cond.code ({ cls := "com/example/covenant/covenant/model/InheritedNames", name := "makeRoom", desc := "(I)V" } : Jvm.MethodName) prog_55_method_5_code (2 : Nat) (Option.none : Option Jvm.ClassFile.FieldType), Jvm.Cond.code ({ cls := "com/example/covenant/covenant/model/InheritedNames", name := "takeRoom", desc := "()Z" } : Jvm.MethodName) prog_55_method_6_code (1 : Nat) (Option.some Jvm.ClassFile.FieldType.boolean), Jvm.Cond.code ({ cls := "java/lang/Math", name := "max", desc := "(JJ)J" } : Jvm.MethodName) jdk_29_method_66_code (4 : Nat) (Option.some Jvm.ClassFile.FieldType.long)]
set_option maxRecDepth 65536 in
theorem codes_eq : words1.filter isCode = codes1 := rfl
theorem w_codes : ∀ c ∈ words1.filter isCode, c.before args0 about1 = true := by
  rw [codes_eq]
  intro c hc
  simp only [codes1, List.mem_cons, List.not_mem_nil, or_false] at hc
  rcases hc with rfl | rfl | rfl | rfl | rfl | rfl | rfl | rfl | rfl | rfl | rfl
  · exact w_c0
  · exact w_c1
  · exact w_c2
  · exact w_c3
  · exact w_c4
  · exact w_c5
  · exact w_c6
  · exact w_c7
  · exact w_c8
  · exact w_c9
  · exact w_c10
set_option maxRecDepth 65536 in
theorem w_t1 : (words1.take 24).all (fun c => isCode c || c.before args0 about1) = true := by decide +kernel
set_option maxRecDepth 65536 in
theorem w_t2 : ((words1.drop 24).take 24).all (fun c => isCode c || c.before args0 about1) = true := by decide +kernel
set_option maxRecDepth 65536 in
theorem w_t3 : (((words1.drop 24).drop 24).take 24).all (fun c => isCode c || c.before args0 about1) = true := by decide +kernel
set_option maxRecDepth 65536 in
theorem w_t4 : (((words1.drop 24).drop 24).drop 24).all (fun c => isCode c || c.before args0 about1) = true := by decide +kernel
theorem w_tables : (allAtoms (Jvm.Cond.code x code maxLocals ret :: tables_1)).before args0 about1 = true := by
  rw [allAtoms_all]
  show words1.all (fun c => c.before args0 about1) = true
  refine all_split ?_ w_codes
  rw [← List.take_append_drop 24 words1, List.all_append, w_t1, ← List.take_append_drop 24 (words1.drop 24), List.all_append, w_t2, ← List.take_append_drop 24 ((words1.drop 24).drop 24), List.all_append, w_t3, w_t4]
  rfl
set_option maxRecDepth 65536 in
theorem w_rest : rest_1_c.before args0 about1 = true := by decide +kernel
set_option maxRecDepth 65536 in
theorem w_case : (Jvm.Cond.and given_1 narrow_1).before args0 about1 = true := by decide +kernel
theorem w_applies : (headSpec (Jvm.Cond.code x code maxLocals ret :: tables_1) room_1).applies x e0.platform about1 = true :=
  (Spec.applies_iff w_frames).mpr ⟨w_running, w_runnable, w_alone, w_named, w_hears, w_ripe, w_room, w_tables⟩
theorem atStart : AtStart classFile x code maxLocals ret World_1 tables_1 room_1 Calls_1 rest_1 Pre_1 launch0 p0 e0 about1 theMethod args0 below0 :=
  ⟨lists_1, trivial, launch0.admits_env _ _ _, launch0.least_env, fairChoices_fair.cas, fairChoices_fair.clock, w_frames, w_args, w_heap, w_applies, trivial, w_rest, w_case⟩
end start1
theorem witness_1 : WitnessClaimed_1 := ⟨start1.p0, start1.e0, start1.about1, start1.theMethod, start1.args0, start1.below0, start1.atStart⟩
end Jvm.Pilot.@@N@@
