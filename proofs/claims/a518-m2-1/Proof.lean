import JvmDerived
import JvmDerived.Pilot.@@N@@Statement
import JvmDerived.Pilot.@@N@@Code
set_option linter.unusedVariables false
set_option linter.unusedSimpArgs false
namespace Jvm.RoadKit
open Sem ClassFile Op Lib Jvm.Stand Jvm.Free Jvm.LawKit
section New
variable {p : Program} {l : Launch} {e : Env} {R : Room} {s : State} {m : MethodId} {args : Array Value} {below : List Frame} {meth : Method} {c : Code} {T : State} {locs : List Loc} {cells slots : Nat}
theorem retI (X : Stand p l e R s m args below meth c T locs cells slots) (hx : p.tables.exec = Jvm.exec) {pc : Nat} {Ls : Array Slot} {z : Int32} {rest : List Value} (hret : meth.sig.returnType = some .int) (hd : decode c.code pc = .ok (.ireturn, 1)) {fs : List Frame}
    (hl : ∀ (f : JFrame) (acts : List Action), f.method = m → f.locked = none → f.entered = [] → (doReturn e (T.setTop f) acts (some (.int z))).1 = T.setFrames fs) : Steps p.tables e below (T.setTop (mkF m pc Ls (.int z :: rest))) (T.setFrames fs) := by
  have hm' : T.vm.method? m = some meth := X.method'
  have hn : narrow .int (.int z) = .int z := rfl
  show Steps p.tables e below (T.setTop { method := m, pc := pc, locals := Ls, stack := _ :: rest, locked := none }) _
  jvm_step X.here [X.here.top, hx, hd, hm', hret, hn]
  first | (intro acts; rw [hl _ acts rfl rfl rfl]) | rw [hl _ _ rfl rfl rfl]
  exact Steps.refl _
end New
end Jvm.RoadKit
namespace Jvm.Pilot.@@N@@
open Jvm Jvm.ClassFile Sem Op Lib Jvm.Free Jvm.Stand Jvm.LawKit Jvm.RoadKit Bundle Jvm.Pilot.@@N@@.Jvm.D
theorem pn_3 : plainName "java/lang/Record" = true := by first | (simp [plainName, overriddenIn]; done) | decide +kernel
theorem d2_0 : decode jdk_30_method_1_code 0 = .ok (.aload_n 0, 1) := by decide +kernel
theorem d2_1 : decode jdk_30_method_1_code 1 = .ok (.invokespecial 1, 3) := by decide +kernel
theorem ef_2 (m : MethodId) (x0 : Addr) : entryFrame m #[(.ref x0)] 1 = mkF m 0 #[.val (.ref x0)] [] := by first | (simp [entryFrame, mkF, argsToLocals, Value.category]; done) | rfl
def Q2 (Z : State) (a0 : Addr) (h0 : Heap) (n0 : Nat) (v : Option Value) (h : Heap) (L : List Loc) : Prop := v = none ∧ Fr n0 L ∧ h = h0
theorem d2_4 : decode jdk_30_method_1_code 4 = .ok (.return_, 1) := by decide +kernel
set_option maxRecDepth 65536 in
set_option maxHeartbeats 40000000 in
theorem rm2 (l : Launch) (Z : State) (aw : Array Value) (hw : ∀ d ∈ tables_1, d.before aw Z = true) (ws : List Jvm.Cond) (a0 : Addr) (h0 : Heap) (n0 : Nat) (Z0 : n0 ≤ h0.size) :
    MetFree l (⟨"java/lang/Record", "<init>", "()V"⟩ : MethodName) (head1 (Jvm.Cond.code (⟨"java/lang/Record", "<init>", "()V"⟩ : MethodName) jdk_30_method_1_code 1 none :: ws) ({ frames := 1, cells := 0, slots := 0, locals := 12 } : Room)) (fun a U => a = #[(.ref a0)] ∧ Z.Warmed39 U.vm ∧ U.heap = h0) (fun _ _ _ _ _ => True) (fun _ U o U' => ∃ v L, o = .returned v ∧ Q2 Z a0 h0 n0 v U'.heap L ∧ FrameEnd U o U' L ({ frames := 1, cells := 0, slots := 0, locals := 12 } : Room).cells ({ frames := 1, cells := 0, slots := 0, locals := 12 } : Room).slots) := by
  refine MetFree.of_bodySF (plainFor_of_name pn_3) hisR ?_
  intro p e s m args below meth c s₁ Bd hml0 hP hK
  obtain ⟨rfl, hZ, hh⟩ := hP
  have hx := Bd.exec
  have hby := Bd.bytes
  have hml : c.maxLocals = 1 := hml0
  have hown : s.vm.findClass "java/lang/Record" = some m.cls := findClass_of_methodNamed Bd.named
  have hnm := (name_of_methodNamed Bd.named Bd.method).1
  have X0 : Stand p l e ({ frames := 1, cells := 0, slots := 0, locals := 12 } : Room) s m #[(.ref a0)] below meth c s₁ [] 0 0 := Stand.of_body Bd
  have e0 : s₁.heap = h0 := by rw [← hh, Bd.state]; rfl
  have N0 := Fr.nil n0
  have pre0 : ∀ t, Steps p.tables e below (s₁.setTop (mkF m 0 #[.val (.ref a0)] [])) t → Steps p.tables e below (s₁.setTop (entryFrame m #[(.ref a0)] 1)) t := fun t k => castTop (ef_2 m a0) k
  have pre1 : ∀ t, Steps p.tables e below (s₁.setTop (mkF m 1 #[.val (.ref a0)] [(.ref a0)])) t → Steps p.tables e below (s₁.setTop (entryFrame m #[(.ref a0)] 1)) t := fun t k => pre0 t (by
    show Steps p.tables e below (s₁.setTop (mkF m 0 #[.val (.ref a0)] [])) _
    refine XS.aloadN X0.here hx rfl (hb hby d2_0) rfl rfl ?_
    exact k)
  obtain ⟨T2, X2, e2, st2⟩ := initO X0 hx hZ hown (hw _ (List.mem_of_getElem? (i := 11) rfl)) (hw _ (List.mem_of_getElem? (i := 12) rfl)) (hw _ (List.mem_of_getElem? (i := 13) rfl)) e0 (g := (mkF m 1 #[.val (.ref a0)] [(.ref a0)])) rfl (by rw [hml]; rfl) rfl (hb hby d2_1) (by decide) (W := 0) (by show 2 * 0 + _ ≤ _; exact Nat.le_of_eq rfl) (by decide)
  obtain ⟨fs, hr, hrun, hended, hW, hsame⟩ := X2.leave (v := none) (fun _ => rfl)
  refine ⟨_, _, pre1 _ ?_, hrun, hended, _, _, rfl, ?_, ⟨_, rfl⟩, hW, hsame.mono (by decide) (by decide)⟩
  · show Steps p.tables e below (s₁.setTop (mkF m 1 #[.val (.ref a0)] [(.ref a0)])) _
    refine st2 _ ?_
    show Steps p.tables e below (T2.setTop (mkF m 4 #[.val (.ref a0)] [])) _
    exact X2.returnOut hx Bd.returns (hb hby d2_4) hr
  · show Q2 Z a0 h0 n0 _ T2.heap _
    rw [e2]
    exact ⟨rfl, N0, rfl⟩
theorem pn_0 : plainName "com/example/prune_to_fit/prunetofit/program/ProcessPair" = true := by first | (simp [plainName, overriddenIn]; done) | decide +kernel
theorem d1_0 : decode prog_30_method_1_code 0 = .ok (.aload_n 0, 1) := by decide +kernel
theorem pd_1 : parseMethodDescriptor "()V" = some ⟨[], none⟩ := by decide +kernel
theorem d1_1 : decode prog_30_method_1_code 1 = .ok (.invokespecial 1, 3) := by decide +kernel
theorem d1_4 : decode prog_30_method_1_code 4 = .ok (.aload_n 0, 1) := by decide +kernel
theorem d1_5 : decode prog_30_method_1_code 5 = .ok (.iload_n 1, 1) := by decide +kernel
theorem d1_6 : decode prog_30_method_1_code 6 = .ok (.putfield 7, 3) := by decide +kernel
theorem d1_9 : decode prog_30_method_1_code 9 = .ok (.aload_n 0, 1) := by decide +kernel
theorem d1_10 : decode prog_30_method_1_code 10 = .ok (.iload_n 2, 1) := by decide +kernel
theorem d1_11 : decode prog_30_method_1_code 11 = .ok (.putfield 13, 3) := by decide +kernel
theorem d1_14 : decode prog_30_method_1_code 14 = .ok (.aload_n 0, 1) := by decide +kernel
theorem d1_15 : decode prog_30_method_1_code 15 = .ok (.aload_n 3, 1) := by decide +kernel
theorem d1_16 : decode prog_30_method_1_code 16 = .ok (.putfield 16, 3) := by decide +kernel
theorem ef_1_null3 (m : MethodId) (x0 : Addr) (x1 : Int32) (x2 : Int32) : entryFrame m #[(.ref x0), (.int x1), (.int x2), .null] 4 = mkF m 0 #[.val (.ref x0), .val (.int x1), .val (.int x2), .val .null] [] := by first | (simp [entryFrame, mkF, argsToLocals, Value.category]; done) | rfl
def f1_null3_a0_first (p1 : Int32) (p2 : Int32) : Int32 := p1
def f1_null3_a0_second (p1 : Int32) (p2 : Int32) : Int32 := p2
def f1_null3_a0_spec (p1 : Int32) (p2 : Int32) : Value := (.null : Value)
def Q1_null3 (Z : State) (a0 : Addr) (p1 : Int32) (p2 : Int32) (u_first_a0 : Value) (u_second_a0 : Value) (u_spec_a0 : Value) (h0 : Heap) (n0 : Nat) (v : Option Value) (h : Heap) (L : List Loc) : Prop := v = none ∧ Fr n0 L ∧ Keep h0 h [a0] ∧ Exa Z h a0 "com/example/prune_to_fit/prunetofit/program/ProcessPair" ∧ Fld Z h a0 "com/example/prune_to_fit/prunetofit/program/ProcessPair" "first" "I" (.int (f1_null3_a0_first p1 p2)) ∧ Fld Z h a0 "com/example/prune_to_fit/prunetofit/program/ProcessPair" "second" "I" (.int (f1_null3_a0_second p1 p2)) ∧ Fld Z h a0 "com/example/prune_to_fit/prunetofit/program/ProcessPair" "spec" "Lcom/example/prune_to_fit/prunetofit/ctl/Formula;" (f1_null3_a0_spec p1 p2)
theorem d1_19 : decode prog_30_method_1_code 19 = .ok (.return_, 1) := by decide +kernel
set_option maxRecDepth 65536 in
set_option maxHeartbeats 40000000 in
theorem rm1_null3 (l : Launch) (Z : State) (aw : Array Value) (hw : ∀ d ∈ tables_1, d.before aw Z = true) (ws : List Jvm.Cond) (a0 : Addr) (p1 : Int32) (p2 : Int32) (u_first_a0 : Value) (u_second_a0 : Value) (u_spec_a0 : Value) (h0 : Heap) (n0 : Nat) (Z0 : n0 ≤ h0.size) (E_a0 : Exa Z h0 a0 "com/example/prune_to_fit/prunetofit/program/ProcessPair") (F_first_a0 : Fld Z h0 a0 "com/example/prune_to_fit/prunetofit/program/ProcessPair" "first" "I" u_first_a0) (g_a0 : n0 ≤ a0) (F_second_a0 : Fld Z h0 a0 "com/example/prune_to_fit/prunetofit/program/ProcessPair" "second" "I" u_second_a0) (F_spec_a0 : Fld Z h0 a0 "com/example/prune_to_fit/prunetofit/program/ProcessPair" "spec" "Lcom/example/prune_to_fit/prunetofit/ctl/Formula;" u_spec_a0) :
    MetFree l (⟨"com/example/prune_to_fit/prunetofit/program/ProcessPair", "<init>", "(IILcom/example/prune_to_fit/prunetofit/ctl/Formula;)V"⟩ : MethodName) (head1 (Jvm.Cond.code (⟨"com/example/prune_to_fit/prunetofit/program/ProcessPair", "<init>", "(IILcom/example/prune_to_fit/prunetofit/ctl/Formula;)V"⟩ : MethodName) prog_30_method_1_code 4 none :: ws) ({ frames := 2, cells := 0, slots := 0, locals := 24 } : Room)) (fun a U => a = #[(.ref a0), (.int p1), (.int p2), .null] ∧ Z.Warmed39 U.vm ∧ U.heap = h0) (fun _ _ _ _ _ => True) (fun _ U o U' => ∃ v L, o = .returned v ∧ Q1_null3 Z a0 p1 p2 u_first_a0 u_second_a0 u_spec_a0 h0 n0 v U'.heap L ∧ FrameEnd U o U' L ({ frames := 2, cells := 0, slots := 0, locals := 24 } : Room).cells ({ frames := 2, cells := 0, slots := 0, locals := 24 } : Room).slots) := by
  refine MetFree.of_bodySF (plainFor_of_name pn_0) hisR ?_
  intro p e s m args below meth c s₁ Bd hml0 hP hK
  obtain ⟨rfl, hZ, hh⟩ := hP
  have hx := Bd.exec
  have hby := Bd.bytes
  have hml : c.maxLocals = 4 := hml0
  have hown : s.vm.findClass "com/example/prune_to_fit/prunetofit/program/ProcessPair" = some m.cls := findClass_of_methodNamed Bd.named
  have hnm := (name_of_methodNamed Bd.named Bd.method).1
  have X0 : Stand p l e ({ frames := 2, cells := 0, slots := 0, locals := 24 } : Room) s m #[(.ref a0), (.int p1), (.int p2), .null] below meth c s₁ [] 0 0 := Stand.of_body Bd
  have e0 : s₁.heap = h0 := by rw [← hh, Bd.state]; rfl
  have N0 := Fr.nil n0
  have pre0 : ∀ t, Steps p.tables e below (s₁.setTop (mkF m 0 #[.val (.ref a0), .val (.int p1), .val (.int p2), .val .null] [])) t → Steps p.tables e below (s₁.setTop (entryFrame m #[(.ref a0), (.int p1), (.int p2), .null] 4)) t := fun t k => castTop (ef_1_null3 m a0 p1 p2) k
  have pre1 : ∀ t, Steps p.tables e below (s₁.setTop (mkF m 1 #[.val (.ref a0), .val (.int p1), .val (.int p2), .val .null] [(.ref a0)])) t → Steps p.tables e below (s₁.setTop (entryFrame m #[(.ref a0), (.int p1), (.int p2), .null] 4)) t := fun t k => pre0 t (by
    show Steps p.tables e below (s₁.setTop (mkF m 0 #[.val (.ref a0), .val (.int p1), .val (.int p2), .val .null] [])) _
    refine XS.aloadN X0.here hx rfl (hb hby d1_0) rfl rfl ?_
    exact k)
  obtain ⟨_, _, ⟨T2, L2, k2, n2⟩, -, X2, ⟨Lc2, hQ2, l2, y2, z2⟩, st2⟩ := X0.specialBack hx (y := (⟨"java/lang/Record", "<init>", "()V"⟩ : MethodName)) rfl hown (mvT hZ (hw _ (List.mem_of_getElem? (i := 6) rfl))) (mvT hZ (hw _ (List.mem_of_getElem? (i := 7) rfl))) (mvT hZ (hw _ (List.mem_of_getElem? (i := 10) rfl))) (by decide) (backOf (W := 0) (rm2 l Z aw hw [] a0 h0 n0 Z0) hZ (hw _ (List.mem_of_getElem? (i := 10) rfl)) (hw _ (List.mem_of_getElem? (i := 9) rfl)) (by decide) (by decide)) (g := (mkF m 1 #[.val (.ref a0), .val (.int p1), .val (.int p2), .val .null] [(.ref a0)])) rfl (by rw [hml]; rfl) (Steps.refl _) (a := a0) (argsL := []) (rest := []) (lenOf pd_1 rfl) rfl (by show 2 * 0 + _ ≤ _; exact Nat.le_of_eq rfl) (hb hby d1_1) (fun _ _ => ⟨rfl, e0, (by decide : 0 + 0 ≤ _), (by decide : 0 + 0 ≤ _)⟩)
  dsimp only [Pt.U, Pt.locs, Pt.cells, Pt.slots] at X2 l2 y2 z2 st2 hQ2
  subst l2 y2 z2
  obtain ⟨rfl, N2q, e2⟩ := hQ2
  have N2 := Fr.app N0 N2q
  have pre3 : ∀ t, Steps p.tables e below (T2.setTop (mkF m 6 #[.val (.ref a0), .val (.int p1), .val (.int p2), .val .null] [(.int p1), (.ref a0)])) t → Steps p.tables e below (s₁.setTop (entryFrame m #[(.ref a0), (.int p1), (.int p2), .null] 4)) t := fun t k => pre1 t (by
    show Steps p.tables e below (s₁.setTop (mkF m 1 #[.val (.ref a0), .val (.int p1), .val (.int p2), .val .null] [(.ref a0)])) _
    refine st2.trans ?_
    show Steps p.tables e below (T2.setTop (mkF m 4 #[.val (.ref a0), .val (.int p1), .val (.int p2), .val .null] [])) _
    refine XS.aloadN X2.here hx rfl (hb hby d1_4) rfl rfl ?_
    show Steps p.tables e below (T2.setTop (mkF m 5 #[.val (.ref a0), .val (.int p1), .val (.int p2), .val .null] [(.ref a0)])) _
    refine XS.iloadN X2.here hx rfl (hb hby d1_5) rfl ?_
    exact k)
  obtain ⟨T4, h4, X4, e4, W4, st4⟩ := putF X2 hx hZ hown (host := "") (Or.inl (hw _ (List.mem_of_getElem? (i := 14) rfl))) Via.refl e2 F_first_a0 E_a0 (Or.inr ⟨(hw _ (List.mem_of_getElem? (i := 15) rfl)), rfl, hnm⟩) (hw _ (List.mem_of_getElem? (i := 1) rfl)) (ty := .int) (by decide) rfl rfl (g := (mkF m 6 #[.val (.ref a0), .val (.int p1), .val (.int p2), .val .null] [(.int p1), (.ref a0)])) rfl rfl (hb hby d1_6)
  have E_a0_4 := E_a0.wr W4
  have F_first_a0_4 := F_first_a0.same W4
  have F_second_a0_4 := F_second_a0.other W4 (Or.inr (slot_ne (Or.inr (hw _ (List.mem_of_getElem? (i := 17) rfl))) (Or.inr (hw _ (List.mem_of_getElem? (i := 15) rfl))) (by decide) (t := .int) (t' := .int) (by decide) (by decide)))
  have F_spec_a0_4 := F_spec_a0.other W4 (Or.inr (slot_ne (Or.inr (hw _ (List.mem_of_getElem? (i := 19) rfl))) (Or.inr (hw _ (List.mem_of_getElem? (i := 15) rfl))) (by decide) (t := (.object "com/example/prune_to_fit/prunetofit/ctl/Formula")) (t' := .int) (by decide) (by decide)))
  have K4 : Keep h0 h4 [a0] := (Keep.refl h0 [a0]).wr W4 (Or.inl (by simp))
  have N4 := Fr.snoc X4 N2 g_a0
  have Z4 : n0 ≤ h4.size := (Nat.le_trans Z0 (Nat.le_of_eq W4.size.symm))
  have pre5 : ∀ t, Steps p.tables e below (T4.setTop (mkF m 11 #[.val (.ref a0), .val (.int p1), .val (.int p2), .val .null] [(.int p2), (.ref a0)])) t → Steps p.tables e below (s₁.setTop (entryFrame m #[(.ref a0), (.int p1), (.int p2), .null] 4)) t := fun t k => pre3 t (by
    show Steps p.tables e below (T2.setTop (mkF m 6 #[.val (.ref a0), .val (.int p1), .val (.int p2), .val .null] [(.int p1), (.ref a0)])) _
    refine st4 _ ?_
    show Steps p.tables e below (T4.setTop (mkF m 9 #[.val (.ref a0), .val (.int p1), .val (.int p2), .val .null] [])) _
    refine XS.aloadN X4.here hx rfl (hb hby d1_9) rfl rfl ?_
    show Steps p.tables e below (T4.setTop (mkF m 10 #[.val (.ref a0), .val (.int p1), .val (.int p2), .val .null] [(.ref a0)])) _
    refine XS.iloadN X4.here hx rfl (hb hby d1_10) rfl ?_
    exact k)
  obtain ⟨T6, h6, X6, e6, W6, st6⟩ := putF X4 hx hZ hown (host := "") (Or.inl (hw _ (List.mem_of_getElem? (i := 16) rfl))) Via.refl e4 F_second_a0_4 E_a0_4 (Or.inr ⟨(hw _ (List.mem_of_getElem? (i := 17) rfl)), rfl, hnm⟩) (hw _ (List.mem_of_getElem? (i := 1) rfl)) (ty := .int) (by decide) rfl rfl (g := (mkF m 11 #[.val (.ref a0), .val (.int p1), .val (.int p2), .val .null] [(.int p2), (.ref a0)])) rfl rfl (hb hby d1_11)
  have E_a0_6 := E_a0_4.wr W6
  have F_first_a0_6 := F_first_a0_4.other W6 (Or.inr (slot_ne (Or.inr (hw _ (List.mem_of_getElem? (i := 15) rfl))) (Or.inr (hw _ (List.mem_of_getElem? (i := 17) rfl))) (by decide) (t := .int) (t' := .int) (by decide) (by decide)))
  have F_second_a0_6 := F_second_a0_4.same W6
  have F_spec_a0_6 := F_spec_a0_4.other W6 (Or.inr (slot_ne (Or.inr (hw _ (List.mem_of_getElem? (i := 19) rfl))) (Or.inr (hw _ (List.mem_of_getElem? (i := 17) rfl))) (by decide) (t := (.object "com/example/prune_to_fit/prunetofit/ctl/Formula")) (t' := .int) (by decide) (by decide)))
  have K6 : Keep h0 h6 [a0] := K4.wr W6 (Or.inl (by simp))
  have N6 := Fr.snoc X6 N4 g_a0
  have Z6 : n0 ≤ h6.size := (Nat.le_trans Z4 (Nat.le_of_eq W6.size.symm))
  have pre7 : ∀ t, Steps p.tables e below (T6.setTop (mkF m 16 #[.val (.ref a0), .val (.int p1), .val (.int p2), .val .null] [.null, (.ref a0)])) t → Steps p.tables e below (s₁.setTop (entryFrame m #[(.ref a0), (.int p1), (.int p2), .null] 4)) t := fun t k => pre5 t (by
    show Steps p.tables e below (T4.setTop (mkF m 11 #[.val (.ref a0), .val (.int p1), .val (.int p2), .val .null] [(.int p2), (.ref a0)])) _
    refine st6 _ ?_
    show Steps p.tables e below (T6.setTop (mkF m 14 #[.val (.ref a0), .val (.int p1), .val (.int p2), .val .null] [])) _
    refine XS.aloadN X6.here hx rfl (hb hby d1_14) rfl rfl ?_
    show Steps p.tables e below (T6.setTop (mkF m 15 #[.val (.ref a0), .val (.int p1), .val (.int p2), .val .null] [(.ref a0)])) _
    refine XS.aloadN X6.here hx rfl (hb hby d1_15) rfl rfl ?_
    exact k)
  obtain ⟨T8, h8, X8, e8, W8, st8⟩ := putF X6 hx hZ hown (host := "") (Or.inl (hw _ (List.mem_of_getElem? (i := 18) rfl))) Via.refl e6 F_spec_a0_6 E_a0_6 (Or.inr ⟨(hw _ (List.mem_of_getElem? (i := 19) rfl)), rfl, hnm⟩) (hw _ (List.mem_of_getElem? (i := 1) rfl)) (ty := (.object "com/example/prune_to_fit/prunetofit/ctl/Formula")) (by decide) rfl rfl (g := (mkF m 16 #[.val (.ref a0), .val (.int p1), .val (.int p2), .val .null] [.null, (.ref a0)])) rfl rfl (hb hby d1_16)
  have E_a0_8 := E_a0_6.wr W8
  have F_first_a0_8 := F_first_a0_6.other W8 (Or.inr (slot_ne (Or.inr (hw _ (List.mem_of_getElem? (i := 15) rfl))) (Or.inr (hw _ (List.mem_of_getElem? (i := 19) rfl))) (by decide) (t := .int) (t' := (.object "com/example/prune_to_fit/prunetofit/ctl/Formula")) (by decide) (by decide)))
  have F_second_a0_8 := F_second_a0_6.other W8 (Or.inr (slot_ne (Or.inr (hw _ (List.mem_of_getElem? (i := 17) rfl))) (Or.inr (hw _ (List.mem_of_getElem? (i := 19) rfl))) (by decide) (t := .int) (t' := (.object "com/example/prune_to_fit/prunetofit/ctl/Formula")) (by decide) (by decide)))
  have F_spec_a0_8 := F_spec_a0_6.same W8
  have K8 : Keep h0 h8 [a0] := K6.wr W8 (Or.inl (by simp))
  have N8 := Fr.snoc X8 N6 g_a0
  have Z8 : n0 ≤ h8.size := (Nat.le_trans Z6 (Nat.le_of_eq W8.size.symm))
  obtain ⟨fs, hr, hrun, hended, hW, hsame⟩ := X8.leave (v := none) (fun _ => rfl)
  refine ⟨_, _, pre7 _ ?_, hrun, hended, _, _, rfl, ?_, ⟨_, rfl⟩, hW, hsame.mono (by decide) (by decide)⟩
  · show Steps p.tables e below (T6.setTop (mkF m 16 #[.val (.ref a0), .val (.int p1), .val (.int p2), .val .null] [.null, (.ref a0)])) _
    refine st8 _ ?_
    show Steps p.tables e below (T8.setTop (mkF m 19 #[.val (.ref a0), .val (.int p1), .val (.int p2), .val .null] [])) _
    exact X8.returnOut hx Bd.returns (hb hby d1_19) hr
  · show Q1_null3 Z a0 p1 p2 u_first_a0 u_second_a0 u_spec_a0 h0 n0 _ T8.heap _
    rw [e8]
    have hF_a0_first : p1 = f1_null3_a0_first p1 p2 := (by rfl)
    have hF_a0_second : p2 = f1_null3_a0_second p1 p2 := (by rfl)
    have hF_a0_spec : (.null : Value) = f1_null3_a0_spec p1 p2 := (by rfl)
    exact ⟨rfl, N8, K8, E_a0_8, (hF_a0_first ▸ F_first_a0_8), (hF_a0_second ▸ F_second_a0_8), (hF_a0_spec ▸ F_spec_a0_8)⟩
theorem d4_0 : decode prog_30_method_2_code 0 = .ok (.iload_n 1, 1) := by decide +kernel
theorem d4_1 : decode prog_30_method_2_code 1 = .ok (.aload_n 0, 1) := by decide +kernel
theorem d4_2 : decode prog_30_method_2_code 2 = .ok (.getfield 7, 3) := by decide +kernel
theorem d4_5 : decode prog_30_method_2_code 5 = .ok (.if_icmp .eq 11, 3) := by decide +kernel
theorem d4_16 : decode prog_30_method_2_code 16 = .ok (.iconst 1, 1) := by decide +kernel
theorem d4_17 : decode prog_30_method_2_code 17 = .ok (.goto 4, 3) := by decide +kernel
theorem d4_8 : decode prog_30_method_2_code 8 = .ok (.iload_n 1, 1) := by decide +kernel
theorem d4_9 : decode prog_30_method_2_code 9 = .ok (.aload_n 0, 1) := by decide +kernel
theorem d4_10 : decode prog_30_method_2_code 10 = .ok (.getfield 13, 3) := by decide +kernel
theorem d4_13 : decode prog_30_method_2_code 13 = .ok (.if_icmp .ne 7, 3) := by decide +kernel
theorem d4_20 : decode prog_30_method_2_code 20 = .ok (.iconst 0, 1) := by decide +kernel
theorem ef_4 (m : MethodId) (x0 : Addr) (x1 : Int32) : entryFrame m #[(.ref x0), (.int x1)] 2 = mkF m 0 #[.val (.ref x0), .val (.int x1)] [] := by first | (simp [entryFrame, mkF, argsToLocals, Value.category]; done) | rfl
def f4 (p1 : Int32) (w_first_a0 : Int32) (w_second_a0 : Int32) : Int32 := (let j9 : Int32 := (if p1 = w_first_a0 then (1 : Int32) else (if p1 = w_second_a0 then (1 : Int32) else (0 : Int32))); (nar .boolean j9))
def Q4 (Z : State) (a0 : Addr) (p1 : Int32) (w_first_a0 : Int32) (w_second_a0 : Int32) (h0 : Heap) (n0 : Nat) (v : Option Value) (h : Heap) (L : List Loc) : Prop := v = some (.int (f4 p1 w_first_a0 w_second_a0)) ∧ Fr n0 L ∧ h = h0
theorem d4_21 : decode prog_30_method_2_code 21 = .ok (.ireturn, 1) := by decide +kernel
set_option maxRecDepth 65536 in
set_option maxHeartbeats 40000000 in
theorem rm4 (l : Launch) (Z : State) (aw : Array Value) (hw : ∀ d ∈ tables_1, d.before aw Z = true) (ws : List Jvm.Cond) (a0 : Addr) (p1 : Int32) (w_first_a0 : Int32) (w_second_a0 : Int32) (h0 : Heap) (n0 : Nat) (Z0 : n0 ≤ h0.size) (F_first_a0 : Fld Z h0 a0 "com/example/prune_to_fit/prunetofit/program/ProcessPair" "first" "I" (.int w_first_a0)) (F_second_a0 : Fld Z h0 a0 "com/example/prune_to_fit/prunetofit/program/ProcessPair" "second" "I" (.int w_second_a0)) :
    MetFree l (⟨"com/example/prune_to_fit/prunetofit/program/ProcessPair", "has", "(I)Z"⟩ : MethodName) (head1 (Jvm.Cond.code (⟨"com/example/prune_to_fit/prunetofit/program/ProcessPair", "has", "(I)Z"⟩ : MethodName) prog_30_method_2_code 2 (some .boolean) :: ws) ({ frames := 0, cells := 0, slots := 0, locals := 0 } : Room)) (fun a U => a = #[(.ref a0), (.int p1)] ∧ Z.Warmed39 U.vm ∧ U.heap = h0) (fun _ _ _ _ _ => True) (fun _ U o U' => ∃ v L, o = .returned v ∧ Q4 Z a0 p1 w_first_a0 w_second_a0 h0 n0 v U'.heap L ∧ FrameEnd U o U' L ({ frames := 0, cells := 0, slots := 0, locals := 0 } : Room).cells ({ frames := 0, cells := 0, slots := 0, locals := 0 } : Room).slots) := by
  refine MetFree.of_bodySF (plainFor_of_name pn_0) hisR ?_
  intro p e s m args below meth c s₁ Bd hml0 hP hK
  obtain ⟨rfl, hZ, hh⟩ := hP
  have hx := Bd.exec
  have hby := Bd.bytes
  have hml : c.maxLocals = 2 := hml0
  have hown : s.vm.findClass "com/example/prune_to_fit/prunetofit/program/ProcessPair" = some m.cls := findClass_of_methodNamed Bd.named
  have hnm := (name_of_methodNamed Bd.named Bd.method).1
  have X0 : Stand p l e ({ frames := 0, cells := 0, slots := 0, locals := 0 } : Room) s m #[(.ref a0), (.int p1)] below meth c s₁ [] 0 0 := Stand.of_body Bd
  have e0 : s₁.heap = h0 := by rw [← hh, Bd.state]; rfl
  have N0 := Fr.nil n0
  have pre0 : ∀ t, Steps p.tables e below (s₁.setTop (mkF m 0 #[.val (.ref a0), .val (.int p1)] [])) t → Steps p.tables e below (s₁.setTop (entryFrame m #[(.ref a0), (.int p1)] 2)) t := fun t k => castTop (ef_4 m a0 p1) k
  have pre1 : ∀ t, Steps p.tables e below (s₁.setTop (mkF m 2 #[.val (.ref a0), .val (.int p1)] [(.ref a0), (.int p1)])) t → Steps p.tables e below (s₁.setTop (entryFrame m #[(.ref a0), (.int p1)] 2)) t := fun t k => pre0 t (by
    show Steps p.tables e below (s₁.setTop (mkF m 0 #[.val (.ref a0), .val (.int p1)] [])) _
    refine XS.iloadN X0.here hx rfl (hb hby d4_0) rfl ?_
    show Steps p.tables e below (s₁.setTop (mkF m 1 #[.val (.ref a0), .val (.int p1)] [(.int p1)])) _
    refine XS.aloadN X0.here hx rfl (hb hby d4_1) rfl rfl ?_
    exact k)
  obtain ⟨T2, X2, e2, st2⟩ := getF X0 hx hZ hown (host := "") (Or.inl (hw _ (List.mem_of_getElem? (i := 14) rfl))) Via.refl e0 F_first_a0 (g := (mkF m 2 #[.val (.ref a0), .val (.int p1)] [(.ref a0), (.int p1)])) rfl rfl (hb hby d4_2)
  have pre3 : ∀ t, Steps p.tables e below (T2.setTop (mkF m 5 #[.val (.ref a0), .val (.int p1)] [(.int w_first_a0), (.int p1)])) t → Steps p.tables e below (s₁.setTop (entryFrame m #[(.ref a0), (.int p1)] 2)) t := fun t k => pre1 t (by
    show Steps p.tables e below (s₁.setTop (mkF m 2 #[.val (.ref a0), .val (.int p1)] [(.ref a0), (.int p1)])) _
    refine st2 _ ?_
    exact k)
  obtain ⟨T11, LjT11, j9, X11, N11, e11, hj9, pre10⟩ : ∃ (T11 : State) (LjT11 : List Loc) (j9 : Int32), Stand p l e ({ frames := 0, cells := 0, slots := 0, locals := 0 } : Room) s m #[(.ref a0), (.int p1)] below meth c T11 LjT11 0 0 ∧ Fr n0 LjT11 ∧ T11.heap = h0 ∧ j9 = (if p1 = w_first_a0 then (1 : Int32) else (if p1 = w_second_a0 then (1 : Int32) else (0 : Int32))) ∧ ∀ t, Steps p.tables e below (T11.setTop (mkF m 21 #[.val (.ref a0), .val (.int p1)] [(.int j9)])) t → Steps p.tables e below (s₁.setTop (entryFrame m #[(.ref a0), (.int p1)] 2)) t := by
    by_cases hc4 : p1 = w_first_a0
    · exact ⟨_, _, (1 : Int32), X2, N0, e2, (by rw [if_pos hc4]), fun t k => pre3 t (by
        show Steps p.tables e below (T2.setTop (mkF m 5 #[.val (.ref a0), .val (.int p1)] [(.int w_first_a0), (.int p1)])) _
        refine XS.icmpYes X2.here hx rfl (pc0 := 5) (pc' := 16) rfl (hb hby d4_5) rfl (teq hc4).1 (by decide) (by decide) ?_
        show Steps p.tables e below (T2.setTop (mkF m 16 #[.val (.ref a0), .val (.int p1)] [])) _
        refine XS.iconst X2.here hx rfl (hb hby d4_16) ?_
        show Steps p.tables e below (T2.setTop (mkF m 17 #[.val (.ref a0), .val (.int p1)] [(.int (1 : Int32))])) _
        refine XS.goto X2.here hx rfl (pc0 := 17) (pc' := 21) rfl (hb hby d4_17) (by decide) (by decide) ?_
        exact k)⟩
    · have pre5 : ∀ t, Steps p.tables e below (T2.setTop (mkF m 10 #[.val (.ref a0), .val (.int p1)] [(.ref a0), (.int p1)])) t → Steps p.tables e below (s₁.setTop (entryFrame m #[(.ref a0), (.int p1)] 2)) t := fun t k => pre3 t (by
        show Steps p.tables e below (T2.setTop (mkF m 5 #[.val (.ref a0), .val (.int p1)] [(.int w_first_a0), (.int p1)])) _
        refine XS.icmpNo X2.here hx rfl (hb hby d4_5) rfl (feq hc4).1 ?_
        show Steps p.tables e below (T2.setTop (mkF m 8 #[.val (.ref a0), .val (.int p1)] [])) _
        refine XS.iloadN X2.here hx rfl (hb hby d4_8) rfl ?_
        show Steps p.tables e below (T2.setTop (mkF m 9 #[.val (.ref a0), .val (.int p1)] [(.int p1)])) _
        refine XS.aloadN X2.here hx rfl (hb hby d4_9) rfl rfl ?_
        exact k)
      obtain ⟨T6, X6, e6, st6⟩ := getF X2 hx hZ hown (host := "") (Or.inl (hw _ (List.mem_of_getElem? (i := 16) rfl))) Via.refl e2 F_second_a0 (g := (mkF m 10 #[.val (.ref a0), .val (.int p1)] [(.ref a0), (.int p1)])) rfl rfl (hb hby d4_10)
      have pre7 : ∀ t, Steps p.tables e below (T6.setTop (mkF m 13 #[.val (.ref a0), .val (.int p1)] [(.int w_second_a0), (.int p1)])) t → Steps p.tables e below (s₁.setTop (entryFrame m #[(.ref a0), (.int p1)] 2)) t := fun t k => pre5 t (by
        show Steps p.tables e below (T2.setTop (mkF m 10 #[.val (.ref a0), .val (.int p1)] [(.ref a0), (.int p1)])) _
        refine st6 _ ?_
        exact k)
      by_cases hc8 : p1 = w_second_a0
      · exact ⟨_, _, (1 : Int32), X6, N0, e6, (by rw [if_neg hc4, if_pos hc8]), fun t k => pre7 t (by
          show Steps p.tables e below (T6.setTop (mkF m 13 #[.val (.ref a0), .val (.int p1)] [(.int w_second_a0), (.int p1)])) _
          refine XS.icmpNo X6.here hx rfl (hb hby d4_13) rfl (teq hc8).2 ?_
          show Steps p.tables e below (T6.setTop (mkF m 16 #[.val (.ref a0), .val (.int p1)] [])) _
          refine XS.iconst X6.here hx rfl (hb hby d4_16) ?_
          show Steps p.tables e below (T6.setTop (mkF m 17 #[.val (.ref a0), .val (.int p1)] [(.int (1 : Int32))])) _
          refine XS.goto X6.here hx rfl (pc0 := 17) (pc' := 21) rfl (hb hby d4_17) (by decide) (by decide) ?_
          exact k)⟩
      · exact ⟨_, _, (0 : Int32), X6, N0, e6, (by rw [if_neg hc4, if_neg hc8]), fun t k => pre7 t (by
          show Steps p.tables e below (T6.setTop (mkF m 13 #[.val (.ref a0), .val (.int p1)] [(.int w_second_a0), (.int p1)])) _
          refine XS.icmpYes X6.here hx rfl (pc0 := 13) (pc' := 20) rfl (hb hby d4_13) rfl (feq hc8).2 (by decide) (by decide) ?_
          show Steps p.tables e below (T6.setTop (mkF m 20 #[.val (.ref a0), .val (.int p1)] [])) _
          refine XS.iconst X6.here hx rfl (hb hby d4_20) ?_
          exact k)⟩
  obtain ⟨fs, hr, hrun, hended, hW, hsame⟩ := X11.leave (v := some (.int (nar .boolean j9))) (fun h => by rw [Bd.returns] at h; cases h)
  refine ⟨_, _, pre10 _ ?_, hrun, hended, _, _, rfl, ?_, ⟨_, rfl⟩, hW, hsame.mono (by decide) (by decide)⟩
  · show Steps p.tables e below (T11.setTop (mkF m 21 #[.val (.ref a0), .val (.int p1)] [(.int j9)])) _
    exact retN X11 hx (t := .boolean) Bd.returns (by simp) (hb hby d4_21) hr
  · show Q4 Z a0 p1 w_first_a0 w_second_a0 h0 n0 _ T11.heap _
    rw [e11]
    exact ⟨congrArg (fun z => some (Value.int z)) (by subst hj9; rfl), N11, rfl⟩
theorem pn_1 : plainName "com/example/prune_to_fit/prunetofit/program/ProcessPairHasPinLaw" = true := by first | (simp [plainName, overriddenIn]; done) | decide +kernel
theorem pd_0 : parseMethodDescriptor "(IILcom/example/prune_to_fit/prunetofit/ctl/Formula;)V" = some ⟨[.int, .int, (.object "com/example/prune_to_fit/prunetofit/ctl/Formula")], none⟩ := by decide +kernel
theorem pd_2 : parseMethodDescriptor "(I)Z" = some ⟨[.int], some .boolean⟩ := by decide +kernel
theorem ef_0 (m : MethodId) (x0 : Int32) (x1 : Int32) (x2 : Int32) (x3 : Int32) : entryFrame m #[(.int x0), (.int x1), (.int x2), (.int x3)] maxLocals = mkF m 0 #[.val (.int x0), .val (.int x1), .val (.int x2), .val (.int x3), .unset, .unset, .unset, .unset] [] := by first | (simp [entryFrame, mkF, argsToLocals, Value.category, maxLocals]; done) | rfl
def f0 (p0 : Int32) (p1 : Int32) (p2 : Int32) (p3 : Int32) : Int32 := (let v5 : Int32 := (p3 &&& (3 : Int32)); (if v5 = (0 : Int32) then (nar .boolean (f4 p0 p0 p1)) else (if v5 = (1 : Int32) then (nar .boolean (f4 p1 p0 p1)) else (let v16 : Int32 := (p0 + p2); (let j22 : Int32 := (if p2 = (0 : Int32) then (1 : Int32) else (if p2 = (p1 - p0) then (1 : Int32) else (0 : Int32))); (let j28 : Int32 := (if (f4 v16 p0 p1) = j22 then (1 : Int32) else (0 : Int32)); (nar .boolean j28)))))))
def Q0 (Z : State) (p0 : Int32) (p1 : Int32) (p2 : Int32) (p3 : Int32) (h0 : Heap) (n0 : Nat) (v : Option Value) (h : Heap) (L : List Loc) : Prop := v = some (.int (1 : Int32)) ∧ Fr n0 L
set_option maxRecDepth 65536 in
set_option maxHeartbeats 40000000 in
theorem rm0 (l : Launch) (Z : State) (aw : Array Value) (hw : ∀ d ∈ tables_1, d.before aw Z = true) (ws : List Jvm.Cond) (p0 : Int32) (p1 : Int32) (p2 : Int32) (p3 : Int32) (h0 : Heap) (n0 : Nat) (Z0 : n0 ≤ h0.size) (hlaw : f0 p0 p1 p2 p3 = 1) :
    MetFree l x (head1 (Jvm.Cond.code x code maxLocals ret :: ws) room_1) (fun a U => a = #[(.int p0), (.int p1), (.int p2), (.int p3)] ∧ Z.Warmed39 U.vm ∧ U.heap = h0) (fun _ _ _ _ _ => True) (fun _ U o U' => ∃ v L, o = .returned v ∧ Q0 Z p0 p1 p2 p3 h0 n0 v U'.heap L ∧ FrameEnd U o U' L room_1.cells room_1.slots) := by
  refine MetFree.of_bodySF (plainFor_of_name pn_1) hisR ?_
  intro p e s m args below meth c s₁ Bd hml0 hP hK
  obtain ⟨rfl, hZ, hh⟩ := hP
  have hx := Bd.exec
  have hby := Bd.bytes
  have hml : c.maxLocals = 8 := hml0
  have hown : s.vm.findClass "com/example/prune_to_fit/prunetofit/program/ProcessPairHasPinLaw" = some m.cls := findClass_of_methodNamed Bd.named
  have hnm := (name_of_methodNamed Bd.named Bd.method).1
  have X0 : Stand p l e room_1 s m #[(.int p0), (.int p1), (.int p2), (.int p3)] below meth c s₁ [] 0 0 := Stand.of_body Bd
  have e0 : s₁.heap = h0 := by rw [← hh, Bd.state]; rfl
  have N0 := Fr.nil n0
  have pre0 : ∀ t, Steps p.tables e below (s₁.setTop (mkF m 0 #[.val (.int p0), .val (.int p1), .val (.int p2), .val (.int p3), .unset, .unset, .unset, .unset] [])) t → Steps p.tables e below (s₁.setTop (entryFrame m #[(.int p0), (.int p1), (.int p2), (.int p3)] maxLocals)) t := fun t k => castTop (ef_0 m p0 p1 p2 p3) k
  obtain ⟨T1, h1, X1, e1, E1, A1, D1, -, st1⟩ := newO X0 hx hZ hown (hw _ (List.mem_of_getElem? (i := 0) rfl)) (hw _ (List.mem_of_getElem? (i := 1) rfl)) (hw _ (List.mem_of_getElem? (i := 2) rfl)) e0 (g := (mkF m 0 #[.val (.int p0), .val (.int p1), .val (.int p2), .val (.int p3), .unset, .unset, .unset, .unset] [])) rfl (hb hby at_0) (by decide) (by decide)
  obtain ⟨b1, g1⟩ : ∃ z, z = h0.size := ⟨_, rfl⟩
  have g_b1 : n0 ≤ b1 := Nat.le_trans Z0 (Nat.le_of_eq g1.symm)
  have sz_b1 : h0.size ≤ b1 := Nat.le_trans (Keep.refl h0 []).1 (Nat.le_of_eq g1.symm)
  rw [← g1] at A1 D1 st1
  have K1 : Keep h0 h1 [] := (Keep.refl h0 []).ext E1
  have Z1 : n0 ≤ h1.size := Nat.le_trans Z0 E1.1
  have F_first_b1 : Fld Z h1 b1 "com/example/prune_to_fit/prunetofit/program/ProcessPair" "first" "I" (.int (0 : Int32)) := D1 (Or.inr (hw _ (List.mem_of_getElem? (i := 15) rfl))) (ty := .int) (by decide)
  have F_second_b1 : Fld Z h1 b1 "com/example/prune_to_fit/prunetofit/program/ProcessPair" "second" "I" (.int (0 : Int32)) := D1 (Or.inr (hw _ (List.mem_of_getElem? (i := 17) rfl))) (ty := .int) (by decide)
  have F_spec_b1 : Fld Z h1 b1 "com/example/prune_to_fit/prunetofit/program/ProcessPair" "spec" "Lcom/example/prune_to_fit/prunetofit/ctl/Formula;" .null := D1 (Or.inr (hw _ (List.mem_of_getElem? (i := 19) rfl))) (ty := (.object "com/example/prune_to_fit/prunetofit/ctl/Formula")) (by decide)
  have pre2 : ∀ t, Steps p.tables e below (T1.setTop (mkF m 7 #[.val (.int p0), .val (.int p1), .val (.int p2), .val (.int p3), .unset, .unset, .unset, .unset] [.null, (.int p1), (.int p0), (.ref b1), (.ref b1)])) t → Steps p.tables e below (s₁.setTop (entryFrame m #[(.int p0), (.int p1), (.int p2), (.int p3)] maxLocals)) t := fun t k => pre0 t (by
    show Steps p.tables e below (s₁.setTop (mkF m 0 #[.val (.int p0), .val (.int p1), .val (.int p2), .val (.int p3), .unset, .unset, .unset, .unset] [])) _
    refine st1 _ ?_
    show Steps p.tables e below (T1.setTop (mkF m 3 #[.val (.int p0), .val (.int p1), .val (.int p2), .val (.int p3), .unset, .unset, .unset, .unset] [(.ref b1)])) _
    refine XS.dup X1.here hx rfl (hb hby at_3) rfl rfl ?_
    show Steps p.tables e below (T1.setTop (mkF m 4 #[.val (.int p0), .val (.int p1), .val (.int p2), .val (.int p3), .unset, .unset, .unset, .unset] [(.ref b1), (.ref b1)])) _
    refine XS.iloadN X1.here hx rfl (hb hby at_4) rfl ?_
    show Steps p.tables e below (T1.setTop (mkF m 5 #[.val (.int p0), .val (.int p1), .val (.int p2), .val (.int p3), .unset, .unset, .unset, .unset] [(.int p0), (.ref b1), (.ref b1)])) _
    refine XS.iloadN X1.here hx rfl (hb hby at_5) rfl ?_
    show Steps p.tables e below (T1.setTop (mkF m 6 #[.val (.int p0), .val (.int p1), .val (.int p2), .val (.int p3), .unset, .unset, .unset, .unset] [(.int p1), (.int p0), (.ref b1), (.ref b1)])) _
    refine XS.aconstNull X1.here hx rfl (hb hby at_6) ?_
    exact k)
  obtain ⟨_, _, ⟨T3, L3, k3, n3⟩, -, X3, ⟨Lc3, hQ3, l3, y3, z3⟩, st3⟩ := X1.specialBack hx (y := (⟨"com/example/prune_to_fit/prunetofit/program/ProcessPair", "<init>", "(IILcom/example/prune_to_fit/prunetofit/ctl/Formula;)V"⟩ : MethodName)) rfl hown (mvT hZ (hw _ (List.mem_of_getElem? (i := 3) rfl))) (mvT hZ (hw _ (List.mem_of_getElem? (i := 4) rfl))) (mvT hZ (hw _ (List.mem_of_getElem? (i := 5) rfl))) (by decide) (backOf (W := 1) (rm1_null3 l Z aw hw [] b1 p0 p1 (.int (0 : Int32)) (.int (0 : Int32)) .null h1 n0 Z1 A1 F_first_b1 g_b1 F_second_b1 F_spec_b1) hZ (hw _ (List.mem_of_getElem? (i := 5) rfl)) (hw _ (List.mem_of_getElem? (i := 2) rfl)) (by decide) (by decide)) (g := (mkF m 7 #[.val (.int p0), .val (.int p1), .val (.int p2), .val (.int p3), .unset, .unset, .unset, .unset] [.null, (.int p1), (.int p0), (.ref b1), (.ref b1)])) rfl (by rw [hml]; rfl) (Steps.refl _) (a := b1) (argsL := [(.int p0), (.int p1), .null]) (rest := [(.ref b1)]) (lenOf pd_0 rfl) rfl (by show 2 * 0 + _ ≤ _; exact Nat.le_of_eq rfl) (hb hby at_7) (fun _ _ => ⟨rfl, e1, (by decide : 1 + 0 ≤ _), (by decide : 3 + 0 ≤ _)⟩)
  dsimp only [Pt.U, Pt.locs, Pt.cells, Pt.slots] at X3 l3 y3 z3 st3 hQ3
  subst l3 y3 z3
  obtain ⟨rfl, N3q, K3q, E3_a0, F3_a0_first, F3_a0_second, F3_a0_spec⟩ := hQ3
  have N3 := Fr.app N0 N3q
  have A1_3 := A1.keep K3q
  have F3_a0_first' : Fld Z T3.heap b1 "com/example/prune_to_fit/prunetofit/program/ProcessPair" "first" "I" (.int p0) := F3_a0_first
  have F3_a0_second' : Fld Z T3.heap b1 "com/example/prune_to_fit/prunetofit/program/ProcessPair" "second" "I" (.int p1) := F3_a0_second
  have F3_a0_spec' : Fld Z T3.heap b1 "com/example/prune_to_fit/prunetofit/program/ProcessPair" "spec" "Lcom/example/prune_to_fit/prunetofit/ctl/Formula;" .null := F3_a0_spec
  have K3 : Keep h0 T3.heap [] := K1.trans K3q (allS (Or.inr sz_b1) all0)
  have Z3 : n0 ≤ T3.heap.size := Nat.le_trans Z1 K3q.1
  have pre4 : ∀ t, Steps p.tables e below (T3.setTop (mkF m 15 #[.val (.int p0), .val (.int p1), .val (.int p2), .val (.int p3), .val (.ref b1), .unset, .unset, .unset] [(.int (p3 &&& (3 : Int32)))])) t → Steps p.tables e below (s₁.setTop (entryFrame m #[(.int p0), (.int p1), (.int p2), (.int p3)] maxLocals)) t := fun t k => pre2 t (by
    show Steps p.tables e below (T1.setTop (mkF m 7 #[.val (.int p0), .val (.int p1), .val (.int p2), .val (.int p3), .unset, .unset, .unset, .unset] [.null, (.int p1), (.int p0), (.ref b1), (.ref b1)])) _
    refine st3.trans ?_
    show Steps p.tables e below (T3.setTop (mkF m 10 #[.val (.int p0), .val (.int p1), .val (.int p2), .val (.int p3), .unset, .unset, .unset, .unset] [(.ref b1)])) _
    refine XS.astore X3.here hx rfl (hb hby at_10) rfl rfl (l' := #[.val (.int p0), .val (.int p1), .val (.int p2), .val (.int p3), .val (.ref b1), .unset, .unset, .unset]) rfl ?_
    show Steps p.tables e below (T3.setTop (mkF m 12 #[.val (.int p0), .val (.int p1), .val (.int p2), .val (.int p3), .val (.ref b1), .unset, .unset, .unset] [])) _
    refine XS.iloadN X3.here hx rfl (hb hby at_12) rfl ?_
    show Steps p.tables e below (T3.setTop (mkF m 13 #[.val (.int p0), .val (.int p1), .val (.int p2), .val (.int p3), .val (.ref b1), .unset, .unset, .unset] [(.int p3)])) _
    refine XS.iconst X3.here hx rfl (hb hby at_13) ?_
    show Steps p.tables e below (T3.setTop (mkF m 14 #[.val (.int p0), .val (.int p1), .val (.int p2), .val (.int p3), .val (.ref b1), .unset, .unset, .unset] [(.int (3 : Int32)), (.int p3)])) _
    refine XS.iand X3.here hx rfl (hb hby at_14) rfl ?_
    exact k)
  obtain ⟨v5, hv5⟩ : ∃ z : Int32, z = (p3 &&& (3 : Int32)) := ⟨_, rfl⟩
  have pre6 : ∀ t, Steps p.tables e below (T3.setTop (mkF m 15 #[.val (.int p0), .val (.int p1), .val (.int p2), .val (.int p3), .val (.ref b1), .unset, .unset, .unset] [(.int v5)])) t → Steps p.tables e below (s₁.setTop (entryFrame m #[(.int p0), (.int p1), (.int p2), (.int p3)] maxLocals)) t := fun t k => pre4 t (by rw [hv5] at k; exact k)
  have pre7 : ∀ t, Steps p.tables e below (T3.setTop (mkF m 19 #[.val (.int p0), .val (.int p1), .val (.int p2), .val (.int p3), .val (.ref b1), .val (.int v5), .unset, .unset] [(.int v5)])) t → Steps p.tables e below (s₁.setTop (entryFrame m #[(.int p0), (.int p1), (.int p2), (.int p3)] maxLocals)) t := fun t k => pre6 t (by
    show Steps p.tables e below (T3.setTop (mkF m 15 #[.val (.int p0), .val (.int p1), .val (.int p2), .val (.int p3), .val (.ref b1), .unset, .unset, .unset] [(.int v5)])) _
    refine XS.istore X3.here hx rfl (hb hby at_15) rfl (l' := #[.val (.int p0), .val (.int p1), .val (.int p2), .val (.int p3), .val (.ref b1), .val (.int v5), .unset, .unset]) rfl ?_
    show Steps p.tables e below (T3.setTop (mkF m 17 #[.val (.int p0), .val (.int p1), .val (.int p2), .val (.int p3), .val (.ref b1), .val (.int v5), .unset, .unset] [])) _
    refine XS.iload X3.here hx rfl (hb hby at_17) rfl ?_
    exact k)
  by_cases hc8 : v5 = (0 : Int32)
  · have pre9 : ∀ t, Steps p.tables e below (T3.setTop (mkF m 25 #[.val (.int p0), .val (.int p1), .val (.int p2), .val (.int p3), .val (.ref b1), .val (.int v5), .unset, .unset] [(.int p0), (.ref b1)])) t → Steps p.tables e below (s₁.setTop (entryFrame m #[(.int p0), (.int p1), (.int p2), (.int p3)] maxLocals)) t := fun t k => pre7 t (by
      show Steps p.tables e below (T3.setTop (mkF m 19 #[.val (.int p0), .val (.int p1), .val (.int p2), .val (.int p3), .val (.ref b1), .val (.int v5), .unset, .unset] [(.int v5)])) _
      refine XS.ifNo X3.here hx rfl (hb hby at_19) rfl ((if0 _ _).trans (teq hc8).2) ?_
      show Steps p.tables e below (T3.setTop (mkF m 22 #[.val (.int p0), .val (.int p1), .val (.int p2), .val (.int p3), .val (.ref b1), .val (.int v5), .unset, .unset] [])) _
      refine XS.aload X3.here hx rfl (hb hby at_22) rfl rfl ?_
      show Steps p.tables e below (T3.setTop (mkF m 24 #[.val (.int p0), .val (.int p1), .val (.int p2), .val (.int p3), .val (.ref b1), .val (.int v5), .unset, .unset] [(.ref b1)])) _
      refine XS.iloadN X3.here hx rfl (hb hby at_24) rfl ?_
      exact k)
    obtain ⟨cq10, kq10, q10a, q10b, q10c⟩ := isOf hZ rfl A1_3
    obtain ⟨_, _, ⟨T10, L10, k10, n10⟩, -, X10, ⟨Lc10, hQ10, l10, y10, z10⟩, st10⟩ := X3.virtualBack hx (y := (⟨"com/example/prune_to_fit/prunetofit/program/ProcessPair", "has", "(I)Z"⟩ : MethodName)) (z := (⟨"com/example/prune_to_fit/prunetofit/program/ProcessPair", "has", "(I)Z"⟩ : MethodName)) hown (mvT hZ (hw _ (List.mem_of_getElem? (i := 20) rfl))) (mvT hZ (hw _ (List.mem_of_getElem? (i := 21) rfl))) (notFace_of_selects (args := #[]) (mvT hZ (hw _ (List.mem_of_getElem? (i := 23) rfl)))) (mvT hZ (hw _ (List.mem_of_getElem? (i := 23) rfl))) (mvT hZ (hw _ (List.mem_of_getElem? (i := 22) rfl))) (by decide) (backOf (W := 0) (rm4 l Z aw hw [] b1 p0 p0 p1 T3.heap n0 Z3 F3_a0_first' F3_a0_second') hZ (hw _ (List.mem_of_getElem? (i := 24) rfl)) (hw _ (List.mem_of_getElem? (i := 2) rfl)) (by decide) (by decide)) q10a q10c (g := (mkF m 25 #[.val (.int p0), .val (.int p1), .val (.int p2), .val (.int p3), .val (.ref b1), .val (.int v5), .unset, .unset] [(.int p0), (.ref b1)])) rfl (by rw [hml]; rfl) (Steps.refl _) (argsL := [(.int p0)]) (rest := []) (lenOf pd_2 rfl) rfl (by show 2 * 0 + _ ≤ _; exact Nat.le_of_eq rfl) (hb hby at_25) (fun _ _ => ⟨rfl, rfl, (by decide : 1 + 0 ≤ _), (by decide : 3 + 0 ≤ _)⟩)
    dsimp only [Pt.U, Pt.locs, Pt.cells, Pt.slots] at X10 l10 y10 z10 st10 hQ10
    subst l10 y10 z10
    obtain ⟨rfl, N10q, e10⟩ := hQ10
    have N10 := Fr.app N3 N10q
    obtain ⟨fs, hr, hrun, hended, hW, hsame⟩ := X10.leave (v := some (.int (nar .boolean (f4 p0 p0 p1)))) (fun h => by rw [Bd.returns] at h; cases h)
    refine ⟨_, _, pre9 _ ?_, hrun, hended, _, _, rfl, ?_, ⟨_, rfl⟩, hW, hsame.mono (by decide) (by decide)⟩
    · show Steps p.tables e below (T3.setTop (mkF m 25 #[.val (.int p0), .val (.int p1), .val (.int p2), .val (.int p3), .val (.ref b1), .val (.int v5), .unset, .unset] [(.int p0), (.ref b1)])) _
      refine st10.trans ?_
      show Steps p.tables e below (T10.setTop (mkF m 28 #[.val (.int p0), .val (.int p1), .val (.int p2), .val (.int p3), .val (.ref b1), .val (.int v5), .unset, .unset] [(.int (f4 p0 p0 p1))])) _
      exact retN X10 hx (t := .boolean) Bd.returns (by simp) (hb hby at_28) hr
    · show Q0 Z p0 p1 p2 p3 h0 n0 _ T10.heap _
      rw [e10]
      have hv : (nar .boolean (f4 p0 p0 p1)) = f0 p0 p1 p2 p3 := (by subst hv5; simp only [f0, if_pos hc8])
      exact ⟨congrArg (fun z => some (Value.int z)) (hv.trans hlaw), N10⟩
  · have pre11 : ∀ t, Steps p.tables e below (T3.setTop (mkF m 32 #[.val (.int p0), .val (.int p1), .val (.int p2), .val (.int p3), .val (.ref b1), .val (.int v5), .unset, .unset] [(.int (1 : Int32)), (.int v5)])) t → Steps p.tables e below (s₁.setTop (entryFrame m #[(.int p0), (.int p1), (.int p2), (.int p3)] maxLocals)) t := fun t k => pre7 t (by
      show Steps p.tables e below (T3.setTop (mkF m 19 #[.val (.int p0), .val (.int p1), .val (.int p2), .val (.int p3), .val (.ref b1), .val (.int v5), .unset, .unset] [(.int v5)])) _
      refine XS.ifYes X3.here hx rfl (pc0 := 19) (pc' := 29) rfl (hb hby at_19) rfl ((if0 _ _).trans (feq hc8).2) (by decide) (by decide) ?_
      show Steps p.tables e below (T3.setTop (mkF m 29 #[.val (.int p0), .val (.int p1), .val (.int p2), .val (.int p3), .val (.ref b1), .val (.int v5), .unset, .unset] [])) _
      refine XS.iload X3.here hx rfl (hb hby at_29) rfl ?_
      show Steps p.tables e below (T3.setTop (mkF m 31 #[.val (.int p0), .val (.int p1), .val (.int p2), .val (.int p3), .val (.ref b1), .val (.int v5), .unset, .unset] [(.int v5)])) _
      refine XS.iconst X3.here hx rfl (hb hby at_31) ?_
      exact k)
    by_cases hc12 : v5 = (1 : Int32)
    · have pre13 : ∀ t, Steps p.tables e below (T3.setTop (mkF m 38 #[.val (.int p0), .val (.int p1), .val (.int p2), .val (.int p3), .val (.ref b1), .val (.int v5), .unset, .unset] [(.int p1), (.ref b1)])) t → Steps p.tables e below (s₁.setTop (entryFrame m #[(.int p0), (.int p1), (.int p2), (.int p3)] maxLocals)) t := fun t k => pre11 t (by
        show Steps p.tables e below (T3.setTop (mkF m 32 #[.val (.int p0), .val (.int p1), .val (.int p2), .val (.int p3), .val (.ref b1), .val (.int v5), .unset, .unset] [(.int (1 : Int32)), (.int v5)])) _
        refine XS.icmpNo X3.here hx rfl (hb hby at_32) rfl (teq hc12).2 ?_
        show Steps p.tables e below (T3.setTop (mkF m 35 #[.val (.int p0), .val (.int p1), .val (.int p2), .val (.int p3), .val (.ref b1), .val (.int v5), .unset, .unset] [])) _
        refine XS.aload X3.here hx rfl (hb hby at_35) rfl rfl ?_
        show Steps p.tables e below (T3.setTop (mkF m 37 #[.val (.int p0), .val (.int p1), .val (.int p2), .val (.int p3), .val (.ref b1), .val (.int v5), .unset, .unset] [(.ref b1)])) _
        refine XS.iloadN X3.here hx rfl (hb hby at_37) rfl ?_
        exact k)
      obtain ⟨cq14, kq14, q14a, q14b, q14c⟩ := isOf hZ rfl A1_3
      obtain ⟨_, _, ⟨T14, L14, k14, n14⟩, -, X14, ⟨Lc14, hQ14, l14, y14, z14⟩, st14⟩ := X3.virtualBack hx (y := (⟨"com/example/prune_to_fit/prunetofit/program/ProcessPair", "has", "(I)Z"⟩ : MethodName)) (z := (⟨"com/example/prune_to_fit/prunetofit/program/ProcessPair", "has", "(I)Z"⟩ : MethodName)) hown (mvT hZ (hw _ (List.mem_of_getElem? (i := 20) rfl))) (mvT hZ (hw _ (List.mem_of_getElem? (i := 21) rfl))) (notFace_of_selects (args := #[]) (mvT hZ (hw _ (List.mem_of_getElem? (i := 23) rfl)))) (mvT hZ (hw _ (List.mem_of_getElem? (i := 23) rfl))) (mvT hZ (hw _ (List.mem_of_getElem? (i := 22) rfl))) (by decide) (backOf (W := 0) (rm4 l Z aw hw [] b1 p1 p0 p1 T3.heap n0 Z3 F3_a0_first' F3_a0_second') hZ (hw _ (List.mem_of_getElem? (i := 24) rfl)) (hw _ (List.mem_of_getElem? (i := 2) rfl)) (by decide) (by decide)) q14a q14c (g := (mkF m 38 #[.val (.int p0), .val (.int p1), .val (.int p2), .val (.int p3), .val (.ref b1), .val (.int v5), .unset, .unset] [(.int p1), (.ref b1)])) rfl (by rw [hml]; rfl) (Steps.refl _) (argsL := [(.int p1)]) (rest := []) (lenOf pd_2 rfl) rfl (by show 2 * 0 + _ ≤ _; exact Nat.le_of_eq rfl) (hb hby at_38) (fun _ _ => ⟨rfl, rfl, (by decide : 1 + 0 ≤ _), (by decide : 3 + 0 ≤ _)⟩)
      dsimp only [Pt.U, Pt.locs, Pt.cells, Pt.slots] at X14 l14 y14 z14 st14 hQ14
      subst l14 y14 z14
      obtain ⟨rfl, N14q, e14⟩ := hQ14
      have N14 := Fr.app N3 N14q
      obtain ⟨fs, hr, hrun, hended, hW, hsame⟩ := X14.leave (v := some (.int (nar .boolean (f4 p1 p0 p1)))) (fun h => by rw [Bd.returns] at h; cases h)
      refine ⟨_, _, pre13 _ ?_, hrun, hended, _, _, rfl, ?_, ⟨_, rfl⟩, hW, hsame.mono (by decide) (by decide)⟩
      · show Steps p.tables e below (T3.setTop (mkF m 38 #[.val (.int p0), .val (.int p1), .val (.int p2), .val (.int p3), .val (.ref b1), .val (.int v5), .unset, .unset] [(.int p1), (.ref b1)])) _
        refine st14.trans ?_
        show Steps p.tables e below (T14.setTop (mkF m 41 #[.val (.int p0), .val (.int p1), .val (.int p2), .val (.int p3), .val (.ref b1), .val (.int v5), .unset, .unset] [(.int (f4 p1 p0 p1))])) _
        exact retN X14 hx (t := .boolean) Bd.returns (by simp) (hb hby at_41) hr
      · show Q0 Z p0 p1 p2 p3 h0 n0 _ T14.heap _
        rw [e14]
        have hv : (nar .boolean (f4 p1 p0 p1)) = f0 p0 p1 p2 p3 := (by subst hv5; simp only [f0, if_neg hc8, if_pos hc12])
        exact ⟨congrArg (fun z => some (Value.int z)) (hv.trans hlaw), N14⟩
    · have pre15 : ∀ t, Steps p.tables e below (T3.setTop (mkF m 45 #[.val (.int p0), .val (.int p1), .val (.int p2), .val (.int p3), .val (.ref b1), .val (.int v5), .unset, .unset] [(.int (p0 + p2))])) t → Steps p.tables e below (s₁.setTop (entryFrame m #[(.int p0), (.int p1), (.int p2), (.int p3)] maxLocals)) t := fun t k => pre11 t (by
        show Steps p.tables e below (T3.setTop (mkF m 32 #[.val (.int p0), .val (.int p1), .val (.int p2), .val (.int p3), .val (.ref b1), .val (.int v5), .unset, .unset] [(.int (1 : Int32)), (.int v5)])) _
        refine XS.icmpYes X3.here hx rfl (pc0 := 32) (pc' := 42) rfl (hb hby at_32) rfl (feq hc12).2 (by decide) (by decide) ?_
        show Steps p.tables e below (T3.setTop (mkF m 42 #[.val (.int p0), .val (.int p1), .val (.int p2), .val (.int p3), .val (.ref b1), .val (.int v5), .unset, .unset] [])) _
        refine XS.iloadN X3.here hx rfl (hb hby at_42) rfl ?_
        show Steps p.tables e below (T3.setTop (mkF m 43 #[.val (.int p0), .val (.int p1), .val (.int p2), .val (.int p3), .val (.ref b1), .val (.int v5), .unset, .unset] [(.int p0)])) _
        refine XS.iloadN X3.here hx rfl (hb hby at_43) rfl ?_
        show Steps p.tables e below (T3.setTop (mkF m 44 #[.val (.int p0), .val (.int p1), .val (.int p2), .val (.int p3), .val (.ref b1), .val (.int v5), .unset, .unset] [(.int p2), (.int p0)])) _
        refine XS.iadd X3.here hx rfl (hb hby at_44) rfl ?_
        exact k)
      obtain ⟨v16, hv16⟩ : ∃ z : Int32, z = (p0 + p2) := ⟨_, rfl⟩
      have pre17 : ∀ t, Steps p.tables e below (T3.setTop (mkF m 45 #[.val (.int p0), .val (.int p1), .val (.int p2), .val (.int p3), .val (.ref b1), .val (.int v5), .unset, .unset] [(.int v16)])) t → Steps p.tables e below (s₁.setTop (entryFrame m #[(.int p0), (.int p1), (.int p2), (.int p3)] maxLocals)) t := fun t k => pre15 t (by rw [hv16] at k; exact k)
      have pre18 : ∀ t, Steps p.tables e below (T3.setTop (mkF m 48 #[.val (.int p0), .val (.int p1), .val (.int p2), .val (.int p3), .val (.ref b1), .val (.int v5), .val (.int v16), .unset] [(.int p2)])) t → Steps p.tables e below (s₁.setTop (entryFrame m #[(.int p0), (.int p1), (.int p2), (.int p3)] maxLocals)) t := fun t k => pre17 t (by
        show Steps p.tables e below (T3.setTop (mkF m 45 #[.val (.int p0), .val (.int p1), .val (.int p2), .val (.int p3), .val (.ref b1), .val (.int v5), .unset, .unset] [(.int v16)])) _
        refine XS.istore X3.here hx rfl (hb hby at_45) rfl (l' := #[.val (.int p0), .val (.int p1), .val (.int p2), .val (.int p3), .val (.ref b1), .val (.int v5), .val (.int v16), .unset]) rfl ?_
        show Steps p.tables e below (T3.setTop (mkF m 47 #[.val (.int p0), .val (.int p1), .val (.int p2), .val (.int p3), .val (.ref b1), .val (.int v5), .val (.int v16), .unset] [])) _
        refine XS.iloadN X3.here hx rfl (hb hby at_47) rfl ?_
        exact k)
      obtain ⟨j22, hj22, pre23⟩ : ∃ (j22 : Int32), j22 = (if p2 = (0 : Int32) then (1 : Int32) else (if p2 = (p1 - p0) then (1 : Int32) else (0 : Int32))) ∧ ∀ t, Steps p.tables e below (T3.setTop (mkF m 63 #[.val (.int p0), .val (.int p1), .val (.int p2), .val (.int p3), .val (.ref b1), .val (.int v5), .val (.int v16), .unset] [(.int j22)])) t → Steps p.tables e below (s₁.setTop (entryFrame m #[(.int p0), (.int p1), (.int p2), (.int p3)] maxLocals)) t := by
        by_cases hc19 : p2 = (0 : Int32)
        · exact ⟨(1 : Int32), (by rw [if_pos hc19]), fun t k => pre18 t (by
            show Steps p.tables e below (T3.setTop (mkF m 48 #[.val (.int p0), .val (.int p1), .val (.int p2), .val (.int p3), .val (.ref b1), .val (.int v5), .val (.int v16), .unset] [(.int p2)])) _
            refine XS.ifYes X3.here hx rfl (pc0 := 48) (pc' := 58) rfl (hb hby at_48) rfl ((if0 _ _).trans (teq hc19).1) (by decide) (by decide) ?_
            show Steps p.tables e below (T3.setTop (mkF m 58 #[.val (.int p0), .val (.int p1), .val (.int p2), .val (.int p3), .val (.ref b1), .val (.int v5), .val (.int v16), .unset] [])) _
            refine XS.iconst X3.here hx rfl (hb hby at_58) ?_
            show Steps p.tables e below (T3.setTop (mkF m 59 #[.val (.int p0), .val (.int p1), .val (.int p2), .val (.int p3), .val (.ref b1), .val (.int v5), .val (.int v16), .unset] [(.int (1 : Int32))])) _
            refine XS.goto X3.here hx rfl (pc0 := 59) (pc' := 63) rfl (hb hby at_59) (by decide) (by decide) ?_
            exact k)⟩
        · have pre20 : ∀ t, Steps p.tables e below (T3.setTop (mkF m 55 #[.val (.int p0), .val (.int p1), .val (.int p2), .val (.int p3), .val (.ref b1), .val (.int v5), .val (.int v16), .unset] [(.int (p1 - p0)), (.int p2)])) t → Steps p.tables e below (s₁.setTop (entryFrame m #[(.int p0), (.int p1), (.int p2), (.int p3)] maxLocals)) t := fun t k => pre18 t (by
            show Steps p.tables e below (T3.setTop (mkF m 48 #[.val (.int p0), .val (.int p1), .val (.int p2), .val (.int p3), .val (.ref b1), .val (.int v5), .val (.int v16), .unset] [(.int p2)])) _
            refine XS.ifNo X3.here hx rfl (hb hby at_48) rfl ((if0 _ _).trans (feq hc19).1) ?_
            show Steps p.tables e below (T3.setTop (mkF m 51 #[.val (.int p0), .val (.int p1), .val (.int p2), .val (.int p3), .val (.ref b1), .val (.int v5), .val (.int v16), .unset] [])) _
            refine XS.iloadN X3.here hx rfl (hb hby at_51) rfl ?_
            show Steps p.tables e below (T3.setTop (mkF m 52 #[.val (.int p0), .val (.int p1), .val (.int p2), .val (.int p3), .val (.ref b1), .val (.int v5), .val (.int v16), .unset] [(.int p2)])) _
            refine XS.iloadN X3.here hx rfl (hb hby at_52) rfl ?_
            show Steps p.tables e below (T3.setTop (mkF m 53 #[.val (.int p0), .val (.int p1), .val (.int p2), .val (.int p3), .val (.ref b1), .val (.int v5), .val (.int v16), .unset] [(.int p1), (.int p2)])) _
            refine XS.iloadN X3.here hx rfl (hb hby at_53) rfl ?_
            show Steps p.tables e below (T3.setTop (mkF m 54 #[.val (.int p0), .val (.int p1), .val (.int p2), .val (.int p3), .val (.ref b1), .val (.int v5), .val (.int v16), .unset] [(.int p0), (.int p1), (.int p2)])) _
            refine XS.isub X3.here hx rfl (hb hby at_54) rfl ?_
            exact k)
          by_cases hc21 : p2 = (p1 - p0)
          · exact ⟨(1 : Int32), (by rw [if_neg hc19, if_pos hc21]), fun t k => pre20 t (by
              show Steps p.tables e below (T3.setTop (mkF m 55 #[.val (.int p0), .val (.int p1), .val (.int p2), .val (.int p3), .val (.ref b1), .val (.int v5), .val (.int v16), .unset] [(.int (p1 - p0)), (.int p2)])) _
              refine XS.icmpNo X3.here hx rfl (hb hby at_55) rfl (teq hc21).2 ?_
              show Steps p.tables e below (T3.setTop (mkF m 58 #[.val (.int p0), .val (.int p1), .val (.int p2), .val (.int p3), .val (.ref b1), .val (.int v5), .val (.int v16), .unset] [])) _
              refine XS.iconst X3.here hx rfl (hb hby at_58) ?_
              show Steps p.tables e below (T3.setTop (mkF m 59 #[.val (.int p0), .val (.int p1), .val (.int p2), .val (.int p3), .val (.ref b1), .val (.int v5), .val (.int v16), .unset] [(.int (1 : Int32))])) _
              refine XS.goto X3.here hx rfl (pc0 := 59) (pc' := 63) rfl (hb hby at_59) (by decide) (by decide) ?_
              exact k)⟩
          · exact ⟨(0 : Int32), (by rw [if_neg hc19, if_neg hc21]), fun t k => pre20 t (by
              show Steps p.tables e below (T3.setTop (mkF m 55 #[.val (.int p0), .val (.int p1), .val (.int p2), .val (.int p3), .val (.ref b1), .val (.int v5), .val (.int v16), .unset] [(.int (p1 - p0)), (.int p2)])) _
              refine XS.icmpYes X3.here hx rfl (pc0 := 55) (pc' := 62) rfl (hb hby at_55) rfl (feq hc21).2 (by decide) (by decide) ?_
              show Steps p.tables e below (T3.setTop (mkF m 62 #[.val (.int p0), .val (.int p1), .val (.int p2), .val (.int p3), .val (.ref b1), .val (.int v5), .val (.int v16), .unset] [])) _
              refine XS.iconst X3.here hx rfl (hb hby at_62) ?_
              exact k)⟩
      have pre24 : ∀ t, Steps p.tables e below (T3.setTop (mkF m 69 #[.val (.int p0), .val (.int p1), .val (.int p2), .val (.int p3), .val (.ref b1), .val (.int v5), .val (.int v16), .val (.int j22)] [(.int v16), (.ref b1)])) t → Steps p.tables e below (s₁.setTop (entryFrame m #[(.int p0), (.int p1), (.int p2), (.int p3)] maxLocals)) t := fun t k => pre23 t (by
        show Steps p.tables e below (T3.setTop (mkF m 63 #[.val (.int p0), .val (.int p1), .val (.int p2), .val (.int p3), .val (.ref b1), .val (.int v5), .val (.int v16), .unset] [(.int j22)])) _
        refine XS.istore X3.here hx rfl (hb hby at_63) rfl (l' := #[.val (.int p0), .val (.int p1), .val (.int p2), .val (.int p3), .val (.ref b1), .val (.int v5), .val (.int v16), .val (.int j22)]) rfl ?_
        show Steps p.tables e below (T3.setTop (mkF m 65 #[.val (.int p0), .val (.int p1), .val (.int p2), .val (.int p3), .val (.ref b1), .val (.int v5), .val (.int v16), .val (.int j22)] [])) _
        refine XS.aload X3.here hx rfl (hb hby at_65) rfl rfl ?_
        show Steps p.tables e below (T3.setTop (mkF m 67 #[.val (.int p0), .val (.int p1), .val (.int p2), .val (.int p3), .val (.ref b1), .val (.int v5), .val (.int v16), .val (.int j22)] [(.ref b1)])) _
        refine XS.iload X3.here hx rfl (hb hby at_67) rfl ?_
        exact k)
      obtain ⟨cq25, kq25, q25a, q25b, q25c⟩ := isOf hZ rfl A1_3
      obtain ⟨_, _, ⟨T25, L25, k25, n25⟩, -, X25, ⟨Lc25, hQ25, l25, y25, z25⟩, st25⟩ := X3.virtualBack hx (y := (⟨"com/example/prune_to_fit/prunetofit/program/ProcessPair", "has", "(I)Z"⟩ : MethodName)) (z := (⟨"com/example/prune_to_fit/prunetofit/program/ProcessPair", "has", "(I)Z"⟩ : MethodName)) hown (mvT hZ (hw _ (List.mem_of_getElem? (i := 20) rfl))) (mvT hZ (hw _ (List.mem_of_getElem? (i := 21) rfl))) (notFace_of_selects (args := #[]) (mvT hZ (hw _ (List.mem_of_getElem? (i := 23) rfl)))) (mvT hZ (hw _ (List.mem_of_getElem? (i := 23) rfl))) (mvT hZ (hw _ (List.mem_of_getElem? (i := 22) rfl))) (by decide) (backOf (W := 0) (rm4 l Z aw hw [] b1 v16 p0 p1 T3.heap n0 Z3 F3_a0_first' F3_a0_second') hZ (hw _ (List.mem_of_getElem? (i := 24) rfl)) (hw _ (List.mem_of_getElem? (i := 2) rfl)) (by decide) (by decide)) q25a q25c (g := (mkF m 69 #[.val (.int p0), .val (.int p1), .val (.int p2), .val (.int p3), .val (.ref b1), .val (.int v5), .val (.int v16), .val (.int j22)] [(.int v16), (.ref b1)])) rfl (by rw [hml]; rfl) (Steps.refl _) (argsL := [(.int v16)]) (rest := []) (lenOf pd_2 rfl) rfl (by show 2 * 0 + _ ≤ _; exact Nat.le_of_eq rfl) (hb hby at_69) (fun _ _ => ⟨rfl, rfl, (by decide : 1 + 0 ≤ _), (by decide : 3 + 0 ≤ _)⟩)
      dsimp only [Pt.U, Pt.locs, Pt.cells, Pt.slots] at X25 l25 y25 z25 st25 hQ25
      subst l25 y25 z25
      obtain ⟨rfl, N25q, e25⟩ := hQ25
      have N25 := Fr.app N3 N25q
      have pre26 : ∀ t, Steps p.tables e below (T25.setTop (mkF m 74 #[.val (.int p0), .val (.int p1), .val (.int p2), .val (.int p3), .val (.ref b1), .val (.int v5), .val (.int v16), .val (.int j22)] [(.int j22), (.int (f4 v16 p0 p1))])) t → Steps p.tables e below (s₁.setTop (entryFrame m #[(.int p0), (.int p1), (.int p2), (.int p3)] maxLocals)) t := fun t k => pre24 t (by
        show Steps p.tables e below (T3.setTop (mkF m 69 #[.val (.int p0), .val (.int p1), .val (.int p2), .val (.int p3), .val (.ref b1), .val (.int v5), .val (.int v16), .val (.int j22)] [(.int v16), (.ref b1)])) _
        refine st25.trans ?_
        show Steps p.tables e below (T25.setTop (mkF m 72 #[.val (.int p0), .val (.int p1), .val (.int p2), .val (.int p3), .val (.ref b1), .val (.int v5), .val (.int v16), .val (.int j22)] [(.int (f4 v16 p0 p1))])) _
        refine XS.iload X25.here hx rfl (hb hby at_72) rfl ?_
        exact k)
      obtain ⟨j28, hj28, pre29⟩ : ∃ (j28 : Int32), j28 = (if (f4 v16 p0 p1) = j22 then (1 : Int32) else (0 : Int32)) ∧ ∀ t, Steps p.tables e below (T25.setTop (mkF m 82 #[.val (.int p0), .val (.int p1), .val (.int p2), .val (.int p3), .val (.ref b1), .val (.int v5), .val (.int v16), .val (.int j22)] [(.int j28)])) t → Steps p.tables e below (s₁.setTop (entryFrame m #[(.int p0), (.int p1), (.int p2), (.int p3)] maxLocals)) t := by
        by_cases hc27 : (f4 v16 p0 p1) = j22
        · exact ⟨(1 : Int32), (by rw [if_pos hc27]), fun t k => pre26 t (by
            show Steps p.tables e below (T25.setTop (mkF m 74 #[.val (.int p0), .val (.int p1), .val (.int p2), .val (.int p3), .val (.ref b1), .val (.int v5), .val (.int v16), .val (.int j22)] [(.int j22), (.int (f4 v16 p0 p1))])) _
            refine XS.icmpNo X25.here hx rfl (hb hby at_74) rfl (teq hc27).2 ?_
            show Steps p.tables e below (T25.setTop (mkF m 77 #[.val (.int p0), .val (.int p1), .val (.int p2), .val (.int p3), .val (.ref b1), .val (.int v5), .val (.int v16), .val (.int j22)] [])) _
            refine XS.iconst X25.here hx rfl (hb hby at_77) ?_
            show Steps p.tables e below (T25.setTop (mkF m 78 #[.val (.int p0), .val (.int p1), .val (.int p2), .val (.int p3), .val (.ref b1), .val (.int v5), .val (.int v16), .val (.int j22)] [(.int (1 : Int32))])) _
            refine XS.goto X25.here hx rfl (pc0 := 78) (pc' := 82) rfl (hb hby at_78) (by decide) (by decide) ?_
            exact k)⟩
        · exact ⟨(0 : Int32), (by rw [if_neg hc27]), fun t k => pre26 t (by
            show Steps p.tables e below (T25.setTop (mkF m 74 #[.val (.int p0), .val (.int p1), .val (.int p2), .val (.int p3), .val (.ref b1), .val (.int v5), .val (.int v16), .val (.int j22)] [(.int j22), (.int (f4 v16 p0 p1))])) _
            refine XS.icmpYes X25.here hx rfl (pc0 := 74) (pc' := 81) rfl (hb hby at_74) rfl (feq hc27).2 (by decide) (by decide) ?_
            show Steps p.tables e below (T25.setTop (mkF m 81 #[.val (.int p0), .val (.int p1), .val (.int p2), .val (.int p3), .val (.ref b1), .val (.int v5), .val (.int v16), .val (.int j22)] [])) _
            refine XS.iconst X25.here hx rfl (hb hby at_81) ?_
            exact k)⟩
      obtain ⟨fs, hr, hrun, hended, hW, hsame⟩ := X25.leave (v := some (.int (nar .boolean j28))) (fun h => by rw [Bd.returns] at h; cases h)
      refine ⟨_, _, pre29 _ ?_, hrun, hended, _, _, rfl, ?_, ⟨_, rfl⟩, hW, hsame.mono (by decide) (by decide)⟩
      · show Steps p.tables e below (T25.setTop (mkF m 82 #[.val (.int p0), .val (.int p1), .val (.int p2), .val (.int p3), .val (.ref b1), .val (.int v5), .val (.int v16), .val (.int j22)] [(.int j28)])) _
        exact retN X25 hx (t := .boolean) Bd.returns (by simp) (hb hby at_82) hr
      · show Q0 Z p0 p1 p2 p3 h0 n0 _ T25.heap _
        rw [e25]
        have hv : (nar .boolean j28) = f0 p0 p1 p2 p3 := (by subst hj28 hj22 hv16 hv5; simp only [f0, if_neg hc8, if_neg hc12])
        exact ⟨congrArg (fun z => some (Value.int z)) (hv.trans hlaw), N25⟩
theorem own_c1 (a x : Int32) : a + x = a ↔ x = 0 := by
  have h := c_iadd a x
  have h1 := rng32 a
  have h2 := rng32 x
  have h3 := rng32 (a + x)
  have k0 : (0 : Int32).toInt = 0 := by decide
  rw [← Int32.toInt_inj, ← Int32.toInt_inj (x := x), k0]
  omega
theorem own_c2 (a b x : Int32) : a + x = b ↔ x = b - a := by
  have h := c_iadd a x
  have h1 := rng32 a
  have h2 := rng32 x
  have h3 := rng32 (a + x)
  have h4 := c_isub b a
  have h5 := rng32 (b - a)
  have h6 := rng32 b
  rw [← Int32.toInt_inj, ← Int32.toInt_inj (x := x)]
  omega
theorem own_law (p0 p1 p2 p3 : Int32) : f0 p0 p1 p2 p3 = 1 := by
  unfold f0 f4
  simp only [own_c1, own_c2, if_true]
  split
  · rfl
  · split
    · split <;> rfl
    · split
      · rfl
      · split <;> rfl

set_option maxRecDepth 65536 in
set_option maxHeartbeats 40000000 in
theorem comes_1 {Post : Tables → Env → Array Value → State → Outcome → State → Prop} (hpost : ∀ tb e args s v u, (limb_1_1.after args s (.returned v) u = true ∧ limb_1_2.after args s (.returned v) u = true ∧ True) → FrameEnd s (.returned v) u (Jvm.fieldLocs frame_1_writes args s ++ Jvm.arrayLocs frame_1_arrays args s ++ Jvm.staticLocs frame_1_statics s) 16 128 → Post tb e args s (.returned v) u) :
    ArmFor flags0 classFile x code maxLocals ret World_1 tables_1 room_1 Calls_1 rest_1 Pre_1 Post := by
  intro l hfl _ _ p e ha hc hk s m args below hf hA hF happ hP
  obtain ⟨hcalls, hrest, hpre⟩ := hP
  obtain ⟨-, -, -, hnamed, -, -, -, hat⟩ := (Spec.applies_iff hf).mp happ
  obtain ⟨hg, hn⟩ := and_e (Cond.before_iff.mp (show (Jvm.Cond.and given_1 narrow_1).before args s = true from hpre))
  obtain ⟨g1, g2⟩ := and_e hg
  obtain ⟨g3, g4⟩ := and_e g2
  obtain ⟨g5, g6⟩ := and_e g4
  obtain ⟨g7, g8⟩ := and_e g6
  obtain ⟨w0, w1, w2, w3, rfl⟩ : ∃ w0 w1 w2 w3 : Value, args = #[w0, w1, w2, w3] := by
    have hs : args.size = 4 := by simpa [Cond.value, given_1] using g1
    obtain ⟨L⟩ := args
    match L, hs with
    | [w0, w1, w2, w3], _ => exact ⟨w0, w1, w2, w3, rfl⟩
  have hw := fun d (hd : d ∈ tables_1) => atoms_spec (ws := Jvm.Cond.code x code maxLocals ret :: tables_1) hat d (List.mem_cons_of_mem _ hd)
  have hfit : Fit s := fun {y c} hc i hi => by
    obtain ⟨ha, rfl⟩ := Array.getElem?_eq_some_iff.mp hc
    have q := List.all_eq_true.mp ((Array.all_eq_true_iff_forall_mem.mp hF) _ (Array.getElem_mem ha)) i (List.mem_range.mpr hi)
    simpa [Array.getElem?_eq_getElem hi] using q
  obtain ⟨i0, ei0⟩ := is_v g3
  obtain rfl : w0 = (.int i0) := Option.some.inj ei0
  obtain ⟨i1, ei1⟩ := is_v g5
  obtain rfl : w1 = (.int i1) := Option.some.inj ei1
  obtain ⟨i2, ei2⟩ := is_v g7
  obtain rfl : w2 = (.int i2) := Option.some.inj ei2
  obtain ⟨i3, ei3⟩ := is_v g8
  obtain rfl : w3 = (.int i3) := Option.some.inj ei3
  obtain ⟨n, o, h1, h2, h3, _, L, rfl, ⟨rfl, N⟩, hq⟩ := rm0 l s _ hw tables_1 i0 i1 i2 i3 s.heap s.heap.size (Nat.le_refl _) (own_law i0 i1 i2 i3) p e ha hc hk s m _ below hf ((Spec.applies_iff_loose hf).mp happ).1 ⟨rfl, State.Warmed39.refl s, rfl⟩ trivial
  refine ⟨n, _, h1, h2, h3, hpost _ _ _ _ _ _ ⟨Cond.after_iff.mpr rfl, Cond.after_iff.mpr (eq_i res_at (Term.int_eval (1)) rfl), trivial⟩ ⟨hq.1, hq.2.1, (hq.2.2.sift fun y hy => Or.inr (N y hy)).mono (by decide) (by decide)⟩⟩
theorem main_1_1 : Claimed_1_1 := comes_1 fun _ _ _ _ _ _ h hF => ⟨h.1, hF⟩
theorem main_1_2 : Claimed_1_2 := comes_1 fun _ _ _ _ _ _ h hF => ⟨h.2.1, hF⟩
end Jvm.Pilot.@@N@@
namespace Jvm.Pilot.@@N@@
open Jvm Jvm.ClassFile Sem Op Lib Jvm.Free Jvm.Stand Jvm.Pilot.@@N@@.Jvm.D
/-! MADE BY PROGRAM (witnessworld.py) out of the Statement's table words and the real class files: 10 classes; the members and pool entries that the words name. The judged class is class 1, her method 1. -/
namespace start1
open Jvm.ClassFile
def u (s : String) : CpInfo := .utf8 (stringToUtf16 s)
/-- a pool by its gaps: so many unusable entries, then the entry; so many at the end -/
def gap : Nat → List CpInfo → List CpInfo
  | 0, r => r
  | n + 1, r => .unusable :: gap n r
def poolList (es : List (Nat × CpInfo)) (last : Nat) : List CpInfo := es.foldr (fun e r => gap e.1 (e.2 :: r)) (gap last [])
def pool (es : List (Nat × CpInfo)) (last : Nat) : Array CpInfo := ⟨poolList es last⟩
def fileOf (pool : Array CpInfo) (this : Nat) (attrs : Array Attribute := #[]) (ms : Array MethodInfo := #[]) (fl : Nat := 33) (sup : Nat := 0) (ifs : Array Nat := #[]) (fds : Array FieldInfo := #[]) : ClassFile where
  minorVersion := 0
  majorVersion := 65
  constantPool := pool
  accessFlags := fl
  thisClass := this
  superClass := sup
  interfaces := ifs
  fields := fds
  methods := ms
  attributes := attrs
def plain (name : String) (sup : Option ClassId) : Class where
  name := name
  kind := .ordinary
  loader := none
  accessFlags := 33
  super := sup
  interfaces := #[]
  cf := none
  fields := #[]
  methods := #[]
  instanceTypes := #[]
  staticTypes := #[]
  resolved := #[]
  callSites := []
  init := .initialized
  statics := none
  mirror := none

def pool0 : Array CpInfo := pool [(5, u "<init>"), (0, u "()V"), (1, .class_ 10), (1, u "java/lang/Object")] 113

def k0c0 : Code := { maxStack := 0, maxLocals := 1, code := object_method_1_code, exceptionTable := #[], attributes := #[] }
def k0m0 : Method := { name := "<init>", desc := "()V", sig := { parameters := [], returnType := none }, accessFlags := 1, code := some k0c0 }
/-- java/lang/Object -/
def k0 : Class := { plain "java/lang/Object" none with
  accessFlags := 33
  interfaces := #[]
  cf := some (fileOf pool0 8 #[] #[{ accessFlags := 1, nameIndex := 5, descriptorIndex := 6, attributes := #[] }] 33 0 #[] #[])
  fields := #[]
  methods := #[k0m0]
  instanceTypes := #[]
  staticTypes := #[]
  resolved := Array.replicate 124 none
  statics := none }

def pool1 : Array CpInfo := pool [(2, .class_ 4), (1, u "java/lang/Object"), (0, u "<init>"), (0, u "()V"), (0, .class_ 8), (0, u "com/example/prune_to_fit/prunetofit/program/ProcessPair"), (0, .methodref 7 10), (0, .nameAndType 5 11), (0, u "(IILcom/example/prune_to_fit/prunetofit/ctl/Formula;)V"), (0, .methodref 7 13), (0, .nameAndType 14 15), (0, u "has"), (0, u "(I)Z"), (0, .class_ 17), (0, u "com/example/prune_to_fit/prunetofit/program/ProcessPairHasPinLaw"), (2, u "law"), (0, u "(IIII)Z")] 3

def k1m0 : Method := { name := "<init>", desc := "()V", sig := { parameters := [], returnType := none }, accessFlags := 2, code := none }
def k1c1 : Code := { maxStack := 5, maxLocals := 8, code := code, exceptionTable := #[], attributes := #[] }
def k1m1 : Method := { name := "law", desc := "(IIII)Z", sig := { parameters := [.int, .int, .int, .int], returnType := some .boolean }, accessFlags := 9, code := some k1c1 }
/-- com/example/prune_to_fit/prunetofit/program/ProcessPairHasPinLaw -/
def k1 : Class := { plain "com/example/prune_to_fit/prunetofit/program/ProcessPairHasPinLaw" (some 0) with
  accessFlags := 49
  interfaces := #[]
  cf := some (fileOf pool1 16 #[] #[{ accessFlags := 2, nameIndex := 5, descriptorIndex := 6, attributes := #[] }, { accessFlags := 9, nameIndex := 20, descriptorIndex := 21, attributes := #[] }] 49 2 #[] #[])
  fields := #[]
  methods := #[k1m0, k1m1]
  instanceTypes := #[]
  staticTypes := #[]
  resolved := Array.replicate 25 none
  statics := none }

def pool2 : Array CpInfo := pool [(1, .methodref 2 3), (0, .class_ 4), (0, .nameAndType 5 6), (0, u "java/lang/Object"), (0, u "<init>"), (0, u "()V"), (0, .class_ 8), (0, u "java/lang/Record")] 13

def k2c0 : Code := { maxStack := 1, maxLocals := 1, code := jdk_30_method_1_code, exceptionTable := #[], attributes := #[] }
def k2m0 : Method := { name := "<init>", desc := "()V", sig := { parameters := [], returnType := none }, accessFlags := 4, code := some k2c0 }
/-- java/lang/Record -/
def k2 : Class := { plain "java/lang/Record" (some 0) with
  accessFlags := 1057
  interfaces := #[]
  cf := some (fileOf pool2 7 #[] #[{ accessFlags := 4, nameIndex := 5, descriptorIndex := 6, attributes := #[] }] 1057 2 #[] #[])
  fields := #[]
  methods := #[k2m0]
  instanceTypes := #[]
  staticTypes := #[]
  resolved := Array.replicate 22 none
  statics := none }

def pool3 : Array CpInfo := pool [(1, .methodref 2 3), (0, .class_ 4), (0, .nameAndType 5 6), (0, u "java/lang/Record"), (0, u "<init>"), (0, u "()V"), (0, .fieldref 8 9), (0, .class_ 10), (0, .nameAndType 11 12), (0, u "com/example/prune_to_fit/prunetofit/program/ProcessPair"), (0, u "first"), (0, u "I"), (0, .fieldref 8 14), (0, .nameAndType 15 12), (0, u "second"), (0, .fieldref 8 17), (0, .nameAndType 18 19), (0, u "spec"), (0, u "Lcom/example/prune_to_fit/prunetofit/ctl/Formula;"), (2, u "has"), (0, u "(I)Z"), (21, u "(IILcom/example/prune_to_fit/prunetofit/ctl/Formula;)V")] 40

def k3c0 : Code := { maxStack := 2, maxLocals := 4, code := prog_30_method_1_code, exceptionTable := #[], attributes := #[] }
def k3m0 : Method := { name := "<init>", desc := "(IILcom/example/prune_to_fit/prunetofit/ctl/Formula;)V", sig := { parameters := [.int, .int, (.object "com/example/prune_to_fit/prunetofit/ctl/Formula")], returnType := none }, accessFlags := 1, code := some k3c0 }
def k3c1 : Code := { maxStack := 2, maxLocals := 2, code := prog_30_method_2_code, exceptionTable := #[], attributes := #[] }
def k3m1 : Method := { name := "has", desc := "(I)Z", sig := { parameters := [.int], returnType := some .boolean }, accessFlags := 1, code := some k3c1 }
/-- com/example/prune_to_fit/prunetofit/program/ProcessPair -/
def k3 : Class := { plain "com/example/prune_to_fit/prunetofit/program/ProcessPair" (some 2) with
  accessFlags := 49
  interfaces := #[]
  cf := some (fileOf pool3 8 #[] #[{ accessFlags := 1, nameIndex := 5, descriptorIndex := 45, attributes := #[] }, { accessFlags := 1, nameIndex := 22, descriptorIndex := 23, attributes := #[] }] 49 2 #[] #[{ accessFlags := 18, nameIndex := 11, descriptorIndex := 12, attributes := #[] }, { accessFlags := 18, nameIndex := 15, descriptorIndex := 12, attributes := #[] }, { accessFlags := 18, nameIndex := 18, descriptorIndex := 19, attributes := #[] }])
  fields := #[{ name := "first", type := .int, accessFlags := 18, slot := 0, constantValue := 0 }, { name := "second", type := .int, accessFlags := 18, slot := 1, constantValue := 0 }, { name := "spec", type := (.object "com/example/prune_to_fit/prunetofit/ctl/Formula"), accessFlags := 18, slot := 2, constantValue := 0 }]
  methods := #[k3m0, k3m1]
  instanceTypes := #[.int, .int, (.object "com/example/prune_to_fit/prunetofit/ctl/Formula")]
  staticTypes := #[]
  resolved := Array.replicate 86 none
  statics := none }

def pool4 : Array CpInfo := pool [(1, u "java/lang/Cloneable"), (0, .class_ 1), (0, u "java/lang/Object"), (0, .class_ 3)] 3

/-- java/lang/Cloneable -/
def k4 : Class := { plain "java/lang/Cloneable" (some 0) with
  accessFlags := 1537
  interfaces := #[]
  cf := some (fileOf pool4 2 #[] #[] 1537 4 #[] #[])
  fields := #[]
  methods := #[]
  instanceTypes := #[]
  staticTypes := #[]
  resolved := Array.replicate 8 none
  statics := none }

def pool5 : Array CpInfo := pool [(1, u "java/io/Serializable"), (0, .class_ 1), (0, u "java/lang/Object"), (0, .class_ 3)] 3

/-- java/io/Serializable -/
def k5 : Class := { plain "java/io/Serializable" (some 0) with
  accessFlags := 1537
  interfaces := #[]
  cf := some (fileOf pool5 2 #[] #[] 1537 4 #[] #[])
  fields := #[]
  methods := #[]
  instanceTypes := #[]
  staticTypes := #[]
  resolved := Array.replicate 8 none
  statics := none }

/-- the primitive byte -/
def k6 : Class := { plain "byte" none with kind := .primitive 'B', accessFlags := 0x411 }
/-- [B -/
def k7 : Class := { plain "[B" (some 0) with kind := .array 6 .byte, interfaces := #[4, 5], accessFlags := 1041 }

/-- the primitive int -/
def k8 : Class := { plain "int" none with kind := .primitive 'I', accessFlags := 0x411 }
/-- [I -/
def k9 : Class := { plain "[I" (some 0) with kind := .array 8 .int, interfaces := #[4, 5], accessFlags := 1041 }

def heap : Heap := #[]
def classes : Array Class := #[k0, k1, k2, k3, k4, k5, k6, k7, k8, k9]
def interned : List (Array UInt16 × Addr) := []
def slotsUsed : Nat := 0
def theMethod : MethodId := ⟨1, 1⟩
def args0 : Array Value := #[.int 5, .int 7, .int 2, .int 2]
def aboutOver (below : List Frame) : State where
  vm := { classes := classes, interned := interned.toArray }
  heap := heap
  slotsUsed := slotsUsed
  threads := #[{ frames := .invoking theMethod args0 :: below }]
def below0 : List Frame := [.native { method := ⟨0, 0⟩, args := #[] }]
def about1 : State := aboutOver below0
def p0 : Program := .bare "" "" ""
def e0 : Env := launch0.env 0 0 0
theorem w_frames : about1.frames = Frame.invoking theMethod args0 :: below0 := rfl
set_option maxRecDepth 65536 in
theorem w_args : argsFit about1.vm theMethod args0 = true := by decide +kernel
set_option maxRecDepth 65536 in
theorem w_heap : heapFits about1 = true := by decide +kernel
set_option maxRecDepth 65536 in
theorem w_runnable : about1.curStatus? = some .runnable := by decide +kernel
set_option maxRecDepth 65536 in
theorem w_alone : about1.alone = true := by decide +kernel
set_option maxRecDepth 65536 in
theorem w_named : about1.methodNamed? x = some theMethod := by decide +kernel
set_option maxRecDepth 65536 in
theorem w_hears : about1.hears theMethod below0 = true := by decide +kernel
set_option maxRecDepth 65536 in
theorem w_ripe : about1.ripe theMethod args0 below0 = true := by decide +kernel
theorem w_running : about1.status = .running := rfl
set_option maxRecDepth 65536 in
theorem w_room : about1.hasRoom e0.platform room_1 = true :=
  launch0.hasRoom_least _ room_1 (by decide +kernel) (by decide +kernel) (by decide +kernel) (by decide +kernel) (by decide +kernel) (by decide +kernel)
theorem allAtoms_all (ts : List Jvm.Cond) (a : Array Jvm.Value) (st : Jvm.State) : (allAtoms ts).before a st = ts.all (fun c => c.before a st) := by
  induction ts with
  | nil => rfl
  | cons c t ih =>
    show (Jvm.Cond.and c (allAtoms t)).before a st = _
    rw [Jvm.Cond.before_and, ih, List.all_cons]
def words1 : List Jvm.Cond := Jvm.Cond.code x code maxLocals ret :: tables_1
/-- a 'code' word, met by the world's own term for the bytes: nothing is compared byte by byte -/
theorem code_word {y : MethodName} {bytes : ByteArray} {mx : Nat} {rt : Option FieldType} {a : Array Value} {s : State} {m : MethodId} {meth : Method} {c : Code} (h1 : s.methodNamed? y = some m) (h2 : s.vm.method? m = some meth) (h3 : meth.code = some c) (h4 : c.code = bytes)
    (h5 : (c.maxLocals == mx && c.exceptionTable.isEmpty && decide (c.maxStack ≤ mostOperands) && decide (meth.sig.returnType = rt) && !meth.locks && decide (parseMethodDescriptor y.desc = some meth.sig)) = true) : (Jvm.Cond.code y bytes mx rt).before a s = true := by
  simp only [Bool.and_eq_true, beq_iff_eq, Bool.not_eq_true', decide_eq_true_eq] at h5
  obtain ⟨⟨⟨⟨⟨g1, g2⟩, g3⟩, g4⟩, g5⟩, g6⟩ := h5
  simp [Cond.before, Cond.holds, Cond.value, h1, h2, h3, h4, g1, g2, g3, g4, g5, g6]
def isCode : Jvm.Cond → Bool
  | .code _ _ _ _ => true
  | _ => false
theorem all_split {L : List Jvm.Cond} {P : Jvm.Cond → Bool} (h1 : L.all (fun c => isCode c || P c) = true) (h2 : ∀ c ∈ L.filter isCode, P c = true) : L.all P = true := by
  refine List.all_eq_true.mpr fun c hc => ?_
  have h := List.all_eq_true.mp h1 c hc
  rcases Bool.eq_false_or_eq_true (isCode c) with hi | hi
  · exact h2 c (List.mem_filter.mpr ⟨hc, hi⟩)
  · simpa [hi] using h
set_option maxRecDepth 65536 in
theorem w_c0 : (Jvm.Cond.code x code maxLocals ret).before args0 about1 = true := code_word (m := ⟨1, 1⟩) (meth := k1m1) (c := k1c1) (by decide +kernel) rfl rfl rfl (by decide +kernel)
set_option maxRecDepth 65536 in
theorem w_c1 : (Jvm.Cond.code ({ cls := "com/example/prune_to_fit/prunetofit/program/ProcessPair", name := "<init>", desc := "(IILcom/example/prune_to_fit/prunetofit/ctl/Formula;)V" } : Jvm.MethodName) prog_30_method_1_code (4 : Nat) (Option.none : Option Jvm.ClassFile.FieldType)).before args0 about1 = true := code_word (m := ⟨3, 0⟩) (meth := k3m0) (c := k3c0) (by decide +kernel) rfl rfl rfl (by decide +kernel)
set_option maxRecDepth 65536 in
theorem w_c2 : (Jvm.Cond.code ({ cls := "java/lang/Record", name := "<init>", desc := "()V" } : Jvm.MethodName) jdk_30_method_1_code (1 : Nat) (Option.none : Option Jvm.ClassFile.FieldType)).before args0 about1 = true := code_word (m := ⟨2, 0⟩) (meth := k2m0) (c := k2c0) (by decide +kernel) rfl rfl rfl (by decide +kernel)
set_option maxRecDepth 65536 in
theorem w_c3 : (Jvm.Cond.code ({ cls := "java/lang/Object", name := "<init>", desc := "()V" } : Jvm.MethodName) object_method_1_code (1 : Nat) (Option.none : Option Jvm.ClassFile.FieldType)).before args0 about1 = true := code_word (m := ⟨0, 0⟩) (meth := k0m0) (c := k0c0) (by decide +kernel) rfl rfl rfl (by decide +kernel)
set_option maxRecDepth 65536 in
theorem w_c4 : (Jvm.Cond.code ({ cls := "com/example/prune_to_fit/prunetofit/program/ProcessPair", name := "has", desc := "(I)Z" } : Jvm.MethodName) prog_30_method_2_code (2 : Nat) (Option.some Jvm.ClassFile.FieldType.boolean)).before args0 about1 = true := code_word (m := ⟨3, 1⟩) (meth := k3m1) (c := k3c1) (by decide +kernel) rfl rfl rfl (by decide +kernel)
def codes1 : List Jvm.Cond := [Jvm.Cond.code x code maxLocals ret, Jvm.Cond.code ({ cls := "com/example/prune_to_fit/prunetofit/program/ProcessPair", name := "<init>", desc := "(IILcom/example/prune_to_fit/prunetofit/ctl/Formula;)V" } : Jvm.MethodName) prog_30_method_1_code (4 : Nat) (Option.none : Option Jvm.ClassFile.FieldType), Jvm.Cond.code ({ cls := "java/lang/Record", name := "<init>", desc := "()V" } : Jvm.MethodName) jdk_30_method_1_code (1 : Nat) (Option.none : Option Jvm.ClassFile.FieldType), Jvm.Cond.code ({ cls := "java/lang/Object", name := "<init>", desc := "()V" } : Jvm.MethodName) object_method_1_code (1 : Nat) (Option.none : Option Jvm.ClassFile.FieldType), Jvm.Cond.code ({ cls := "com/example/prune_to_fit/prunetofit/program/ProcessPair", name := "has", desc := "(I)Z" } : Jvm.MethodName) prog_30_method_2_code (2 : Nat) (Option.some Jvm.ClassFile.FieldType.boolean)]
set_option maxRecDepth 65536 in
theorem codes_eq : words1.filter isCode = codes1 := rfl
theorem w_codes : ∀ c ∈ words1.filter isCode, c.before args0 about1 = true := by
  rw [codes_eq]
  intro c hc
  simp only [codes1, List.mem_cons, List.not_mem_nil, or_false] at hc
  rcases hc with rfl | rfl | rfl | rfl | rfl
  · exact w_c0
  · exact w_c1
  · exact w_c2
  · exact w_c3
  · exact w_c4
set_option maxRecDepth 65536 in
theorem w_t1 : (words1.take 24).all (fun c => isCode c || c.before args0 about1) = true := by decide +kernel
set_option maxRecDepth 65536 in
theorem w_t2 : (words1.drop 24).all (fun c => isCode c || c.before args0 about1) = true := by decide +kernel
theorem w_tables : (allAtoms (Jvm.Cond.code x code maxLocals ret :: tables_1)).before args0 about1 = true := by
  rw [allAtoms_all]
  show words1.all (fun c => c.before args0 about1) = true
  refine all_split ?_ w_codes
  rw [← List.take_append_drop 24 words1, List.all_append, w_t1, w_t2]
  rfl
set_option maxRecDepth 65536 in
theorem w_case : (Jvm.Cond.and given_1 narrow_1).before args0 about1 = true := by decide +kernel
theorem w_applies : (headSpec (Jvm.Cond.code x code maxLocals ret :: tables_1) room_1).applies x e0.platform about1 = true :=
  (Spec.applies_iff w_frames).mpr ⟨w_running, w_runnable, w_alone, w_named, w_hears, w_ripe, w_room, w_tables⟩
theorem atStart : AtStart classFile x code maxLocals ret World_1 tables_1 room_1 Calls_1 rest_1 Pre_1 launch0 p0 e0 about1 theMethod args0 below0 :=
  ⟨lists_1, trivial, launch0.admits_env _ _ _, launch0.least_env, fairChoices_fair.cas, fairChoices_fair.clock, w_frames, w_args, w_heap, w_applies, trivial, trivial, w_case⟩
end start1
theorem witness_1 : WitnessClaimed_1 := ⟨start1.p0, start1.e0, start1.about1, start1.theMethod, start1.args0, start1.below0, start1.atStart⟩
end Jvm.Pilot.@@N@@
