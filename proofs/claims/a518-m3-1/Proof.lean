import JvmDerived
import JvmDerived.Pilot.@@N@@Statement
import JvmDerived.Pilot.@@N@@Code
set_option linter.unusedVariables false
set_option linter.unusedSimpArgs false
@@BLOCK:HandJ.lean.txt@@
@@BLOCK:HandW.lean.txt@@
@@BLOCK:HandBits.lean.txt@@
@@BLOCK:SymMore.lean.txt@@
namespace Jvm.RoadKit
open Sem ClassFile Op Lib Jvm.Stand Jvm.Free Jvm.LawKit
section New
variable {p : Program} {l : Launch} {e : Env} {R : Room} {s : State} {m : MethodId} {args : Array Value} {below : List Frame} {meth : Method} {c : Code} {T : State} {locs : List Loc} {cells slots : Nat}
theorem retI (X : Stand p l e R s m args below meth c T locs cells slots) (hx : p.tables.exec = Jvm.exec) {pc : Nat} {Ls : Array Slot} {z : Int32} {rest : List Value} (hret : meth.sig.returnType = some .int) (hd : decode c.code pc = .ok (.ireturn, 1)) {fs : List Frame}
    (hl : ∀ (f : JFrame) (acts : List Action), f.method = m → f.locked = none → f.entered = [] → (doReturn e (T.setTop f) acts (some (.int z))).1 = T.setFrames fs) : Steps p.tables e below (T.setTop (mkF m pc Ls (.int z :: rest))) (T.setFrames fs) := by
  have hm' : T.vm.method? m = some meth := X.method'
  have hn : narrow .int (.int z) = .int z := rfl
  show Steps p.tables e below (T.setTop { method := m, pc := pc, locals := Ls, stack := _ :: rest, locked := none }) _
  jvm_step X.here [X.here.top, hx, hd, hm', hret, hn]
  first | (intro acts; rw [hl _ acts rfl rfl rfl]) | rw [hl _ _ rfl rfl rfl]
  exact Steps.refl _
end New
end Jvm.RoadKit
namespace Jvm.Pilot.@@N@@
open Jvm Jvm.ClassFile Sem Op Lib Jvm.Free Jvm.Stand Jvm.LawKit Jvm.RoadKit Bundle Jvm.Pilot.@@N@@.Jvm.D
theorem own_exa_plain {Z : State} {h : Heap} {a : Addr} {C : String} (F : Exa Z h a C) : ∀ cell : Cell, h[a]? = some cell → cell.vm.isStatics = false := fun cell hc => by
  obtain ⟨cell', k, h1, -, -, h4, -⟩ := F
  rw [hc] at h1; cases h1; exact h4
theorem own_sta_keep {Z : State} {h h' : Heap} {ws : List Addr} {C n d : String} {v : Value} (F : Sta Z h C n d v) (K : Keep h h' ws) (q : ∀ x ∈ ws, ∀ cell : Cell, h[x]? = some cell → cell.vm.isStatics = false) : Sta Z h' C n d v := by
  obtain ⟨cf, i, k, f, st, cell, h1, h2, h3, h4, h5, h6, r⟩ := F
  refine ⟨cf, i, k, f, st, cell, h1, h2, h3, h4, K.2.1 st cell h5 (fun hm => ?_), h6, r⟩
  have e := q st hm cell h5
  rw [h6] at e; cases e

theorem own_eq_int {args : Array Value} {s : State} {t : Term} {k : Int32} (h : (Cond.eq t (.int k)).value args s none s [] = some true) : t.eval args s none [] s = some (.int k) := by
  obtain ⟨x, y, ha, hb, hk, -⟩ := cmp_v (Or.inl h)
  have hb' : (Term.int k).eval args s none [] s = some (.int k) := rfl
  rw [hb'] at hb; cases hb
  cases x with
  | int z =>
    have := Cond.value.eq_def
    simp [Cond.value, ha, hb'] at h
    rw [ha, h]
  | _ => simp [Kin, Value.isRef] at hk

theorem pn_4 : plainName "java/util/AbstractCollection" = true := by first | (simp [plainName, overriddenIn]; done) | decide +kernel
theorem d5_0 : decode jdk_22_method_1_code 0 = .ok (.aload_n 0, 1) := by decide +kernel
theorem d5_1 : decode jdk_22_method_1_code 1 = .ok (.invokespecial 1, 3) := by decide +kernel
theorem ef_5 (m : MethodId) (x0 : Addr) : entryFrame m #[(.ref x0)] 1 = mkF m 0 #[.val (.ref x0)] [] := by first | (simp [entryFrame, mkF, argsToLocals, Value.category]; done) | rfl
def Q5 (Z : State) (a0 : Addr) (h0 : Heap) (n0 : Nat) (v : Option Value) (h : Heap) (L : List Loc) : Prop := v = none ∧ Fr n0 L ∧ h = h0
theorem d5_4 : decode jdk_22_method_1_code 4 = .ok (.return_, 1) := by decide +kernel
set_option maxRecDepth 65536 in
set_option maxHeartbeats 40000000 in
theorem rm5 (l : Launch) (Z : State) (aw : Array Value) (hw : ∀ d ∈ tables_1, d.before aw Z = true) (ws : List Jvm.Cond) (a0 : Addr) (h0 : Heap) (n0 : Nat) (Z0 : n0 ≤ h0.size) :
    MetFree l (⟨"java/util/AbstractCollection", "<init>", "()V"⟩ : MethodName) (head1 (Jvm.Cond.code (⟨"java/util/AbstractCollection", "<init>", "()V"⟩ : MethodName) jdk_22_method_1_code 1 none :: ws) ({ frames := 1, cells := 0, slots := 0, locals := 12 } : Room)) (fun a U => a = #[(.ref a0)] ∧ Z.Warmed39 U.vm ∧ U.heap = h0) (fun _ _ _ _ _ => True) (fun _ U o U' => ∃ v L, o = .returned v ∧ Q5 Z a0 h0 n0 v U'.heap L ∧ FrameEnd U o U' L ({ frames := 1, cells := 0, slots := 0, locals := 12 } : Room).cells ({ frames := 1, cells := 0, slots := 0, locals := 12 } : Room).slots) := by
  refine MetFree.of_bodySF (plainFor_of_name pn_4) hisR ?_
  intro p e s m args below meth c s₁ Bd hml0 hP hK
  obtain ⟨rfl, hZ, hh⟩ := hP
  have hx := Bd.exec
  have hby := Bd.bytes
  have hml : c.maxLocals = 1 := hml0
  have hown : s.vm.findClass "java/util/AbstractCollection" = some m.cls := findClass_of_methodNamed Bd.named
  have hnm := (name_of_methodNamed Bd.named Bd.method).1
  have X0 : Stand p l e ({ frames := 1, cells := 0, slots := 0, locals := 12 } : Room) s m #[(.ref a0)] below meth c s₁ [] 0 0 := Stand.of_body Bd
  have e0 : s₁.heap = h0 := by rw [← hh, Bd.state]; rfl
  have N0 := Fr.nil n0
  have pre0 : ∀ t, Steps p.tables e below (s₁.setTop (mkF m 0 #[.val (.ref a0)] [])) t → Steps p.tables e below (s₁.setTop (entryFrame m #[(.ref a0)] 1)) t := fun t k => castTop (ef_5 m a0) k
  have pre1 : ∀ t, Steps p.tables e below (s₁.setTop (mkF m 1 #[.val (.ref a0)] [(.ref a0)])) t → Steps p.tables e below (s₁.setTop (entryFrame m #[(.ref a0)] 1)) t := fun t k => pre0 t (by
    show Steps p.tables e below (s₁.setTop (mkF m 0 #[.val (.ref a0)] [])) _
    refine XS.aloadN X0.here hx rfl (hb hby d5_0) rfl rfl ?_
    exact k)
  obtain ⟨T2, X2, e2, st2⟩ := initO X0 hx hZ hown (hw _ (List.mem_of_getElem? (i := 27) rfl)) (hw _ (List.mem_of_getElem? (i := 7) rfl)) (hw _ (List.mem_of_getElem? (i := 8) rfl)) e0 (g := (mkF m 1 #[.val (.ref a0)] [(.ref a0)])) rfl (by rw [hml]; rfl) rfl (hb hby d5_1) (by decide) (W := 0) (by show 2 * 0 + _ ≤ _; exact Nat.le_of_eq rfl) (by decide)
  obtain ⟨fs, hr, hrun, hended, hW, hsame⟩ := X2.leave (v := none) (fun _ => rfl)
  refine ⟨_, _, pre1 _ ?_, hrun, hended, _, _, rfl, ?_, ⟨_, rfl⟩, hW, hsame.mono (by decide) (by decide)⟩
  · show Steps p.tables e below (s₁.setTop (mkF m 1 #[.val (.ref a0)] [(.ref a0)])) _
    refine st2 _ ?_
    show Steps p.tables e below (T2.setTop (mkF m 4 #[.val (.ref a0)] [])) _
    exact X2.returnOut hx Bd.returns (hb hby d5_4) hr
  · show Q5 Z a0 h0 n0 _ T2.heap _
    rw [e2]
    exact ⟨rfl, N0, rfl⟩
theorem pn_5 : plainName "java/util/AbstractList" = true := by first | (simp [plainName, overriddenIn]; done) | decide +kernel
theorem d4_0 : decode jdk_39_method_1_code 0 = .ok (.aload_n 0, 1) := by decide +kernel
theorem pd_0 : parseMethodDescriptor "()V" = some ⟨[], none⟩ := by decide +kernel
theorem d4_1 : decode jdk_39_method_1_code 1 = .ok (.invokespecial 1, 3) := by decide +kernel
theorem d4_4 : decode jdk_39_method_1_code 4 = .ok (.aload_n 0, 1) := by decide +kernel
theorem d4_5 : decode jdk_39_method_1_code 5 = .ok (.iconst 0, 1) := by decide +kernel
theorem d4_6 : decode jdk_39_method_1_code 6 = .ok (.putfield 7, 3) := by decide +kernel
theorem ef_4 (m : MethodId) (x0 : Addr) : entryFrame m #[(.ref x0)] 1 = mkF m 0 #[.val (.ref x0)] [] := by first | (simp [entryFrame, mkF, argsToLocals, Value.category]; done) | rfl
def f4_a0_elementData (u_elementData_a0 : Value) (w_size_a0 : Int32) : Value := u_elementData_a0
def f4_a0_size (u_elementData_a0 : Value) (w_size_a0 : Int32) : Int32 := w_size_a0
def f4_a0_modCount (u_elementData_a0 : Value) (w_size_a0 : Int32) : Int32 := (0 : Int32)
def Q4 (Z : State) (a0 : Addr) (u_elementData_a0 : Value) (w_size_a0 : Int32) (u_modCount_a0 : Value) (h0 : Heap) (n0 : Nat) (v : Option Value) (h : Heap) (L : List Loc) : Prop := v = none ∧ Fr n0 L ∧ Keep h0 h [a0] ∧ Exa Z h a0 "java/util/ArrayList" ∧ Fld Z h a0 "java/util/ArrayList" "elementData" "[Ljava/lang/Object;" (f4_a0_elementData u_elementData_a0 w_size_a0) ∧ Fld Z h a0 "java/util/ArrayList" "size" "I" (.int (f4_a0_size u_elementData_a0 w_size_a0)) ∧ Fld Z h a0 "java/util/AbstractList" "modCount" "I" (.int (f4_a0_modCount u_elementData_a0 w_size_a0))
theorem d4_9 : decode jdk_39_method_1_code 9 = .ok (.return_, 1) := by decide +kernel
set_option maxRecDepth 65536 in
set_option maxHeartbeats 40000000 in
theorem rm4 (l : Launch) (Z : State) (aw : Array Value) (hw : ∀ d ∈ tables_1, d.before aw Z = true) (ws : List Jvm.Cond) (a0 : Addr) (u_elementData_a0 : Value) (w_size_a0 : Int32) (u_modCount_a0 : Value) (h0 : Heap) (n0 : Nat) (Z0 : n0 ≤ h0.size) (E_a0 : Exa Z h0 a0 "java/util/ArrayList") (F_elementData_a0 : Fld Z h0 a0 "java/util/ArrayList" "elementData" "[Ljava/lang/Object;" u_elementData_a0) (F_size_a0 : Fld Z h0 a0 "java/util/ArrayList" "size" "I" (.int w_size_a0)) (F_modCount_a0 : Fld Z h0 a0 "java/util/AbstractList" "modCount" "I" u_modCount_a0) (g_a0 : n0 ≤ a0) :
    MetFree l (⟨"java/util/AbstractList", "<init>", "()V"⟩ : MethodName) (head1 (Jvm.Cond.code (⟨"java/util/AbstractList", "<init>", "()V"⟩ : MethodName) jdk_39_method_1_code 1 none :: ws) ({ frames := 2, cells := 0, slots := 0, locals := 24 } : Room)) (fun a U => a = #[(.ref a0)] ∧ Z.Warmed39 U.vm ∧ U.heap = h0) (fun _ _ _ _ _ => True) (fun _ U o U' => ∃ v L, o = .returned v ∧ Q4 Z a0 u_elementData_a0 w_size_a0 u_modCount_a0 h0 n0 v U'.heap L ∧ FrameEnd U o U' L ({ frames := 2, cells := 0, slots := 0, locals := 24 } : Room).cells ({ frames := 2, cells := 0, slots := 0, locals := 24 } : Room).slots) := by
  refine MetFree.of_bodySF (plainFor_of_name pn_5) hisR ?_
  intro p e s m args below meth c s₁ Bd hml0 hP hK
  obtain ⟨rfl, hZ, hh⟩ := hP
  have hx := Bd.exec
  have hby := Bd.bytes
  have hml : c.maxLocals = 1 := hml0
  have hown : s.vm.findClass "java/util/AbstractList" = some m.cls := findClass_of_methodNamed Bd.named
  have hnm := (name_of_methodNamed Bd.named Bd.method).1
  have X0 : Stand p l e ({ frames := 2, cells := 0, slots := 0, locals := 24 } : Room) s m #[(.ref a0)] below meth c s₁ [] 0 0 := Stand.of_body Bd
  have e0 : s₁.heap = h0 := by rw [← hh, Bd.state]; rfl
  have N0 := Fr.nil n0
  have pre0 : ∀ t, Steps p.tables e below (s₁.setTop (mkF m 0 #[.val (.ref a0)] [])) t → Steps p.tables e below (s₁.setTop (entryFrame m #[(.ref a0)] 1)) t := fun t k => castTop (ef_4 m a0) k
  have pre1 : ∀ t, Steps p.tables e below (s₁.setTop (mkF m 1 #[.val (.ref a0)] [(.ref a0)])) t → Steps p.tables e below (s₁.setTop (entryFrame m #[(.ref a0)] 1)) t := fun t k => pre0 t (by
    show Steps p.tables e below (s₁.setTop (mkF m 0 #[.val (.ref a0)] [])) _
    refine XS.aloadN X0.here hx rfl (hb hby d4_0) rfl rfl ?_
    exact k)
  obtain ⟨_, _, ⟨T2, L2, k2, n2⟩, -, X2, ⟨Lc2, hQ2, l2, y2, z2⟩, st2⟩ := X0.specialBack hx (y := (⟨"java/util/AbstractCollection", "<init>", "()V"⟩ : MethodName)) rfl hown (mvT hZ (hw _ (List.mem_of_getElem? (i := 21) rfl))) (mvT hZ (hw _ (List.mem_of_getElem? (i := 22) rfl))) (mvT hZ (hw _ (List.mem_of_getElem? (i := 26) rfl))) (by decide) (backOf (W := 0) (rm5 l Z aw hw [] a0 h0 n0 Z0) hZ (hw _ (List.mem_of_getElem? (i := 26) rfl)) (hw _ (List.mem_of_getElem? (i := 25) rfl)) (by decide) (by decide)) (g := (mkF m 1 #[.val (.ref a0)] [(.ref a0)])) rfl (by rw [hml]; rfl) (Steps.refl _) (a := a0) (argsL := []) (rest := []) (lenOf pd_0 rfl) rfl (by show 2 * 0 + _ ≤ _; exact Nat.le_of_eq rfl) (hb hby d4_1) (fun _ _ => ⟨rfl, e0, (by decide : 0 + 0 ≤ _), (by decide : 0 + 0 ≤ _)⟩)
  dsimp only [Pt.U, Pt.locs, Pt.cells, Pt.slots] at X2 l2 y2 z2 st2 hQ2
  subst l2 y2 z2
  obtain ⟨rfl, N2q, e2⟩ := hQ2
  have N2 := Fr.app N0 N2q
  have pre3 : ∀ t, Steps p.tables e below (T2.setTop (mkF m 6 #[.val (.ref a0)] [(.int (0 : Int32)), (.ref a0)])) t → Steps p.tables e below (s₁.setTop (entryFrame m #[(.ref a0)] 1)) t := fun t k => pre1 t (by
    show Steps p.tables e below (s₁.setTop (mkF m 1 #[.val (.ref a0)] [(.ref a0)])) _
    refine st2.trans ?_
    show Steps p.tables e below (T2.setTop (mkF m 4 #[.val (.ref a0)] [])) _
    refine XS.aloadN X2.here hx rfl (hb hby d4_4) rfl rfl ?_
    show Steps p.tables e below (T2.setTop (mkF m 5 #[.val (.ref a0)] [(.ref a0)])) _
    refine XS.iconst X2.here hx rfl (hb hby d4_5) ?_
    exact k)
  obtain ⟨T4, h4, X4, e4, W4, st4⟩ := putF X2 hx hZ hown (host := "") (Or.inl (hw _ (List.mem_of_getElem? (i := 28) rfl))) Via.refl e2 F_modCount_a0 E_a0 (Or.inl (hw _ (List.mem_of_getElem? (i := 29) rfl))) (hw _ (List.mem_of_getElem? (i := 10) rfl)) (ty := .int) (by decide) rfl rfl (g := (mkF m 6 #[.val (.ref a0)] [(.int (0 : Int32)), (.ref a0)])) rfl rfl (hb hby d4_6)
  have E_a0_4 := E_a0.wr W4
  have F_elementData_a0_4 := F_elementData_a0.other W4 (Or.inr (slot_ne (Or.inl (hw _ (List.mem_of_getElem? (i := 32) rfl))) (Or.inl (hw _ (List.mem_of_getElem? (i := 29) rfl))) (by decide) (t := (.array (.object "java/lang/Object"))) (t' := .int) (by decide) (by decide)))
  have F_size_a0_4 := F_size_a0.other W4 (Or.inr (slot_ne (Or.inl (hw _ (List.mem_of_getElem? (i := 62) rfl))) (Or.inl (hw _ (List.mem_of_getElem? (i := 29) rfl))) (by decide) (t := .int) (t' := .int) (by decide) (by decide)))
  have F_modCount_a0_4 := F_modCount_a0.same W4
  have K4 : Keep h0 h4 [a0] := (Keep.refl h0 [a0]).wr W4 (Or.inl (by simp))
  have N4 := Fr.snoc X4 N2 g_a0
  have Z4 : n0 ≤ h4.size := (Nat.le_trans Z0 (Nat.le_of_eq W4.size.symm))
  obtain ⟨fs, hr, hrun, hended, hW, hsame⟩ := X4.leave (v := none) (fun _ => rfl)
  refine ⟨_, _, pre3 _ ?_, hrun, hended, _, _, rfl, ?_, ⟨_, rfl⟩, hW, hsame.mono (by decide) (by decide)⟩
  · show Steps p.tables e below (T2.setTop (mkF m 6 #[.val (.ref a0)] [(.int (0 : Int32)), (.ref a0)])) _
    refine st4 _ ?_
    show Steps p.tables e below (T4.setTop (mkF m 9 #[.val (.ref a0)] [])) _
    exact X4.returnOut hx Bd.returns (hb hby d4_9) hr
  · show Q4 Z a0 u_elementData_a0 w_size_a0 u_modCount_a0 h0 n0 _ T4.heap _
    rw [e4]
    have hF_a0_elementData : u_elementData_a0 = f4_a0_elementData u_elementData_a0 w_size_a0 := (by rfl)
    have hF_a0_size : w_size_a0 = f4_a0_size u_elementData_a0 w_size_a0 := (by rfl)
    have hF_a0_modCount : (0 : Int32) = f4_a0_modCount u_elementData_a0 w_size_a0 := (by rfl)
    exact ⟨rfl, N4, K4, E_a0_4, (hF_a0_elementData ▸ F_elementData_a0_4), (hF_a0_size ▸ F_size_a0_4), (hF_a0_modCount ▸ F_modCount_a0_4)⟩
theorem pn_6 : plainName "java/util/ArrayList" = true := by first | (simp [plainName, overriddenIn]; done) | decide +kernel
theorem d3_0 : decode jdk_38_method_2_code 0 = .ok (.aload_n 0, 1) := by decide +kernel
theorem d3_1 : decode jdk_38_method_2_code 1 = .ok (.invokespecial 1, 3) := by decide +kernel
theorem d3_4 : decode jdk_38_method_2_code 4 = .ok (.aload_n 0, 1) := by decide +kernel
theorem d3_5 : decode jdk_38_method_2_code 5 = .ok (.getstatic 39, 3) := by decide +kernel
theorem d3_8 : decode jdk_38_method_2_code 8 = .ok (.putfield 9, 3) := by decide +kernel
theorem ef_3 (m : MethodId) (x0 : Addr) : entryFrame m #[(.ref x0)] 1 = mkF m 0 #[.val (.ref x0)] [] := by first | (simp [entryFrame, mkF, argsToLocals, Value.category]; done) | rfl
def f3_a0_size (w_size_a0 : Int32) (w_DEFAULTCAPACITY_EMPTY_ELEMENTDATA : Addr) : Int32 := w_size_a0
def f3_a0_elementData (w_size_a0 : Int32) (w_DEFAULTCAPACITY_EMPTY_ELEMENTDATA : Addr) : Addr := w_DEFAULTCAPACITY_EMPTY_ELEMENTDATA
def f3_a0_modCount (w_size_a0 : Int32) (w_DEFAULTCAPACITY_EMPTY_ELEMENTDATA : Addr) : Int32 := (0 : Int32)
def Q3 (Z : State) (a0 : Addr) (w_size_a0 : Int32) (u_elementData_a0 : Value) (u_modCount_a0 : Value) (w_DEFAULTCAPACITY_EMPTY_ELEMENTDATA : Addr) (h0 : Heap) (n0 : Nat) (v : Option Value) (h : Heap) (L : List Loc) : Prop := v = none ∧ Fr n0 L ∧ Keep h0 h [a0] ∧ Exa Z h a0 "java/util/ArrayList" ∧ Fld Z h a0 "java/util/ArrayList" "size" "I" (.int (f3_a0_size w_size_a0 w_DEFAULTCAPACITY_EMPTY_ELEMENTDATA)) ∧ Fld Z h a0 "java/util/ArrayList" "elementData" "[Ljava/lang/Object;" (.ref (f3_a0_elementData w_size_a0 w_DEFAULTCAPACITY_EMPTY_ELEMENTDATA)) ∧ Fld Z h a0 "java/util/AbstractList" "modCount" "I" (.int (f3_a0_modCount w_size_a0 w_DEFAULTCAPACITY_EMPTY_ELEMENTDATA))
theorem d3_11 : decode jdk_38_method_2_code 11 = .ok (.return_, 1) := by decide +kernel
set_option maxRecDepth 65536 in
set_option maxHeartbeats 40000000 in
theorem rm3 (l : Launch) (Z : State) (aw : Array Value) (hw : ∀ d ∈ tables_1, d.before aw Z = true) (ws : List Jvm.Cond) (a0 : Addr) (w_size_a0 : Int32) (u_elementData_a0 : Value) (u_modCount_a0 : Value) (w_DEFAULTCAPACITY_EMPTY_ELEMENTDATA : Addr) (h0 : Heap) (n0 : Nat) (Z0 : n0 ≤ h0.size) (E_a0 : Exa Z h0 a0 "java/util/ArrayList") (F_size_a0 : Fld Z h0 a0 "java/util/ArrayList" "size" "I" (.int w_size_a0)) (F_elementData_a0 : Fld Z h0 a0 "java/util/ArrayList" "elementData" "[Ljava/lang/Object;" u_elementData_a0) (F_modCount_a0 : Fld Z h0 a0 "java/util/AbstractList" "modCount" "I" u_modCount_a0) (g_a0 : n0 ≤ a0) (S_DEFAULTCAPACITY_EMPTY_ELEMENTDATA : Sta Z h0 "java/util/ArrayList" "DEFAULTCAPACITY_EMPTY_ELEMENTDATA" "[Ljava/lang/Object;" (.ref w_DEFAULTCAPACITY_EMPTY_ELEMENTDATA)) :
    MetFree l (⟨"java/util/ArrayList", "<init>", "()V"⟩ : MethodName) (head1 (Jvm.Cond.code (⟨"java/util/ArrayList", "<init>", "()V"⟩ : MethodName) jdk_38_method_2_code 1 none :: ws) ({ frames := 3, cells := 0, slots := 0, locals := 36 } : Room)) (fun a U => a = #[(.ref a0)] ∧ Z.Warmed39 U.vm ∧ U.heap = h0) (fun _ _ _ _ _ => True) (fun _ U o U' => ∃ v L, o = .returned v ∧ Q3 Z a0 w_size_a0 u_elementData_a0 u_modCount_a0 w_DEFAULTCAPACITY_EMPTY_ELEMENTDATA h0 n0 v U'.heap L ∧ FrameEnd U o U' L ({ frames := 3, cells := 0, slots := 0, locals := 36 } : Room).cells ({ frames := 3, cells := 0, slots := 0, locals := 36 } : Room).slots) := by
  refine MetFree.of_bodySF (plainFor_of_name pn_6) hisR ?_
  intro p e s m args below meth c s₁ Bd hml0 hP hK
  obtain ⟨rfl, hZ, hh⟩ := hP
  have hx := Bd.exec
  have hby := Bd.bytes
  have hml : c.maxLocals = 1 := hml0
  have hown : s.vm.findClass "java/util/ArrayList" = some m.cls := findClass_of_methodNamed Bd.named
  have hnm := (name_of_methodNamed Bd.named Bd.method).1
  have X0 : Stand p l e ({ frames := 3, cells := 0, slots := 0, locals := 36 } : Room) s m #[(.ref a0)] below meth c s₁ [] 0 0 := Stand.of_body Bd
  have e0 : s₁.heap = h0 := by rw [← hh, Bd.state]; rfl
  have N0 := Fr.nil n0
  have pre0 : ∀ t, Steps p.tables e below (s₁.setTop (mkF m 0 #[.val (.ref a0)] [])) t → Steps p.tables e below (s₁.setTop (entryFrame m #[(.ref a0)] 1)) t := fun t k => castTop (ef_3 m a0) k
  have pre1 : ∀ t, Steps p.tables e below (s₁.setTop (mkF m 1 #[.val (.ref a0)] [(.ref a0)])) t → Steps p.tables e below (s₁.setTop (entryFrame m #[(.ref a0)] 1)) t := fun t k => pre0 t (by
    show Steps p.tables e below (s₁.setTop (mkF m 0 #[.val (.ref a0)] [])) _
    refine XS.aloadN X0.here hx rfl (hb hby d3_0) rfl rfl ?_
    exact k)
  obtain ⟨_, _, ⟨T2, L2, k2, n2⟩, -, X2, ⟨Lc2, hQ2, l2, y2, z2⟩, st2⟩ := X0.specialBack hx (y := (⟨"java/util/AbstractList", "<init>", "()V"⟩ : MethodName)) rfl hown (mvT hZ (hw _ (List.mem_of_getElem? (i := 15) rfl))) (mvT hZ (hw _ (List.mem_of_getElem? (i := 16) rfl))) (mvT hZ (hw _ (List.mem_of_getElem? (i := 20) rfl))) (by decide) (backOf (W := 0) (rm4 l Z aw hw [] a0 u_elementData_a0 w_size_a0 u_modCount_a0 h0 n0 Z0 E_a0 F_elementData_a0 F_size_a0 F_modCount_a0 g_a0) hZ (hw _ (List.mem_of_getElem? (i := 20) rfl)) (hw _ (List.mem_of_getElem? (i := 19) rfl)) (by decide) (by decide)) (g := (mkF m 1 #[.val (.ref a0)] [(.ref a0)])) rfl (by rw [hml]; rfl) (Steps.refl _) (a := a0) (argsL := []) (rest := []) (lenOf pd_0 rfl) rfl (by show 2 * 0 + _ ≤ _; exact Nat.le_of_eq rfl) (hb hby d3_1) (fun _ _ => ⟨rfl, e0, (by decide : 0 + 0 ≤ _), (by decide : 0 + 0 ≤ _)⟩)
  dsimp only [Pt.U, Pt.locs, Pt.cells, Pt.slots] at X2 l2 y2 z2 st2 hQ2
  subst l2 y2 z2
  obtain ⟨rfl, N2q, K2q, E2_a0, F2_a0_elementData, F2_a0_size, F2_a0_modCount⟩ := hQ2
  have N2 := Fr.app N0 N2q
  have E_a0_2 := E_a0.keep K2q
  have S_DEFAULTCAPACITY_EMPTY_ELEMENTDATA_2 := own_sta_keep S_DEFAULTCAPACITY_EMPTY_ELEMENTDATA K2q (allS (own_exa_plain E_a0) all0)
  have F2_a0_elementData' : Fld Z T2.heap a0 "java/util/ArrayList" "elementData" "[Ljava/lang/Object;" u_elementData_a0 := F2_a0_elementData
  have F2_a0_size' : Fld Z T2.heap a0 "java/util/ArrayList" "size" "I" (.int w_size_a0) := F2_a0_size
  have F2_a0_modCount' : Fld Z T2.heap a0 "java/util/AbstractList" "modCount" "I" (.int (0 : Int32)) := F2_a0_modCount
  have K2 : Keep h0 T2.heap [a0] := (Keep.refl h0 [a0]).trans K2q (allS (Or.inl (by simp)) all0)
  have Z2 : n0 ≤ T2.heap.size := Nat.le_trans Z0 K2q.1
  have pre3 : ∀ t, Steps p.tables e below (T2.setTop (mkF m 5 #[.val (.ref a0)] [(.ref a0)])) t → Steps p.tables e below (s₁.setTop (entryFrame m #[(.ref a0)] 1)) t := fun t k => pre1 t (by
    show Steps p.tables e below (s₁.setTop (mkF m 1 #[.val (.ref a0)] [(.ref a0)])) _
    refine st2.trans ?_
    show Steps p.tables e below (T2.setTop (mkF m 4 #[.val (.ref a0)] [])) _
    refine XS.aloadN X2.here hx rfl (hb hby d3_4) rfl rfl ?_
    exact k)
  obtain ⟨T4, X4, e4, st4⟩ := getS2 X2 hx hZ hown (host := "") (Or.inl (hw _ (List.mem_of_getElem? (i := 30) rfl))) Via.refl rfl S_DEFAULTCAPACITY_EMPTY_ELEMENTDATA_2 (g := (mkF m 5 #[.val (.ref a0)] [(.ref a0)])) rfl (hb hby d3_5)
  have pre5 : ∀ t, Steps p.tables e below (T4.setTop (mkF m 8 #[.val (.ref a0)] [(.ref w_DEFAULTCAPACITY_EMPTY_ELEMENTDATA), (.ref a0)])) t → Steps p.tables e below (s₁.setTop (entryFrame m #[(.ref a0)] 1)) t := fun t k => pre3 t (by
    show Steps p.tables e below (T2.setTop (mkF m 5 #[.val (.ref a0)] [(.ref a0)])) _
    refine st4 _ ?_
    exact k)
  obtain ⟨T6, h6, X6, e6, W6, st6⟩ := putF X4 hx hZ hown (host := "") (Or.inl (hw _ (List.mem_of_getElem? (i := 31) rfl))) Via.refl e4 F2_a0_elementData' E_a0_2 (Or.inl (hw _ (List.mem_of_getElem? (i := 32) rfl))) (hw _ (List.mem_of_getElem? (i := 10) rfl)) (ty := (.array (.object "java/lang/Object"))) (by decide) rfl rfl (g := (mkF m 8 #[.val (.ref a0)] [(.ref w_DEFAULTCAPACITY_EMPTY_ELEMENTDATA), (.ref a0)])) rfl rfl (hb hby d3_8)
  have E_a0_6 := E_a0_2.wr W6
  have F2_a0_size'_6 := F2_a0_size'.other W6 (Or.inr (slot_ne (Or.inl (hw _ (List.mem_of_getElem? (i := 62) rfl))) (Or.inl (hw _ (List.mem_of_getElem? (i := 32) rfl))) (by decide) (t := .int) (t' := (.array (.object "java/lang/Object"))) (by decide) (by decide)))
  have F2_a0_elementData'_6 := F2_a0_elementData'.same W6
  have F2_a0_modCount'_6 := F2_a0_modCount'.other W6 (Or.inr (slot_ne (Or.inl (hw _ (List.mem_of_getElem? (i := 29) rfl))) (Or.inl (hw _ (List.mem_of_getElem? (i := 32) rfl))) (by decide) (t := .int) (t' := (.array (.object "java/lang/Object"))) (by decide) (by decide)))
  have S_DEFAULTCAPACITY_EMPTY_ELEMENTDATA_6 := S_DEFAULTCAPACITY_EMPTY_ELEMENTDATA_2.wr W6
  have K6 : Keep h0 h6 [a0] := K2.wr W6 (Or.inl (by simp))
  have N6 := Fr.snoc X6 N2 g_a0
  have Z6 : n0 ≤ h6.size := (Nat.le_trans Z2 (Nat.le_of_eq W6.size.symm))
  obtain ⟨fs, hr, hrun, hended, hW, hsame⟩ := X6.leave (v := none) (fun _ => rfl)
  refine ⟨_, _, pre5 _ ?_, hrun, hended, _, _, rfl, ?_, ⟨_, rfl⟩, hW, hsame.mono (by decide) (by decide)⟩
  · show Steps p.tables e below (T4.setTop (mkF m 8 #[.val (.ref a0)] [(.ref w_DEFAULTCAPACITY_EMPTY_ELEMENTDATA), (.ref a0)])) _
    refine st6 _ ?_
    show Steps p.tables e below (T6.setTop (mkF m 11 #[.val (.ref a0)] [])) _
    exact X6.returnOut hx Bd.returns (hb hby d3_11) hr
  · show Q3 Z a0 w_size_a0 u_elementData_a0 u_modCount_a0 w_DEFAULTCAPACITY_EMPTY_ELEMENTDATA h0 n0 _ T6.heap _
    rw [e6]
    have hF_a0_size : w_size_a0 = f3_a0_size w_size_a0 w_DEFAULTCAPACITY_EMPTY_ELEMENTDATA := (by rfl)
    have hF_a0_elementData : w_DEFAULTCAPACITY_EMPTY_ELEMENTDATA = f3_a0_elementData w_size_a0 w_DEFAULTCAPACITY_EMPTY_ELEMENTDATA := (by rfl)
    have hF_a0_modCount : (0 : Int32) = f3_a0_modCount w_size_a0 w_DEFAULTCAPACITY_EMPTY_ELEMENTDATA := (by rfl)
    exact ⟨rfl, N6, K6, E_a0_6, (hF_a0_size ▸ F2_a0_size'_6), (hF_a0_elementData ▸ F2_a0_elementData'_6), (hF_a0_modCount ▸ F2_a0_modCount'_6)⟩
theorem pn_0 : plainName "com/example/prune_to_fit/prunetofit/sat/Cnf" = true := by first | (simp [plainName, overriddenIn]; done) | decide +kernel
theorem d1_0 : decode prog_40_method_1_code 0 = .ok (.aload_n 0, 1) := by decide +kernel
theorem d1_1 : decode prog_40_method_1_code 1 = .ok (.invokespecial 5, 3) := by decide +kernel
theorem d1_4 : decode prog_40_method_1_code 4 = .ok (.aload_n 0, 1) := by decide +kernel
theorem d1_5 : decode prog_40_method_1_code 5 = .ok (.new 11, 3) := by decide +kernel
theorem d1_8 : decode prog_40_method_1_code 8 = .ok (.dup, 1) := by decide +kernel
theorem d1_9 : decode prog_40_method_1_code 9 = .ok (.invokespecial 13, 3) := by decide +kernel
theorem d1_12 : decode prog_40_method_1_code 12 = .ok (.putfield 14, 3) := by decide +kernel
theorem ef_1 (m : MethodId) (x0 : Addr) : entryFrame m #[(.ref x0)] 1 = mkF m 0 #[.val (.ref x0)] [] := by first | (simp [entryFrame, mkF, argsToLocals, Value.category]; done) | rfl
def f1_a0_variables (w_variables_a0 : Int32) (w_literals_a0 : Int32) : Int32 := w_variables_a0
def f1_a0_literals (w_variables_a0 : Int32) (w_literals_a0 : Int32) : Int32 := w_literals_a0
def Q1 (Z : State) (a0 : Addr) (w_variables_a0 : Int32) (w_literals_a0 : Int32) (w_DEFAULTCAPACITY_EMPTY_ELEMENTDATA : Addr) (u_clauses_a0 : Value) (h0 : Heap) (n0 : Nat) (v : Option Value) (h : Heap) (L : List Loc) : Prop := v = none ∧ Fr n0 L ∧ Keep h0 h [a0] ∧ Exa Z h a0 "com/example/prune_to_fit/prunetofit/sat/Cnf" ∧ Fld Z h a0 "com/example/prune_to_fit/prunetofit/sat/Cnf" "variables" "I" (.int (f1_a0_variables w_variables_a0 w_literals_a0)) ∧ Fld Z h a0 "com/example/prune_to_fit/prunetofit/sat/Cnf" "literals" "I" (.int (f1_a0_literals w_variables_a0 w_literals_a0)) ∧ Fld Z h a0 "com/example/prune_to_fit/prunetofit/sat/Cnf" "clauses" "Ljava/util/List;" (.ref h0.size) ∧ Exa Z h h0.size "java/util/ArrayList" ∧ Fld Z h h0.size "java/util/AbstractList" "modCount" "I" (.int (0 : Int32)) ∧ Fld Z h h0.size "java/util/ArrayList" "elementData" "[Ljava/lang/Object;" (.ref w_DEFAULTCAPACITY_EMPTY_ELEMENTDATA) ∧ Fld Z h h0.size "java/util/ArrayList" "size" "I" (.int (0 : Int32))
theorem d1_15 : decode prog_40_method_1_code 15 = .ok (.return_, 1) := by decide +kernel
set_option maxRecDepth 65536 in
set_option maxHeartbeats 40000000 in
theorem rm1 (l : Launch) (Z : State) (aw : Array Value) (hw : ∀ d ∈ tables_1, d.before aw Z = true) (ws : List Jvm.Cond) (a0 : Addr) (w_variables_a0 : Int32) (w_literals_a0 : Int32) (w_DEFAULTCAPACITY_EMPTY_ELEMENTDATA : Addr) (u_clauses_a0 : Value) (h0 : Heap) (n0 : Nat) (Z0 : n0 ≤ h0.size) (E_a0 : Exa Z h0 a0 "com/example/prune_to_fit/prunetofit/sat/Cnf") (F_variables_a0 : Fld Z h0 a0 "com/example/prune_to_fit/prunetofit/sat/Cnf" "variables" "I" (.int w_variables_a0)) (F_literals_a0 : Fld Z h0 a0 "com/example/prune_to_fit/prunetofit/sat/Cnf" "literals" "I" (.int w_literals_a0)) (S_DEFAULTCAPACITY_EMPTY_ELEMENTDATA : Sta Z h0 "java/util/ArrayList" "DEFAULTCAPACITY_EMPTY_ELEMENTDATA" "[Ljava/lang/Object;" (.ref w_DEFAULTCAPACITY_EMPTY_ELEMENTDATA)) (F_clauses_a0 : Fld Z h0 a0 "com/example/prune_to_fit/prunetofit/sat/Cnf" "clauses" "Ljava/util/List;" u_clauses_a0) (g_a0 : n0 ≤ a0) :
    MetFree l (⟨"com/example/prune_to_fit/prunetofit/sat/Cnf", "<init>", "()V"⟩ : MethodName) (head1 (Jvm.Cond.code (⟨"com/example/prune_to_fit/prunetofit/sat/Cnf", "<init>", "()V"⟩ : MethodName) prog_40_method_1_code 1 none :: ws) ({ frames := 4, cells := 1, slots := 3, locals := 50 } : Room)) (fun a U => a = #[(.ref a0)] ∧ Z.Warmed39 U.vm ∧ U.heap = h0) (fun _ _ _ _ _ => True) (fun _ U o U' => ∃ v L, o = .returned v ∧ Q1 Z a0 w_variables_a0 w_literals_a0 w_DEFAULTCAPACITY_EMPTY_ELEMENTDATA u_clauses_a0 h0 n0 v U'.heap L ∧ FrameEnd U o U' L ({ frames := 4, cells := 1, slots := 3, locals := 50 } : Room).cells ({ frames := 4, cells := 1, slots := 3, locals := 50 } : Room).slots) := by
  refine MetFree.of_bodySF (plainFor_of_name pn_0) hisR ?_
  intro p e s m args below meth c s₁ Bd hml0 hP hK
  obtain ⟨rfl, hZ, hh⟩ := hP
  have hx := Bd.exec
  have hby := Bd.bytes
  have hml : c.maxLocals = 1 := hml0
  have hown : s.vm.findClass "com/example/prune_to_fit/prunetofit/sat/Cnf" = some m.cls := findClass_of_methodNamed Bd.named
  have hnm := (name_of_methodNamed Bd.named Bd.method).1
  have X0 : Stand p l e ({ frames := 4, cells := 1, slots := 3, locals := 50 } : Room) s m #[(.ref a0)] below meth c s₁ [] 0 0 := Stand.of_body Bd
  have e0 : s₁.heap = h0 := by rw [← hh, Bd.state]; rfl
  have N0 := Fr.nil n0
  have pre0 : ∀ t, Steps p.tables e below (s₁.setTop (mkF m 0 #[.val (.ref a0)] [])) t → Steps p.tables e below (s₁.setTop (entryFrame m #[(.ref a0)] 1)) t := fun t k => castTop (ef_1 m a0) k
  have pre1 : ∀ t, Steps p.tables e below (s₁.setTop (mkF m 1 #[.val (.ref a0)] [(.ref a0)])) t → Steps p.tables e below (s₁.setTop (entryFrame m #[(.ref a0)] 1)) t := fun t k => pre0 t (by
    show Steps p.tables e below (s₁.setTop (mkF m 0 #[.val (.ref a0)] [])) _
    refine XS.aloadN X0.here hx rfl (hb hby d1_0) rfl rfl ?_
    exact k)
  obtain ⟨T2, X2, e2, st2⟩ := initO X0 hx hZ hown (hw _ (List.mem_of_getElem? (i := 6) rfl)) (hw _ (List.mem_of_getElem? (i := 7) rfl)) (hw _ (List.mem_of_getElem? (i := 8) rfl)) e0 (g := (mkF m 1 #[.val (.ref a0)] [(.ref a0)])) rfl (by rw [hml]; rfl) rfl (hb hby d1_1) (by decide) (W := 0) (by show 2 * 0 + _ ≤ _; exact Nat.le_of_eq rfl) (by decide)
  have pre3 : ∀ t, Steps p.tables e below (T2.setTop (mkF m 5 #[.val (.ref a0)] [(.ref a0)])) t → Steps p.tables e below (s₁.setTop (entryFrame m #[(.ref a0)] 1)) t := fun t k => pre1 t (by
    show Steps p.tables e below (s₁.setTop (mkF m 1 #[.val (.ref a0)] [(.ref a0)])) _
    refine st2 _ ?_
    show Steps p.tables e below (T2.setTop (mkF m 4 #[.val (.ref a0)] [])) _
    refine XS.aloadN X2.here hx rfl (hb hby d1_4) rfl rfl ?_
    exact k)
  obtain ⟨T4, h4, X4, e4, E4, A4, D4, -, st4⟩ := newO X2 hx hZ hown (hw _ (List.mem_of_getElem? (i := 9) rfl)) (hw _ (List.mem_of_getElem? (i := 10) rfl)) (hw _ (List.mem_of_getElem? (i := 11) rfl)) e2 (g := (mkF m 5 #[.val (.ref a0)] [(.ref a0)])) rfl (hb hby d1_5) (by decide) (by decide)
  obtain ⟨b4, g4⟩ : ∃ z, z = h0.size := ⟨_, rfl⟩
  have ne_a0_b4 : a0 ≠ b4 := Nat.ne_of_lt (Nat.lt_of_lt_of_le E_a0.lt (Nat.le_of_eq g4.symm))
  have g_b4 : n0 ≤ b4 := Nat.le_trans Z0 (Nat.le_of_eq g4.symm)
  have sz_b4 : h0.size ≤ b4 := Nat.le_trans (Keep.refl h0 [a0]).1 (Nat.le_of_eq g4.symm)
  rw [← g4] at A4 D4 st4
  have E_a0_4 := E_a0.ext E4
  have F_variables_a0_4 := F_variables_a0.ext E4
  have F_literals_a0_4 := F_literals_a0.ext E4
  have S_DEFAULTCAPACITY_EMPTY_ELEMENTDATA_4 := S_DEFAULTCAPACITY_EMPTY_ELEMENTDATA.ext E4
  have F_clauses_a0_4 := F_clauses_a0.ext E4
  have K4 : Keep h0 h4 [a0] := (Keep.refl h0 [a0]).ext E4
  have Z4 : n0 ≤ h4.size := Nat.le_trans Z0 E4.1
  have F_modCount_b4 : Fld Z h4 b4 "java/util/AbstractList" "modCount" "I" (.int (0 : Int32)) := D4 (Or.inl (hw _ (List.mem_of_getElem? (i := 29) rfl))) (ty := .int) (by decide)
  have F_elementData_b4 : Fld Z h4 b4 "java/util/ArrayList" "elementData" "[Ljava/lang/Object;" .null := D4 (Or.inl (hw _ (List.mem_of_getElem? (i := 32) rfl))) (ty := (.array (.object "java/lang/Object"))) (by decide)
  have F_size_b4 : Fld Z h4 b4 "java/util/ArrayList" "size" "I" (.int (0 : Int32)) := D4 (Or.inl (hw _ (List.mem_of_getElem? (i := 62) rfl))) (ty := .int) (by decide)
  have pre5 : ∀ t, Steps p.tables e below (T4.setTop (mkF m 9 #[.val (.ref a0)] [(.ref b4), (.ref b4), (.ref a0)])) t → Steps p.tables e below (s₁.setTop (entryFrame m #[(.ref a0)] 1)) t := fun t k => pre3 t (by
    show Steps p.tables e below (T2.setTop (mkF m 5 #[.val (.ref a0)] [(.ref a0)])) _
    refine st4 _ ?_
    show Steps p.tables e below (T4.setTop (mkF m 8 #[.val (.ref a0)] [(.ref b4), (.ref a0)])) _
    refine XS.dup X4.here hx rfl (hb hby d1_8) rfl rfl ?_
    exact k)
  obtain ⟨_, _, ⟨T6, L6, k6, n6⟩, -, X6, ⟨Lc6, hQ6, l6, y6, z6⟩, st6⟩ := X4.specialBack hx (y := (⟨"java/util/ArrayList", "<init>", "()V"⟩ : MethodName)) rfl hown (mvT hZ (hw _ (List.mem_of_getElem? (i := 12) rfl))) (mvT hZ (hw _ (List.mem_of_getElem? (i := 13) rfl))) (mvT hZ (hw _ (List.mem_of_getElem? (i := 14) rfl))) (by decide) (backOf (W := 2) (rm3 l Z aw hw [] b4 (0 : Int32) .null (.int (0 : Int32)) w_DEFAULTCAPACITY_EMPTY_ELEMENTDATA h4 n0 Z4 A4 F_size_b4 F_elementData_b4 F_modCount_b4 g_b4 S_DEFAULTCAPACITY_EMPTY_ELEMENTDATA_4) hZ (hw _ (List.mem_of_getElem? (i := 14) rfl)) (hw _ (List.mem_of_getElem? (i := 11) rfl)) (by decide) (by decide)) (g := (mkF m 9 #[.val (.ref a0)] [(.ref b4), (.ref b4), (.ref a0)])) rfl (by rw [hml]; rfl) (Steps.refl _) (a := b4) (argsL := []) (rest := [(.ref b4), (.ref a0)]) (lenOf pd_0 rfl) rfl (by show 2 * 0 + _ ≤ _; exact Nat.le_of_eq rfl) (hb hby d1_9) (fun _ _ => ⟨rfl, e4, (by decide : 1 + 0 ≤ _), (by decide : 3 + 0 ≤ _)⟩)
  dsimp only [Pt.U, Pt.locs, Pt.cells, Pt.slots] at X6 l6 y6 z6 st6 hQ6
  subst l6 y6 z6
  obtain ⟨rfl, N6q, K6q, E6_a0, F6_a0_size, F6_a0_elementData, F6_a0_modCount⟩ := hQ6
  have N6 := Fr.app N0 N6q
  have E_a0_6 := E_a0_4.keep K6q
  have F_variables_a0_6 := F_variables_a0_4.keep K6q (ninS ne_a0_b4 nin0)
  have F_literals_a0_6 := F_literals_a0_4.keep K6q (ninS ne_a0_b4 nin0)
  have S_DEFAULTCAPACITY_EMPTY_ELEMENTDATA_6 := own_sta_keep S_DEFAULTCAPACITY_EMPTY_ELEMENTDATA_4 K6q (allS (own_exa_plain A4) all0)
  have F_clauses_a0_6 := F_clauses_a0_4.keep K6q (ninS ne_a0_b4 nin0)
  have A4_6 := A4.keep K6q
  have F6_a0_size' : Fld Z T6.heap b4 "java/util/ArrayList" "size" "I" (.int (0 : Int32)) := F6_a0_size
  have F6_a0_elementData' : Fld Z T6.heap b4 "java/util/ArrayList" "elementData" "[Ljava/lang/Object;" (.ref w_DEFAULTCAPACITY_EMPTY_ELEMENTDATA) := F6_a0_elementData
  have F6_a0_modCount' : Fld Z T6.heap b4 "java/util/AbstractList" "modCount" "I" (.int (0 : Int32)) := F6_a0_modCount
  have K6 : Keep h0 T6.heap [a0] := K4.trans K6q (allS (Or.inr sz_b4) all0)
  have Z6 : n0 ≤ T6.heap.size := Nat.le_trans Z4 K6q.1
  have pre7 : ∀ t, Steps p.tables e below (T6.setTop (mkF m 12 #[.val (.ref a0)] [(.ref b4), (.ref a0)])) t → Steps p.tables e below (s₁.setTop (entryFrame m #[(.ref a0)] 1)) t := fun t k => pre5 t (by
    show Steps p.tables e below (T4.setTop (mkF m 9 #[.val (.ref a0)] [(.ref b4), (.ref b4), (.ref a0)])) _
    refine st6.trans ?_
    exact k)
  obtain ⟨T8, h8, X8, e8, W8, st8⟩ := putF X6 hx hZ hown (host := "") (Or.inl (hw _ (List.mem_of_getElem? (i := 33) rfl))) Via.refl rfl F_clauses_a0_6 E_a0_6 (Or.inr ⟨(hw _ (List.mem_of_getElem? (i := 34) rfl)), rfl, hnm⟩) (hw _ (List.mem_of_getElem? (i := 1) rfl)) (ty := (.object "java/util/List")) (by decide) rfl rfl (g := (mkF m 12 #[.val (.ref a0)] [(.ref b4), (.ref a0)])) rfl rfl (hb hby d1_12)
  have E_a0_8 := E_a0_6.wr W8
  have F_variables_a0_8 := F_variables_a0_6.other W8 (Or.inr (slot_ne (Or.inl (hw _ (List.mem_of_getElem? (i := 41) rfl))) (Or.inr (hw _ (List.mem_of_getElem? (i := 34) rfl))) (by decide) (t := .int) (t' := (.object "java/util/List")) (by decide) (by decide)))
  have F_literals_a0_8 := F_literals_a0_6.other W8 (Or.inr (slot_ne (Or.inl (hw _ (List.mem_of_getElem? (i := 69) rfl))) (Or.inr (hw _ (List.mem_of_getElem? (i := 34) rfl))) (by decide) (t := .int) (t' := (.object "java/util/List")) (by decide) (by decide)))
  have S_DEFAULTCAPACITY_EMPTY_ELEMENTDATA_8 := S_DEFAULTCAPACITY_EMPTY_ELEMENTDATA_6.wr W8
  have F_clauses_a0_8 := F_clauses_a0_6.same W8
  have A4_8 := A4_6.wr W8
  have F6_a0_modCount'_8 := F6_a0_modCount'.other W8 (Or.inl (Ne.symm ne_a0_b4))
  have F6_a0_elementData'_8 := F6_a0_elementData'.other W8 (Or.inl (Ne.symm ne_a0_b4))
  have F6_a0_size'_8 := F6_a0_size'.other W8 (Or.inl (Ne.symm ne_a0_b4))
  have K8 : Keep h0 h8 [a0] := K6.wr W8 (Or.inl (by simp))
  have N8 := Fr.snoc X8 N6 g_a0
  have Z8 : n0 ≤ h8.size := (Nat.le_trans Z6 (Nat.le_of_eq W8.size.symm))
  obtain ⟨fs, hr, hrun, hended, hW, hsame⟩ := X8.leave (v := none) (fun _ => rfl)
  refine ⟨_, _, pre7 _ ?_, hrun, hended, _, _, rfl, ?_, ⟨_, rfl⟩, hW, hsame.mono (by decide) (by decide)⟩
  · show Steps p.tables e below (T6.setTop (mkF m 12 #[.val (.ref a0)] [(.ref b4), (.ref a0)])) _
    refine st8 _ ?_
    show Steps p.tables e below (T8.setTop (mkF m 15 #[.val (.ref a0)] [])) _
    exact X8.returnOut hx Bd.returns (hb hby d1_15) hr
  · show Q1 Z a0 w_variables_a0 w_literals_a0 w_DEFAULTCAPACITY_EMPTY_ELEMENTDATA u_clauses_a0 h0 n0 _ T8.heap _
    rw [e8]
    have hF_a0_variables : w_variables_a0 = f1_a0_variables w_variables_a0 w_literals_a0 := (by rfl)
    have hF_a0_literals : w_literals_a0 = f1_a0_literals w_variables_a0 w_literals_a0 := (by rfl)
    exact ⟨rfl, N8, K8, E_a0_8, (hF_a0_variables ▸ F_variables_a0_8), (hF_a0_literals ▸ F_literals_a0_8), (g4 ▸ F_clauses_a0_8), (g4 ▸ A4_8), (g4 ▸ F6_a0_modCount'_8), (g4 ▸ F6_a0_elementData'_8), (g4 ▸ F6_a0_size'_8)⟩
theorem d6_0 : decode prog_40_method_2_code 0 = .ok (.aload_n 0, 1) := by decide +kernel
theorem d6_1 : decode prog_40_method_2_code 1 = .ok (.dup, 1) := by decide +kernel
theorem d6_2 : decode prog_40_method_2_code 2 = .ok (.getfield 18, 3) := by decide +kernel
theorem d6_5 : decode prog_40_method_2_code 5 = .ok (.iconst 1, 1) := by decide +kernel
theorem d6_6 : decode prog_40_method_2_code 6 = .ok (.iadd, 1) := by decide +kernel
theorem d6_7 : decode prog_40_method_2_code 7 = .ok (.putfield 18, 3) := by decide +kernel
theorem d6_10 : decode prog_40_method_2_code 10 = .ok (.aload_n 0, 1) := by decide +kernel
theorem d6_11 : decode prog_40_method_2_code 11 = .ok (.getfield 18, 3) := by decide +kernel
theorem ef_6 (m : MethodId) (x0 : Addr) : entryFrame m #[(.ref x0)] 1 = mkF m 0 #[.val (.ref x0)] [] := by first | (simp [entryFrame, mkF, argsToLocals, Value.category]; done) | rfl
def f6 (w_variables_a0 : Int32) (w_literals_a0 : Int32) (w_clauses_a0 : Addr) : Int32 := (w_variables_a0 + (1 : Int32))
def f6_a0_variables (w_variables_a0 : Int32) (w_literals_a0 : Int32) (w_clauses_a0 : Addr) : Int32 := (w_variables_a0 + (1 : Int32))
def f6_a0_literals (w_variables_a0 : Int32) (w_literals_a0 : Int32) (w_clauses_a0 : Addr) : Int32 := w_literals_a0
def f6_a0_clauses (w_variables_a0 : Int32) (w_literals_a0 : Int32) (w_clauses_a0 : Addr) : Addr := w_clauses_a0
def Q6 (Z : State) (a0 : Addr) (w_variables_a0 : Int32) (w_literals_a0 : Int32) (w_clauses_a0 : Addr) (h0 : Heap) (n0 : Nat) (v : Option Value) (h : Heap) (L : List Loc) : Prop := v = some (.int (f6 w_variables_a0 w_literals_a0 w_clauses_a0)) ∧ Fr n0 L ∧ Keep h0 h [a0] ∧ Exa Z h a0 "com/example/prune_to_fit/prunetofit/sat/Cnf" ∧ Fld Z h a0 "com/example/prune_to_fit/prunetofit/sat/Cnf" "variables" "I" (.int (f6_a0_variables w_variables_a0 w_literals_a0 w_clauses_a0)) ∧ Fld Z h a0 "com/example/prune_to_fit/prunetofit/sat/Cnf" "literals" "I" (.int (f6_a0_literals w_variables_a0 w_literals_a0 w_clauses_a0)) ∧ Fld Z h a0 "com/example/prune_to_fit/prunetofit/sat/Cnf" "clauses" "Ljava/util/List;" (.ref (f6_a0_clauses w_variables_a0 w_literals_a0 w_clauses_a0))
theorem d6_14 : decode prog_40_method_2_code 14 = .ok (.ireturn, 1) := by decide +kernel
set_option maxRecDepth 65536 in
set_option maxHeartbeats 40000000 in
theorem rm6 (l : Launch) (Z : State) (aw : Array Value) (hw : ∀ d ∈ tables_1, d.before aw Z = true) (ws : List Jvm.Cond) (a0 : Addr) (w_variables_a0 : Int32) (w_literals_a0 : Int32) (w_clauses_a0 : Addr) (h0 : Heap) (n0 : Nat) (Z0 : n0 ≤ h0.size) (E_a0 : Exa Z h0 a0 "com/example/prune_to_fit/prunetofit/sat/Cnf") (F_variables_a0 : Fld Z h0 a0 "com/example/prune_to_fit/prunetofit/sat/Cnf" "variables" "I" (.int w_variables_a0)) (F_literals_a0 : Fld Z h0 a0 "com/example/prune_to_fit/prunetofit/sat/Cnf" "literals" "I" (.int w_literals_a0)) (F_clauses_a0 : Fld Z h0 a0 "com/example/prune_to_fit/prunetofit/sat/Cnf" "clauses" "Ljava/util/List;" (.ref w_clauses_a0)) (g_a0 : n0 ≤ a0) :
    MetFree l (⟨"com/example/prune_to_fit/prunetofit/sat/Cnf", "newVariable", "()I"⟩ : MethodName) (head1 (Jvm.Cond.code (⟨"com/example/prune_to_fit/prunetofit/sat/Cnf", "newVariable", "()I"⟩ : MethodName) prog_40_method_2_code 1 (some .int) :: ws) ({ frames := 0, cells := 0, slots := 0, locals := 0 } : Room)) (fun a U => a = #[(.ref a0)] ∧ Z.Warmed39 U.vm ∧ U.heap = h0) (fun _ _ _ _ _ => True) (fun _ U o U' => ∃ v L, o = .returned v ∧ Q6 Z a0 w_variables_a0 w_literals_a0 w_clauses_a0 h0 n0 v U'.heap L ∧ FrameEnd U o U' L ({ frames := 0, cells := 0, slots := 0, locals := 0 } : Room).cells ({ frames := 0, cells := 0, slots := 0, locals := 0 } : Room).slots) := by
  refine MetFree.of_bodySF (plainFor_of_name pn_0) hisR ?_
  intro p e s m args below meth c s₁ Bd hml0 hP hK
  obtain ⟨rfl, hZ, hh⟩ := hP
  have hx := Bd.exec
  have hby := Bd.bytes
  have hml : c.maxLocals = 1 := hml0
  have hown : s.vm.findClass "com/example/prune_to_fit/prunetofit/sat/Cnf" = some m.cls := findClass_of_methodNamed Bd.named
  have hnm := (name_of_methodNamed Bd.named Bd.method).1
  have X0 : Stand p l e ({ frames := 0, cells := 0, slots := 0, locals := 0 } : Room) s m #[(.ref a0)] below meth c s₁ [] 0 0 := Stand.of_body Bd
  have e0 : s₁.heap = h0 := by rw [← hh, Bd.state]; rfl
  have N0 := Fr.nil n0
  have pre0 : ∀ t, Steps p.tables e below (s₁.setTop (mkF m 0 #[.val (.ref a0)] [])) t → Steps p.tables e below (s₁.setTop (entryFrame m #[(.ref a0)] 1)) t := fun t k => castTop (ef_6 m a0) k
  have pre1 : ∀ t, Steps p.tables e below (s₁.setTop (mkF m 2 #[.val (.ref a0)] [(.ref a0), (.ref a0)])) t → Steps p.tables e below (s₁.setTop (entryFrame m #[(.ref a0)] 1)) t := fun t k => pre0 t (by
    show Steps p.tables e below (s₁.setTop (mkF m 0 #[.val (.ref a0)] [])) _
    refine XS.aloadN X0.here hx rfl (hb hby d6_0) rfl rfl ?_
    show Steps p.tables e below (s₁.setTop (mkF m 1 #[.val (.ref a0)] [(.ref a0)])) _
    refine XS.dup X0.here hx rfl (hb hby d6_1) rfl rfl ?_
    exact k)
  obtain ⟨T2, X2, e2, st2⟩ := getF X0 hx hZ hown (host := "") (Or.inl (hw _ (List.mem_of_getElem? (i := 40) rfl))) Via.refl e0 F_variables_a0 (g := (mkF m 2 #[.val (.ref a0)] [(.ref a0), (.ref a0)])) rfl rfl (hb hby d6_2)
  have pre3 : ∀ t, Steps p.tables e below (T2.setTop (mkF m 7 #[.val (.ref a0)] [(.int (w_variables_a0 + (1 : Int32))), (.ref a0)])) t → Steps p.tables e below (s₁.setTop (entryFrame m #[(.ref a0)] 1)) t := fun t k => pre1 t (by
    show Steps p.tables e below (s₁.setTop (mkF m 2 #[.val (.ref a0)] [(.ref a0), (.ref a0)])) _
    refine st2 _ ?_
    show Steps p.tables e below (T2.setTop (mkF m 5 #[.val (.ref a0)] [(.int w_variables_a0), (.ref a0)])) _
    refine XS.iconst X2.here hx rfl (hb hby d6_5) ?_
    show Steps p.tables e below (T2.setTop (mkF m 6 #[.val (.ref a0)] [(.int (1 : Int32)), (.int w_variables_a0), (.ref a0)])) _
    refine XS.iadd X2.here hx rfl (hb hby d6_6) rfl ?_
    exact k)
  obtain ⟨T4, h4, X4, e4, W4, st4⟩ := putF X2 hx hZ hown (host := "") (Or.inl (hw _ (List.mem_of_getElem? (i := 40) rfl))) Via.refl e2 F_variables_a0 E_a0 (Or.inl (hw _ (List.mem_of_getElem? (i := 41) rfl))) (hw _ (List.mem_of_getElem? (i := 1) rfl)) (ty := .int) (by decide) rfl rfl (g := (mkF m 7 #[.val (.ref a0)] [(.int (w_variables_a0 + (1 : Int32))), (.ref a0)])) rfl rfl (hb hby d6_7)
  have E_a0_4 := E_a0.wr W4
  have F_variables_a0_4 := F_variables_a0.same W4
  have F_literals_a0_4 := F_literals_a0.other W4 (Or.inr (slot_ne (Or.inl (hw _ (List.mem_of_getElem? (i := 69) rfl))) (Or.inl (hw _ (List.mem_of_getElem? (i := 41) rfl))) (by decide) (t := .int) (t' := .int) (by decide) (by decide)))
  have F_clauses_a0_4 := F_clauses_a0.other W4 (Or.inr (slot_ne (Or.inr (hw _ (List.mem_of_getElem? (i := 34) rfl))) (Or.inl (hw _ (List.mem_of_getElem? (i := 41) rfl))) (by decide) (t := (.object "java/util/List")) (t' := .int) (by decide) (by decide)))
  have K4 : Keep h0 h4 [a0] := (Keep.refl h0 [a0]).wr W4 (Or.inl (by simp))
  have N4 := Fr.snoc X4 N0 g_a0
  have Z4 : n0 ≤ h4.size := (Nat.le_trans Z0 (Nat.le_of_eq W4.size.symm))
  have pre5 : ∀ t, Steps p.tables e below (T4.setTop (mkF m 11 #[.val (.ref a0)] [(.ref a0)])) t → Steps p.tables e below (s₁.setTop (entryFrame m #[(.ref a0)] 1)) t := fun t k => pre3 t (by
    show Steps p.tables e below (T2.setTop (mkF m 7 #[.val (.ref a0)] [(.int (w_variables_a0 + (1 : Int32))), (.ref a0)])) _
    refine st4 _ ?_
    show Steps p.tables e below (T4.setTop (mkF m 10 #[.val (.ref a0)] [])) _
    refine XS.aloadN X4.here hx rfl (hb hby d6_10) rfl rfl ?_
    exact k)
  obtain ⟨T6, X6, e6, st6⟩ := getF X4 hx hZ hown (host := "") (Or.inl (hw _ (List.mem_of_getElem? (i := 40) rfl))) Via.refl e4 F_variables_a0_4 (g := (mkF m 11 #[.val (.ref a0)] [(.ref a0)])) rfl rfl (hb hby d6_11)
  obtain ⟨fs, hr, hrun, hended, hW, hsame⟩ := X6.leave (v := some (.int (w_variables_a0 + (1 : Int32)))) (fun h => by rw [Bd.returns] at h; cases h)
  refine ⟨_, _, pre5 _ ?_, hrun, hended, _, _, rfl, ?_, ⟨_, rfl⟩, hW, hsame.mono (by decide) (by decide)⟩
  · show Steps p.tables e below (T4.setTop (mkF m 11 #[.val (.ref a0)] [(.ref a0)])) _
    refine st6 _ ?_
    show Steps p.tables e below (T6.setTop (mkF m 14 #[.val (.ref a0)] [(.int (w_variables_a0 + (1 : Int32)))])) _
    exact retI X6 hx Bd.returns (hb hby d6_14) hr
  · show Q6 Z a0 w_variables_a0 w_literals_a0 w_clauses_a0 h0 n0 _ T6.heap _
    rw [e6]
    have hF_a0_variables : (w_variables_a0 + (1 : Int32)) = f6_a0_variables w_variables_a0 w_literals_a0 w_clauses_a0 := (by rfl)
    have hF_a0_literals : w_literals_a0 = f6_a0_literals w_variables_a0 w_literals_a0 w_clauses_a0 := (by rfl)
    have hF_a0_clauses : w_clauses_a0 = f6_a0_clauses w_variables_a0 w_literals_a0 w_clauses_a0 := (by rfl)
    exact ⟨congrArg (fun z => some (Value.int z)) (by rfl), N4, K4, E_a0_4, (hF_a0_variables ▸ F_variables_a0_4), (hF_a0_literals ▸ F_literals_a0_4), (hF_a0_clauses ▸ F_clauses_a0_4)⟩
theorem d7_0 : decode prog_40_method_7_code 0 = .ok (.aload_n 0, 1) := by decide +kernel
theorem d7_1 : decode prog_40_method_7_code 1 = .ok (.getfield 18, 3) := by decide +kernel
theorem ef_7 (m : MethodId) (x0 : Addr) : entryFrame m #[(.ref x0)] 1 = mkF m 0 #[.val (.ref x0)] [] := by first | (simp [entryFrame, mkF, argsToLocals, Value.category]; done) | rfl
def f7 (w_variables_a0 : Int32) : Int32 := w_variables_a0
def Q7 (Z : State) (a0 : Addr) (w_variables_a0 : Int32) (h0 : Heap) (n0 : Nat) (v : Option Value) (h : Heap) (L : List Loc) : Prop := v = some (.int (f7 w_variables_a0)) ∧ Fr n0 L ∧ h = h0
theorem d7_4 : decode prog_40_method_7_code 4 = .ok (.ireturn, 1) := by decide +kernel
set_option maxRecDepth 65536 in
set_option maxHeartbeats 40000000 in
theorem rm7 (l : Launch) (Z : State) (aw : Array Value) (hw : ∀ d ∈ tables_1, d.before aw Z = true) (ws : List Jvm.Cond) (a0 : Addr) (w_variables_a0 : Int32) (h0 : Heap) (n0 : Nat) (Z0 : n0 ≤ h0.size) (F_variables_a0 : Fld Z h0 a0 "com/example/prune_to_fit/prunetofit/sat/Cnf" "variables" "I" (.int w_variables_a0)) :
    MetFree l (⟨"com/example/prune_to_fit/prunetofit/sat/Cnf", "variables", "()I"⟩ : MethodName) (head1 (Jvm.Cond.code (⟨"com/example/prune_to_fit/prunetofit/sat/Cnf", "variables", "()I"⟩ : MethodName) prog_40_method_7_code 1 (some .int) :: ws) ({ frames := 0, cells := 0, slots := 0, locals := 0 } : Room)) (fun a U => a = #[(.ref a0)] ∧ Z.Warmed39 U.vm ∧ U.heap = h0) (fun _ _ _ _ _ => True) (fun _ U o U' => ∃ v L, o = .returned v ∧ Q7 Z a0 w_variables_a0 h0 n0 v U'.heap L ∧ FrameEnd U o U' L ({ frames := 0, cells := 0, slots := 0, locals := 0 } : Room).cells ({ frames := 0, cells := 0, slots := 0, locals := 0 } : Room).slots) := by
  refine MetFree.of_bodySF (plainFor_of_name pn_0) hisR ?_
  intro p e s m args below meth c s₁ Bd hml0 hP hK
  obtain ⟨rfl, hZ, hh⟩ := hP
  have hx := Bd.exec
  have hby := Bd.bytes
  have hml : c.maxLocals = 1 := hml0
  have hown : s.vm.findClass "com/example/prune_to_fit/prunetofit/sat/Cnf" = some m.cls := findClass_of_methodNamed Bd.named
  have hnm := (name_of_methodNamed Bd.named Bd.method).1
  have X0 : Stand p l e ({ frames := 0, cells := 0, slots := 0, locals := 0 } : Room) s m #[(.ref a0)] below meth c s₁ [] 0 0 := Stand.of_body Bd
  have e0 : s₁.heap = h0 := by rw [← hh, Bd.state]; rfl
  have N0 := Fr.nil n0
  have pre0 : ∀ t, Steps p.tables e below (s₁.setTop (mkF m 0 #[.val (.ref a0)] [])) t → Steps p.tables e below (s₁.setTop (entryFrame m #[(.ref a0)] 1)) t := fun t k => castTop (ef_7 m a0) k
  have pre1 : ∀ t, Steps p.tables e below (s₁.setTop (mkF m 1 #[.val (.ref a0)] [(.ref a0)])) t → Steps p.tables e below (s₁.setTop (entryFrame m #[(.ref a0)] 1)) t := fun t k => pre0 t (by
    show Steps p.tables e below (s₁.setTop (mkF m 0 #[.val (.ref a0)] [])) _
    refine XS.aloadN X0.here hx rfl (hb hby d7_0) rfl rfl ?_
    exact k)
  obtain ⟨T2, X2, e2, st2⟩ := getF X0 hx hZ hown (host := "") (Or.inl (hw _ (List.mem_of_getElem? (i := 40) rfl))) Via.refl e0 F_variables_a0 (g := (mkF m 1 #[.val (.ref a0)] [(.ref a0)])) rfl rfl (hb hby d7_1)
  obtain ⟨fs, hr, hrun, hended, hW, hsame⟩ := X2.leave (v := some (.int w_variables_a0)) (fun h => by rw [Bd.returns] at h; cases h)
  refine ⟨_, _, pre1 _ ?_, hrun, hended, _, _, rfl, ?_, ⟨_, rfl⟩, hW, hsame.mono (by decide) (by decide)⟩
  · show Steps p.tables e below (s₁.setTop (mkF m 1 #[.val (.ref a0)] [(.ref a0)])) _
    refine st2 _ ?_
    show Steps p.tables e below (T2.setTop (mkF m 4 #[.val (.ref a0)] [(.int w_variables_a0)])) _
    exact retI X2 hx Bd.returns (hb hby d7_4) hr
  · show Q7 Z a0 w_variables_a0 h0 n0 _ T2.heap _
    rw [e2]
    exact ⟨congrArg (fun z => some (Value.int z)) (by rfl), N0, rfl⟩
theorem d10_0 : decode prog_40_method_9_code 0 = .ok (.aload_n 0, 1) := by decide +kernel
theorem d10_1 : decode prog_40_method_9_code 1 = .ok (.getfield 40, 3) := by decide +kernel
theorem ef_10 (m : MethodId) (x0 : Addr) : entryFrame m #[(.ref x0)] 1 = mkF m 0 #[.val (.ref x0)] [] := by first | (simp [entryFrame, mkF, argsToLocals, Value.category]; done) | rfl
def f10 (w_literals_a0 : Int32) : Int32 := w_literals_a0
def Q10 (Z : State) (a0 : Addr) (w_literals_a0 : Int32) (h0 : Heap) (n0 : Nat) (v : Option Value) (h : Heap) (L : List Loc) : Prop := v = some (.int (f10 w_literals_a0)) ∧ Fr n0 L ∧ h = h0
theorem d10_4 : decode prog_40_method_9_code 4 = .ok (.ireturn, 1) := by decide +kernel
set_option maxRecDepth 65536 in
set_option maxHeartbeats 40000000 in
theorem rm10 (l : Launch) (Z : State) (aw : Array Value) (hw : ∀ d ∈ tables_1, d.before aw Z = true) (ws : List Jvm.Cond) (a0 : Addr) (w_literals_a0 : Int32) (h0 : Heap) (n0 : Nat) (Z0 : n0 ≤ h0.size) (F_literals_a0 : Fld Z h0 a0 "com/example/prune_to_fit/prunetofit/sat/Cnf" "literals" "I" (.int w_literals_a0)) :
    MetFree l (⟨"com/example/prune_to_fit/prunetofit/sat/Cnf", "literalCount", "()I"⟩ : MethodName) (head1 (Jvm.Cond.code (⟨"com/example/prune_to_fit/prunetofit/sat/Cnf", "literalCount", "()I"⟩ : MethodName) prog_40_method_9_code 1 (some .int) :: ws) ({ frames := 0, cells := 0, slots := 0, locals := 0 } : Room)) (fun a U => a = #[(.ref a0)] ∧ Z.Warmed39 U.vm ∧ U.heap = h0) (fun _ _ _ _ _ => True) (fun _ U o U' => ∃ v L, o = .returned v ∧ Q10 Z a0 w_literals_a0 h0 n0 v U'.heap L ∧ FrameEnd U o U' L ({ frames := 0, cells := 0, slots := 0, locals := 0 } : Room).cells ({ frames := 0, cells := 0, slots := 0, locals := 0 } : Room).slots) := by
  refine MetFree.of_bodySF (plainFor_of_name pn_0) hisR ?_
  intro p e s m args below meth c s₁ Bd hml0 hP hK
  obtain ⟨rfl, hZ, hh⟩ := hP
  have hx := Bd.exec
  have hby := Bd.bytes
  have hml : c.maxLocals = 1 := hml0
  have hown : s.vm.findClass "com/example/prune_to_fit/prunetofit/sat/Cnf" = some m.cls := findClass_of_methodNamed Bd.named
  have hnm := (name_of_methodNamed Bd.named Bd.method).1
  have X0 : Stand p l e ({ frames := 0, cells := 0, slots := 0, locals := 0 } : Room) s m #[(.ref a0)] below meth c s₁ [] 0 0 := Stand.of_body Bd
  have e0 : s₁.heap = h0 := by rw [← hh, Bd.state]; rfl
  have N0 := Fr.nil n0
  have pre0 : ∀ t, Steps p.tables e below (s₁.setTop (mkF m 0 #[.val (.ref a0)] [])) t → Steps p.tables e below (s₁.setTop (entryFrame m #[(.ref a0)] 1)) t := fun t k => castTop (ef_10 m a0) k
  have pre1 : ∀ t, Steps p.tables e below (s₁.setTop (mkF m 1 #[.val (.ref a0)] [(.ref a0)])) t → Steps p.tables e below (s₁.setTop (entryFrame m #[(.ref a0)] 1)) t := fun t k => pre0 t (by
    show Steps p.tables e below (s₁.setTop (mkF m 0 #[.val (.ref a0)] [])) _
    refine XS.aloadN X0.here hx rfl (hb hby d10_0) rfl rfl ?_
    exact k)
  obtain ⟨T2, X2, e2, st2⟩ := getF X0 hx hZ hown (host := "") (Or.inl (hw _ (List.mem_of_getElem? (i := 68) rfl))) Via.refl e0 F_literals_a0 (g := (mkF m 1 #[.val (.ref a0)] [(.ref a0)])) rfl rfl (hb hby d10_1)
  obtain ⟨fs, hr, hrun, hended, hW, hsame⟩ := X2.leave (v := some (.int w_literals_a0)) (fun h => by rw [Bd.returns] at h; cases h)
  refine ⟨_, _, pre1 _ ?_, hrun, hended, _, _, rfl, ?_, ⟨_, rfl⟩, hW, hsame.mono (by decide) (by decide)⟩
  · show Steps p.tables e below (s₁.setTop (mkF m 1 #[.val (.ref a0)] [(.ref a0)])) _
    refine st2 _ ?_
    show Steps p.tables e below (T2.setTop (mkF m 4 #[.val (.ref a0)] [(.int w_literals_a0)])) _
    exact retI X2 hx Bd.returns (hb hby d10_4) hr
  · show Q10 Z a0 w_literals_a0 h0 n0 _ T2.heap _
    rw [e2]
    exact ⟨congrArg (fun z => some (Value.int z)) (by rfl), N0, rfl⟩
theorem d9_0 : decode jdk_38_method_8_code 0 = .ok (.aload_n 0, 1) := by decide +kernel
theorem d9_1 : decode jdk_38_method_8_code 1 = .ok (.getfield 48, 3) := by decide +kernel
theorem ef_9 (m : MethodId) (x0 : Addr) : entryFrame m #[(.ref x0)] 1 = mkF m 0 #[.val (.ref x0)] [] := by first | (simp [entryFrame, mkF, argsToLocals, Value.category]; done) | rfl
def f9 (w_size_a0 : Int32) : Int32 := w_size_a0
def Q9 (Z : State) (a0 : Addr) (w_size_a0 : Int32) (h0 : Heap) (n0 : Nat) (v : Option Value) (h : Heap) (L : List Loc) : Prop := v = some (.int (f9 w_size_a0)) ∧ Fr n0 L ∧ h = h0
theorem d9_4 : decode jdk_38_method_8_code 4 = .ok (.ireturn, 1) := by decide +kernel
set_option maxRecDepth 65536 in
set_option maxHeartbeats 40000000 in
theorem rm9 (l : Launch) (Z : State) (aw : Array Value) (hw : ∀ d ∈ tables_1, d.before aw Z = true) (ws : List Jvm.Cond) (a0 : Addr) (w_size_a0 : Int32) (h0 : Heap) (n0 : Nat) (Z0 : n0 ≤ h0.size) (F_size_a0 : Fld Z h0 a0 "java/util/ArrayList" "size" "I" (.int w_size_a0)) :
    MetFree l (⟨"java/util/ArrayList", "size", "()I"⟩ : MethodName) (head1 (Jvm.Cond.code (⟨"java/util/ArrayList", "size", "()I"⟩ : MethodName) jdk_38_method_8_code 1 (some .int) :: ws) ({ frames := 0, cells := 0, slots := 0, locals := 0 } : Room)) (fun a U => a = #[(.ref a0)] ∧ Z.Warmed39 U.vm ∧ U.heap = h0) (fun _ _ _ _ _ => True) (fun _ U o U' => ∃ v L, o = .returned v ∧ Q9 Z a0 w_size_a0 h0 n0 v U'.heap L ∧ FrameEnd U o U' L ({ frames := 0, cells := 0, slots := 0, locals := 0 } : Room).cells ({ frames := 0, cells := 0, slots := 0, locals := 0 } : Room).slots) := by
  refine MetFree.of_bodySF (plainFor_of_name pn_6) hisR ?_
  intro p e s m args below meth c s₁ Bd hml0 hP hK
  obtain ⟨rfl, hZ, hh⟩ := hP
  have hx := Bd.exec
  have hby := Bd.bytes
  have hml : c.maxLocals = 1 := hml0
  have hown : s.vm.findClass "java/util/ArrayList" = some m.cls := findClass_of_methodNamed Bd.named
  have hnm := (name_of_methodNamed Bd.named Bd.method).1
  have X0 : Stand p l e ({ frames := 0, cells := 0, slots := 0, locals := 0 } : Room) s m #[(.ref a0)] below meth c s₁ [] 0 0 := Stand.of_body Bd
  have e0 : s₁.heap = h0 := by rw [← hh, Bd.state]; rfl
  have N0 := Fr.nil n0
  have pre0 : ∀ t, Steps p.tables e below (s₁.setTop (mkF m 0 #[.val (.ref a0)] [])) t → Steps p.tables e below (s₁.setTop (entryFrame m #[(.ref a0)] 1)) t := fun t k => castTop (ef_9 m a0) k
  have pre1 : ∀ t, Steps p.tables e below (s₁.setTop (mkF m 1 #[.val (.ref a0)] [(.ref a0)])) t → Steps p.tables e below (s₁.setTop (entryFrame m #[(.ref a0)] 1)) t := fun t k => pre0 t (by
    show Steps p.tables e below (s₁.setTop (mkF m 0 #[.val (.ref a0)] [])) _
    refine XS.aloadN X0.here hx rfl (hb hby d9_0) rfl rfl ?_
    exact k)
  obtain ⟨T2, X2, e2, st2⟩ := getF X0 hx hZ hown (host := "") (Or.inl (hw _ (List.mem_of_getElem? (i := 61) rfl))) Via.refl e0 F_size_a0 (g := (mkF m 1 #[.val (.ref a0)] [(.ref a0)])) rfl rfl (hb hby d9_1)
  obtain ⟨fs, hr, hrun, hended, hW, hsame⟩ := X2.leave (v := some (.int w_size_a0)) (fun h => by rw [Bd.returns] at h; cases h)
  refine ⟨_, _, pre1 _ ?_, hrun, hended, _, _, rfl, ?_, ⟨_, rfl⟩, hW, hsame.mono (by decide) (by decide)⟩
  · show Steps p.tables e below (s₁.setTop (mkF m 1 #[.val (.ref a0)] [(.ref a0)])) _
    refine st2 _ ?_
    show Steps p.tables e below (T2.setTop (mkF m 4 #[.val (.ref a0)] [(.int w_size_a0)])) _
    exact retI X2 hx Bd.returns (hb hby d9_4) hr
  · show Q9 Z a0 w_size_a0 h0 n0 _ T2.heap _
    rw [e2]
    exact ⟨congrArg (fun z => some (Value.int z)) (by rfl), N0, rfl⟩
theorem d8_0 : decode prog_40_method_8_code 0 = .ok (.aload_n 0, 1) := by decide +kernel
theorem d8_1 : decode prog_40_method_8_code 1 = .ok (.getfield 14, 3) := by decide +kernel
theorem pd_1 : parseMethodDescriptor "()I" = some ⟨[], some .int⟩ := by decide +kernel
theorem d8_4 : decode prog_40_method_8_code 4 = .ok (.invokeinterface 58 1, 5) := by decide +kernel
theorem ef_8 (m : MethodId) (x0 : Addr) : entryFrame m #[(.ref x0)] 1 = mkF m 0 #[.val (.ref x0)] [] := by first | (simp [entryFrame, mkF, argsToLocals, Value.category]; done) | rfl
def f8 (w_size_w_clauses_a0 : Int32) : Int32 := (f9 w_size_w_clauses_a0)
def Q8 (Z : State) (a0 : Addr) (w_clauses_a0 : Addr) (w_size_w_clauses_a0 : Int32) (h0 : Heap) (n0 : Nat) (v : Option Value) (h : Heap) (L : List Loc) : Prop := v = some (.int (f8 w_size_w_clauses_a0)) ∧ Fr n0 L ∧ h = h0
theorem d8_9 : decode prog_40_method_8_code 9 = .ok (.ireturn, 1) := by decide +kernel
set_option maxRecDepth 65536 in
set_option maxHeartbeats 40000000 in
theorem rm8 (l : Launch) (Z : State) (aw : Array Value) (hw : ∀ d ∈ tables_1, d.before aw Z = true) (ws : List Jvm.Cond) (a0 : Addr) (w_clauses_a0 : Addr) (w_size_w_clauses_a0 : Int32) (h0 : Heap) (n0 : Nat) (Z0 : n0 ≤ h0.size) (F_clauses_a0 : Fld Z h0 a0 "com/example/prune_to_fit/prunetofit/sat/Cnf" "clauses" "Ljava/util/List;" (.ref w_clauses_a0)) (F_size_w_clauses_a0 : Fld Z h0 w_clauses_a0 "java/util/ArrayList" "size" "I" (.int w_size_w_clauses_a0)) (E_w_clauses_a0 : Exa Z h0 w_clauses_a0 "java/util/ArrayList") :
    MetFree l (⟨"com/example/prune_to_fit/prunetofit/sat/Cnf", "clauseCount", "()I"⟩ : MethodName) (head1 (Jvm.Cond.code (⟨"com/example/prune_to_fit/prunetofit/sat/Cnf", "clauseCount", "()I"⟩ : MethodName) prog_40_method_8_code 1 (some .int) :: ws) ({ frames := 1, cells := 0, slots := 0, locals := 12 } : Room)) (fun a U => a = #[(.ref a0)] ∧ Z.Warmed39 U.vm ∧ U.heap = h0) (fun _ _ _ _ _ => True) (fun _ U o U' => ∃ v L, o = .returned v ∧ Q8 Z a0 w_clauses_a0 w_size_w_clauses_a0 h0 n0 v U'.heap L ∧ FrameEnd U o U' L ({ frames := 1, cells := 0, slots := 0, locals := 12 } : Room).cells ({ frames := 1, cells := 0, slots := 0, locals := 12 } : Room).slots) := by
  refine MetFree.of_bodySF (plainFor_of_name pn_0) hisR ?_
  intro p e s m args below meth c s₁ Bd hml0 hP hK
  obtain ⟨rfl, hZ, hh⟩ := hP
  have hx := Bd.exec
  have hby := Bd.bytes
  have hml : c.maxLocals = 1 := hml0
  have hown : s.vm.findClass "com/example/prune_to_fit/prunetofit/sat/Cnf" = some m.cls := findClass_of_methodNamed Bd.named
  have hnm := (name_of_methodNamed Bd.named Bd.method).1
  have X0 : Stand p l e ({ frames := 1, cells := 0, slots := 0, locals := 12 } : Room) s m #[(.ref a0)] below meth c s₁ [] 0 0 := Stand.of_body Bd
  have e0 : s₁.heap = h0 := by rw [← hh, Bd.state]; rfl
  have N0 := Fr.nil n0
  have pre0 : ∀ t, Steps p.tables e below (s₁.setTop (mkF m 0 #[.val (.ref a0)] [])) t → Steps p.tables e below (s₁.setTop (entryFrame m #[(.ref a0)] 1)) t := fun t k => castTop (ef_8 m a0) k
  have pre1 : ∀ t, Steps p.tables e below (s₁.setTop (mkF m 1 #[.val (.ref a0)] [(.ref a0)])) t → Steps p.tables e below (s₁.setTop (entryFrame m #[(.ref a0)] 1)) t := fun t k => pre0 t (by
    show Steps p.tables e below (s₁.setTop (mkF m 0 #[.val (.ref a0)] [])) _
    refine XS.aloadN X0.here hx rfl (hb hby d8_0) rfl rfl ?_
    exact k)
  obtain ⟨T2, X2, e2, st2⟩ := getF X0 hx hZ hown (host := "") (Or.inl (hw _ (List.mem_of_getElem? (i := 33) rfl))) Via.refl e0 F_clauses_a0 (g := (mkF m 1 #[.val (.ref a0)] [(.ref a0)])) rfl rfl (hb hby d8_1)
  have pre3 : ∀ t, Steps p.tables e below (T2.setTop (mkF m 4 #[.val (.ref a0)] [(.ref w_clauses_a0)])) t → Steps p.tables e below (s₁.setTop (entryFrame m #[(.ref a0)] 1)) t := fun t k => pre1 t (by
    show Steps p.tables e below (s₁.setTop (mkF m 1 #[.val (.ref a0)] [(.ref a0)])) _
    refine st2 _ ?_
    exact k)
  obtain ⟨cq4, kq4, q4a, q4b, q4c⟩ := isOf hZ e2 E_w_clauses_a0
  obtain ⟨_, _, ⟨T4, L4, k4, n4⟩, -, X4, ⟨Lc4, hQ4, l4, y4, z4⟩, st4⟩ := X2.interfaceBack hx (xi := (⟨"java/util/List", "size", "()I"⟩ : MethodName)) (y := (⟨"java/util/ArrayList", "size", "()I"⟩ : MethodName)) hown (mvT hZ (hw _ (List.mem_of_getElem? (i := 52) rfl))) (mvT hZ (hw _ (List.mem_of_getElem? (i := 53) rfl))) (mvT hZ (hw _ (List.mem_of_getElem? (i := 54) rfl))) (mvT hZ (hw _ (List.mem_of_getElem? (i := 55) rfl))) (mvT hZ (hw _ (List.mem_of_getElem? (i := 56) rfl))) (mvT hZ (hw _ (List.mem_of_getElem? (i := 57) rfl))) (mvT hZ (hw _ (List.mem_of_getElem? (i := 58) rfl))) (mvT hZ (hw _ (List.mem_of_getElem? (i := 59) rfl))) (by decide) (backOf (W := 0) (rm9 l Z aw hw [] w_clauses_a0 w_size_w_clauses_a0 h0 n0 Z0 F_size_w_clauses_a0) hZ (hw _ (List.mem_of_getElem? (i := 60) rfl)) (hw _ (List.mem_of_getElem? (i := 11) rfl)) (by decide) (by decide)) q4a q4b q4c (g := (mkF m 4 #[.val (.ref a0)] [(.ref w_clauses_a0)])) rfl (by rw [hml]; rfl) (Steps.refl _) (argsL := []) (rest := []) (lenOf pd_1 rfl) rfl (by show 2 * 0 + _ ≤ _; exact Nat.le_of_eq rfl) (hb hby d8_4) (fun _ _ => ⟨rfl, e2, (by decide : 0 + 0 ≤ _), (by decide : 0 + 0 ≤ _)⟩)
  dsimp only [Pt.U, Pt.locs, Pt.cells, Pt.slots] at X4 l4 y4 z4 st4 hQ4
  subst l4 y4 z4
  obtain ⟨rfl, N4q, e4⟩ := hQ4
  have N4 := Fr.app N0 N4q
  obtain ⟨fs, hr, hrun, hended, hW, hsame⟩ := X4.leave (v := some (.int (f9 w_size_w_clauses_a0))) (fun h => by rw [Bd.returns] at h; cases h)
  refine ⟨_, _, pre3 _ ?_, hrun, hended, _, _, rfl, ?_, ⟨_, rfl⟩, hW, hsame.mono (by decide) (by decide)⟩
  · show Steps p.tables e below (T2.setTop (mkF m 4 #[.val (.ref a0)] [(.ref w_clauses_a0)])) _
    refine st4.trans ?_
    show Steps p.tables e below (T4.setTop (mkF m 9 #[.val (.ref a0)] [(.int (f9 w_size_w_clauses_a0))])) _
    exact retI X4 hx Bd.returns (hb hby d8_9) hr
  · show Q8 Z a0 w_clauses_a0 w_size_w_clauses_a0 h0 n0 _ T4.heap _
    rw [e4]
    exact ⟨congrArg (fun z => some (Value.int z)) (by rfl), N4, rfl⟩
theorem d12_0 : decode prog_40_method_12_code 0 = .ok (.iload_n 1, 1) := by decide +kernel
theorem d12_1 : decode prog_40_method_12_code 1 = .ok (.ldc 22, 2) := by decide +kernel
theorem d12_3 : decode prog_40_method_12_code 3 = .ok (.if_icmp .eq 9, 3) := by decide +kernel
theorem d12_6 : decode prog_40_method_12_code 6 = .ok (.iload_n 1, 1) := by decide +kernel
theorem d12_7 : decode prog_40_method_12_code 7 = .ok (.ldc 23, 2) := by decide +kernel
theorem d12_9 : decode prog_40_method_12_code 9 = .ok (.if_icmp .ne 7, 3) := by decide +kernel
theorem d12_16 : decode prog_40_method_12_code 16 = .ok (.iconst 0, 1) := by decide +kernel
theorem d12_17 : decode prog_40_method_12_code 17 = .ok (.istore_n 2, 1) := by decide +kernel
theorem d12_18 : decode prog_40_method_12_code 18 = .ok (.iload_n 2, 1) := by decide +kernel
theorem d12_19 : decode prog_40_method_12_code 19 = .ok (.ifCond .ne 38, 3) := by decide +kernel
theorem d12_22 : decode prog_40_method_12_code 22 = .ok (.iload_n 1, 1) := by decide +kernel
theorem d12_23 : decode prog_40_method_12_code 23 = .ok (.ifCond .eq 20, 3) := by decide +kernel
theorem d12_26 : decode prog_40_method_12_code 26 = .ok (.iload_n 1, 1) := by decide +kernel
theorem d12_27 : decode prog_40_method_12_code 27 = .ok (.aload_n 0, 1) := by decide +kernel
theorem d12_28 : decode prog_40_method_12_code 28 = .ok (.getfield 18, 3) := by decide +kernel
theorem d12_31 : decode prog_40_method_12_code 31 = .ok (.if_icmp .gt 12, 3) := by decide +kernel
theorem d12_34 : decode prog_40_method_12_code 34 = .ok (.iload_n 1, 1) := by decide +kernel
theorem d12_35 : decode prog_40_method_12_code 35 = .ok (.aload_n 0, 1) := by decide +kernel
theorem d12_36 : decode prog_40_method_12_code 36 = .ok (.getfield 18, 3) := by decide +kernel
theorem d12_39 : decode prog_40_method_12_code 39 = .ok (.ineg, 1) := by decide +kernel
theorem d12_40 : decode prog_40_method_12_code 40 = .ok (.if_icmp .ge 17, 3) := by decide +kernel
theorem d12_57 : decode prog_40_method_12_code 57 = .ok (.iload_n 1, 1) := by decide +kernel
theorem ef_12 (m : MethodId) (x0 : Addr) (x1 : Int32) : entryFrame m #[(.ref x0), (.int x1)] 3 = mkF m 0 #[.val (.ref x0), .val (.int x1), .unset] [] := by first | (simp [entryFrame, mkF, argsToLocals, Value.category]; done) | rfl
def f12 (p1 : Int32) : Int32 := p1
def Q12 (Z : State) (a0 : Addr) (p1 : Int32) (w_variables_a0 : Int32) (h0 : Heap) (n0 : Nat) (v : Option Value) (h : Heap) (L : List Loc) : Prop := v = some (.int (f12 p1)) ∧ Fr n0 L ∧ h = h0
theorem d12_58 : decode prog_40_method_12_code 58 = .ok (.ireturn, 1) := by decide +kernel
set_option maxRecDepth 65536 in
set_option maxHeartbeats 40000000 in
theorem rm12 (l : Launch) (Z : State) (aw : Array Value) (hw : ∀ d ∈ tables_1, d.before aw Z = true) (ws : List Jvm.Cond) (a0 : Addr) (p1 : Int32) (w_variables_a0 : Int32) (h0 : Heap) (n0 : Nat) (Z0 : n0 ≤ h0.size) (F_variables_a0 : Fld Z h0 a0 "com/example/prune_to_fit/prunetofit/sat/Cnf" "variables" "I" (.int w_variables_a0)) (hr1 : ¬ (p1 = (2147483647 : Int32))) (hr2 : ¬ (p1 = (-2147483647 : Int32))) (hr3 : ¬ (p1 = (0 : Int32))) (hr4 : ¬ (w_variables_a0 < p1)) (hr5 : ¬ (p1 < (-w_variables_a0))) :
    MetFree l (⟨"com/example/prune_to_fit/prunetofit/sat/Cnf", "requireLiteral", "(I)I"⟩ : MethodName) (head1 (Jvm.Cond.code (⟨"com/example/prune_to_fit/prunetofit/sat/Cnf", "requireLiteral", "(I)I"⟩ : MethodName) prog_40_method_12_code 3 (some .int) :: ws) ({ frames := 0, cells := 0, slots := 0, locals := 0 } : Room)) (fun a U => a = #[(.ref a0), (.int p1)] ∧ Z.Warmed39 U.vm ∧ U.heap = h0) (fun _ _ _ _ _ => True) (fun _ U o U' => ∃ v L, o = .returned v ∧ Q12 Z a0 p1 w_variables_a0 h0 n0 v U'.heap L ∧ FrameEnd U o U' L ({ frames := 0, cells := 0, slots := 0, locals := 0 } : Room).cells ({ frames := 0, cells := 0, slots := 0, locals := 0 } : Room).slots) := by
  refine MetFree.of_bodySF (plainFor_of_name pn_0) hisR ?_
  intro p e s m args below meth c s₁ Bd hml0 hP hK
  obtain ⟨rfl, hZ, hh⟩ := hP
  have hx := Bd.exec
  have hby := Bd.bytes
  have hml : c.maxLocals = 3 := hml0
  have hown : s.vm.findClass "com/example/prune_to_fit/prunetofit/sat/Cnf" = some m.cls := findClass_of_methodNamed Bd.named
  have hnm := (name_of_methodNamed Bd.named Bd.method).1
  have X0 : Stand p l e ({ frames := 0, cells := 0, slots := 0, locals := 0 } : Room) s m #[(.ref a0), (.int p1)] below meth c s₁ [] 0 0 := Stand.of_body Bd
  have e0 : s₁.heap = h0 := by rw [← hh, Bd.state]; rfl
  have N0 := Fr.nil n0
  have pre0 : ∀ t, Steps p.tables e below (s₁.setTop (mkF m 0 #[.val (.ref a0), .val (.int p1), .unset] [])) t → Steps p.tables e below (s₁.setTop (entryFrame m #[(.ref a0), (.int p1)] 3)) t := fun t k => castTop (ef_12 m a0 p1) k
  have pre1 : ∀ t, Steps p.tables e below (s₁.setTop (mkF m 28 #[.val (.ref a0), .val (.int p1), .val (.int (0 : Int32))] [(.ref a0), (.int p1)])) t → Steps p.tables e below (s₁.setTop (entryFrame m #[(.ref a0), (.int p1)] 3)) t := fun t k => pre0 t (by
    show Steps p.tables e below (s₁.setTop (mkF m 0 #[.val (.ref a0), .val (.int p1), .unset] [])) _
    refine XS.iloadN X0.here hx rfl (hb hby d12_0) rfl ?_
    show Steps p.tables e below (s₁.setTop (mkF m 1 #[.val (.ref a0), .val (.int p1), .unset] [(.int p1)])) _
    refine X0.ldcInt hx hown (mvT hZ (hw _ (List.mem_of_getElem? (i := 76) rfl))) (g := (mkF m 1 #[.val (.ref a0), .val (.int p1), .unset] [(.int p1)])) rfl (hb hby d12_1) _ ?_
    show Steps p.tables e below (s₁.setTop (mkF m 3 #[.val (.ref a0), .val (.int p1), .unset] [(.int (2147483647 : Int32)), (.int p1)])) _
    refine XS.icmpNo X0.here hx rfl (hb hby d12_3) rfl (feq (hr1 : ¬ (p1 = (2147483647 : Int32)))).1 ?_
    show Steps p.tables e below (s₁.setTop (mkF m 6 #[.val (.ref a0), .val (.int p1), .unset] [])) _
    refine XS.iloadN X0.here hx rfl (hb hby d12_6) rfl ?_
    show Steps p.tables e below (s₁.setTop (mkF m 7 #[.val (.ref a0), .val (.int p1), .unset] [(.int p1)])) _
    refine X0.ldcInt hx hown (mvT hZ (hw _ (List.mem_of_getElem? (i := 77) rfl))) (g := (mkF m 7 #[.val (.ref a0), .val (.int p1), .unset] [(.int p1)])) rfl (hb hby d12_7) _ ?_
    show Steps p.tables e below (s₁.setTop (mkF m 9 #[.val (.ref a0), .val (.int p1), .unset] [(.int (-2147483647 : Int32)), (.int p1)])) _
    refine XS.icmpYes X0.here hx rfl (pc0 := 9) (pc' := 16) rfl (hb hby d12_9) rfl (feq (hr2 : ¬ (p1 = (-2147483647 : Int32)))).2 (by decide) (by decide) ?_
    show Steps p.tables e below (s₁.setTop (mkF m 16 #[.val (.ref a0), .val (.int p1), .unset] [])) _
    refine XS.iconst X0.here hx rfl (hb hby d12_16) ?_
    show Steps p.tables e below (s₁.setTop (mkF m 17 #[.val (.ref a0), .val (.int p1), .unset] [(.int (0 : Int32))])) _
    refine XS.istoreN X0.here hx rfl (hb hby d12_17) rfl (l' := #[.val (.ref a0), .val (.int p1), .val (.int (0 : Int32))]) rfl ?_
    show Steps p.tables e below (s₁.setTop (mkF m 18 #[.val (.ref a0), .val (.int p1), .val (.int (0 : Int32))] [])) _
    refine XS.iloadN X0.here hx rfl (hb hby d12_18) rfl ?_
    show Steps p.tables e below (s₁.setTop (mkF m 19 #[.val (.ref a0), .val (.int p1), .val (.int (0 : Int32))] [(.int (0 : Int32))])) _
    refine XS.ifNo X0.here hx rfl (hb hby d12_19) rfl ((if0 _ _).trans (teq ((by decide) : (0 : Int32) = (0 : Int32))).2) ?_
    show Steps p.tables e below (s₁.setTop (mkF m 22 #[.val (.ref a0), .val (.int p1), .val (.int (0 : Int32))] [])) _
    refine XS.iloadN X0.here hx rfl (hb hby d12_22) rfl ?_
    show Steps p.tables e below (s₁.setTop (mkF m 23 #[.val (.ref a0), .val (.int p1), .val (.int (0 : Int32))] [(.int p1)])) _
    refine XS.ifNo X0.here hx rfl (hb hby d12_23) rfl ((if0 _ _).trans (feq (hr3 : ¬ (p1 = (0 : Int32)))).1) ?_
    show Steps p.tables e below (s₁.setTop (mkF m 26 #[.val (.ref a0), .val (.int p1), .val (.int (0 : Int32))] [])) _
    refine XS.iloadN X0.here hx rfl (hb hby d12_26) rfl ?_
    show Steps p.tables e below (s₁.setTop (mkF m 27 #[.val (.ref a0), .val (.int p1), .val (.int (0 : Int32))] [(.int p1)])) _
    refine XS.aloadN X0.here hx rfl (hb hby d12_27) rfl rfl ?_
    exact k)
  obtain ⟨T2, X2, e2, st2⟩ := getF X0 hx hZ hown (host := "") (Or.inl (hw _ (List.mem_of_getElem? (i := 40) rfl))) Via.refl e0 F_variables_a0 (g := (mkF m 28 #[.val (.ref a0), .val (.int p1), .val (.int (0 : Int32))] [(.ref a0), (.int p1)])) rfl rfl (hb hby d12_28)
  have pre3 : ∀ t, Steps p.tables e below (T2.setTop (mkF m 36 #[.val (.ref a0), .val (.int p1), .val (.int (0 : Int32))] [(.ref a0), (.int p1)])) t → Steps p.tables e below (s₁.setTop (entryFrame m #[(.ref a0), (.int p1)] 3)) t := fun t k => pre1 t (by
    show Steps p.tables e below (s₁.setTop (mkF m 28 #[.val (.ref a0), .val (.int p1), .val (.int (0 : Int32))] [(.ref a0), (.int p1)])) _
    refine st2 _ ?_
    show Steps p.tables e below (T2.setTop (mkF m 31 #[.val (.ref a0), .val (.int p1), .val (.int (0 : Int32))] [(.int w_variables_a0), (.int p1)])) _
    refine XS.icmpNo X2.here hx rfl (hb hby d12_31) rfl (flt (hr4 : ¬ (w_variables_a0 < p1))).2.2.1 ?_
    show Steps p.tables e below (T2.setTop (mkF m 34 #[.val (.ref a0), .val (.int p1), .val (.int (0 : Int32))] [])) _
    refine XS.iloadN X2.here hx rfl (hb hby d12_34) rfl ?_
    show Steps p.tables e below (T2.setTop (mkF m 35 #[.val (.ref a0), .val (.int p1), .val (.int (0 : Int32))] [(.int p1)])) _
    refine XS.aloadN X2.here hx rfl (hb hby d12_35) rfl rfl ?_
    exact k)
  obtain ⟨T4, X4, e4, st4⟩ := getF X2 hx hZ hown (host := "") (Or.inl (hw _ (List.mem_of_getElem? (i := 40) rfl))) Via.refl e2 F_variables_a0 (g := (mkF m 36 #[.val (.ref a0), .val (.int p1), .val (.int (0 : Int32))] [(.ref a0), (.int p1)])) rfl rfl (hb hby d12_36)
  obtain ⟨fs, hr, hrun, hended, hW, hsame⟩ := X4.leave (v := some (.int p1)) (fun h => by rw [Bd.returns] at h; cases h)
  refine ⟨_, _, pre3 _ ?_, hrun, hended, _, _, rfl, ?_, ⟨_, rfl⟩, hW, hsame.mono (by decide) (by decide)⟩
  · show Steps p.tables e below (T2.setTop (mkF m 36 #[.val (.ref a0), .val (.int p1), .val (.int (0 : Int32))] [(.ref a0), (.int p1)])) _
    refine st4 _ ?_
    show Steps p.tables e below (T4.setTop (mkF m 39 #[.val (.ref a0), .val (.int p1), .val (.int (0 : Int32))] [(.int w_variables_a0), (.int p1)])) _
    refine XS.ineg X4.here hx rfl (hb hby d12_39) rfl ?_
    show Steps p.tables e below (T4.setTop (mkF m 40 #[.val (.ref a0), .val (.int p1), .val (.int (0 : Int32))] [(.int (-w_variables_a0)), (.int p1)])) _
    refine XS.icmpYes X4.here hx rfl (pc0 := 40) (pc' := 57) rfl (hb hby d12_40) rfl (flt (hr5 : ¬ (p1 < (-w_variables_a0)))).2.1 (by decide) (by decide) ?_
    show Steps p.tables e below (T4.setTop (mkF m 57 #[.val (.ref a0), .val (.int p1), .val (.int (0 : Int32))] [])) _
    refine XS.iloadN X4.here hx rfl (hb hby d12_57) rfl ?_
    show Steps p.tables e below (T4.setTop (mkF m 58 #[.val (.ref a0), .val (.int p1), .val (.int (0 : Int32))] [(.int p1)])) _
    exact retI X4 hx Bd.returns (hb hby d12_58) hr
  · show Q12 Z a0 p1 w_variables_a0 h0 n0 _ T4.heap _
    rw [e4]
    exact ⟨congrArg (fun z => some (Value.int z)) (by rfl), N0, rfl⟩
theorem d18_0 : decode jdk_29_method_65_code 0 = .ok (.iload_n 0, 1) := by decide +kernel
theorem d18_1 : decode jdk_29_method_65_code 1 = .ok (.iload_n 1, 1) := by decide +kernel
theorem d18_2 : decode jdk_29_method_65_code 2 = .ok (.if_icmp .lt 7, 3) := by decide +kernel
theorem d18_5 : decode jdk_29_method_65_code 5 = .ok (.iload_n 0, 1) := by decide +kernel
theorem d18_6 : decode jdk_29_method_65_code 6 = .ok (.goto 4, 3) := by decide +kernel
theorem ef_18_10_1 (m : MethodId)  : entryFrame m #[(.int (10 : Int32)), (.int (1 : Int32))] 2 = mkF m 0 #[.val (.int (10 : Int32)), .val (.int (1 : Int32))] [] := by first | (simp [entryFrame, mkF, argsToLocals, Value.category]; done) | rfl
def f18_10_1  : Int32 := (10 : Int32)
def Q18_10_1 (Z : State)  (h0 : Heap) (n0 : Nat) (v : Option Value) (h : Heap) (L : List Loc) : Prop := v = some (.int (f18_10_1 )) ∧ Fr n0 L ∧ h = h0
theorem d18_10 : decode jdk_29_method_65_code 10 = .ok (.ireturn, 1) := by decide +kernel
set_option maxRecDepth 65536 in
set_option maxHeartbeats 40000000 in
theorem rm18_10_1 (l : Launch) (Z : State) (aw : Array Value) (hw : ∀ d ∈ tables_1, d.before aw Z = true) (ws : List Jvm.Cond)  (h0 : Heap) (n0 : Nat) (Z0 : n0 ≤ h0.size) :
    MetFree l (⟨"java/lang/Math", "max", "(II)I"⟩ : MethodName) (head1 (Jvm.Cond.code (⟨"java/lang/Math", "max", "(II)I"⟩ : MethodName) jdk_29_method_65_code 2 (some .int) :: ws) ({ frames := 0, cells := 0, slots := 0, locals := 0 } : Room)) (fun a U => a = #[(.int (10 : Int32)), (.int (1 : Int32))] ∧ Z.Warmed39 U.vm ∧ U.heap = h0) (fun _ _ _ _ _ => True) (fun _ U o U' => ∃ v L, o = .returned v ∧ Q18_10_1 Z  h0 n0 v U'.heap L ∧ FrameEnd U o U' L ({ frames := 0, cells := 0, slots := 0, locals := 0 } : Room).cells ({ frames := 0, cells := 0, slots := 0, locals := 0 } : Room).slots) := by
  refine MetFree.of_bodySF (Jvm.Free.JP.mathPlain rfl (by decide +kernel)) hisR ?_
  intro p e s m args below meth c s₁ Bd hml0 hP hK
  obtain ⟨rfl, hZ, hh⟩ := hP
  have hx := Bd.exec
  have hby := Bd.bytes
  have hml : c.maxLocals = 2 := hml0
  have hown : s.vm.findClass "java/lang/Math" = some m.cls := findClass_of_methodNamed Bd.named
  have hnm := (name_of_methodNamed Bd.named Bd.method).1
  have X0 : Stand p l e ({ frames := 0, cells := 0, slots := 0, locals := 0 } : Room) s m #[(.int (10 : Int32)), (.int (1 : Int32))] below meth c s₁ [] 0 0 := Stand.of_body Bd
  have e0 : s₁.heap = h0 := by rw [← hh, Bd.state]; rfl
  have N0 := Fr.nil n0
  have pre0 : ∀ t, Steps p.tables e below (s₁.setTop (mkF m 0 #[.val (.int (10 : Int32)), .val (.int (1 : Int32))] [])) t → Steps p.tables e below (s₁.setTop (entryFrame m #[(.int (10 : Int32)), (.int (1 : Int32))] 2)) t := fun t k => castTop (ef_18_10_1 m ) k
  obtain ⟨fs, hr, hrun, hended, hW, hsame⟩ := X0.leave (v := some (.int (10 : Int32))) (fun h => by rw [Bd.returns] at h; cases h)
  refine ⟨_, _, pre0 _ ?_, hrun, hended, _, _, rfl, ?_, ⟨_, rfl⟩, hW, hsame.mono (by decide) (by decide)⟩
  · show Steps p.tables e below (s₁.setTop (mkF m 0 #[.val (.int (10 : Int32)), .val (.int (1 : Int32))] [])) _
    refine XS.iloadN X0.here hx rfl (hb hby d18_0) rfl ?_
    show Steps p.tables e below (s₁.setTop (mkF m 1 #[.val (.int (10 : Int32)), .val (.int (1 : Int32))] [(.int (10 : Int32))])) _
    refine XS.iloadN X0.here hx rfl (hb hby d18_1) rfl ?_
    show Steps p.tables e below (s₁.setTop (mkF m 2 #[.val (.int (10 : Int32)), .val (.int (1 : Int32))] [(.int (1 : Int32)), (.int (10 : Int32))])) _
    refine XS.icmpNo X0.here hx rfl (hb hby d18_2) rfl (flt ((by decide) : ¬ ((10 : Int32) < (1 : Int32)))).1 ?_
    show Steps p.tables e below (s₁.setTop (mkF m 5 #[.val (.int (10 : Int32)), .val (.int (1 : Int32))] [])) _
    refine XS.iloadN X0.here hx rfl (hb hby d18_5) rfl ?_
    show Steps p.tables e below (s₁.setTop (mkF m 6 #[.val (.int (10 : Int32)), .val (.int (1 : Int32))] [(.int (10 : Int32))])) _
    refine XS.goto X0.here hx rfl (pc0 := 6) (pc' := 10) rfl (hb hby d18_6) (by decide) (by decide) ?_
    show Steps p.tables e below (s₁.setTop (mkF m 10 #[.val (.int (10 : Int32)), .val (.int (1 : Int32))] [(.int (10 : Int32))])) _
    exact retI X0 hx Bd.returns (hb hby d18_10) hr
  · show Q18_10_1 Z  h0 n0 _ s₁.heap _
    rw [e0]
    exact ⟨congrArg (fun z => some (Value.int z)) (by rfl), N0, rfl⟩
theorem pn_7 : plainName "java/util/Arrays" = true := by first | (simp [plainName, overriddenIn]; done) | decide +kernel
theorem d13_0 : decode jdk_65_method_123_code 0 = .ok (.iload_n 1, 1) := by decide +kernel
theorem d13_1 : decode jdk_65_method_123_code 1 = .ok (.aload_n 0, 1) := by decide +kernel
theorem d13_2 : decode jdk_65_method_123_code 2 = .ok (.arraylength, 1) := by decide +kernel
theorem d13_3 : decode jdk_65_method_123_code 3 = .ok (.if_icmp .ne 11, 3) := by decide +kernel
theorem d13_6 : decode jdk_65_method_123_code 6 = .ok (.aload_n 0, 1) := by decide +kernel
theorem d13_7 : decode jdk_65_method_123_code 7 = .ok (.invokevirtual 316, 3) := by decide +kernel
theorem d13_10 : decode jdk_65_method_123_code 10 = .ok (.checkcast 317, 3) := by decide +kernel
theorem ef_13_2 (m : MethodId) (x0 : Addr) : entryFrame m #[(.ref x0), (.int (2 : Int32))] 3 = mkF m 0 #[.val (.ref x0), .val (.int (2 : Int32)), .unset] [] := by first | (simp [entryFrame, mkF, argsToLocals, Value.category]; done) | rfl
def Q13_2 (Z : State) (a0 : Addr) (ka_a0 : ClassId) (x0 : Int32) (x1 : Int32) (h0 : Heap) (n0 : Nat) (v : Option Value) (h : Heap) (L : List Loc) : Prop := v = some (.ref h0.size) ∧ Fr n0 L ∧ Keep h0 h [] ∧ Exa Z h h0.size "[I" ∧ (∃ kx, Arv Z h h0.size kx .int (2 : Int32) [(.int x0), (.int x1)] (.int (0 : Int32)))
theorem d13_13 : decode jdk_65_method_123_code 13 = .ok (.areturn, 1) := by decide +kernel
set_option maxRecDepth 65536 in
set_option maxHeartbeats 40000000 in
theorem rm13_2 (l : Launch) (Z : State) (aw : Array Value) (hw : ∀ d ∈ tables_1, d.before aw Z = true) (ws : List Jvm.Cond) (a0 : Addr) (ka_a0 : ClassId) (x0 : Int32) (x1 : Int32) (h0 : Heap) (n0 : Nat) (Z0 : n0 ≤ h0.size) (V_a0 : Arv Z h0 a0 ka_a0 .int (2 : Int32) [(.int x0), (.int x1)] (.int (0 : Int32))) (E_a0 : Exa Z h0 a0 "[I") :
    MetFree l (⟨"java/util/Arrays", "copyOf", "([II)[I"⟩ : MethodName) (head1 (Jvm.Cond.code (⟨"java/util/Arrays", "copyOf", "([II)[I"⟩ : MethodName) jdk_65_method_123_code 3 (some (.array .int)) :: ws) ({ frames := 1, cells := 1, slots := 2, locals := 14 } : Room)) (fun a U => a = #[(.ref a0), (.int (2 : Int32))] ∧ Z.Warmed39 U.vm ∧ U.heap = h0) (fun _ _ _ _ _ => True) (fun _ U o U' => ∃ v L, o = .returned v ∧ Q13_2 Z a0 ka_a0 x0 x1 h0 n0 v U'.heap L ∧ FrameEnd U o U' L ({ frames := 1, cells := 1, slots := 2, locals := 14 } : Room).cells ({ frames := 1, cells := 1, slots := 2, locals := 14 } : Room).slots) := by
  refine MetFree.of_bodySF (plainFor_of_name pn_7) hisR ?_
  intro p e s m args below meth c s₁ Bd hml0 hP hK
  obtain ⟨rfl, hZ, hh⟩ := hP
  have hx := Bd.exec
  have hby := Bd.bytes
  have hml : c.maxLocals = 3 := hml0
  have hown : s.vm.findClass "java/util/Arrays" = some m.cls := findClass_of_methodNamed Bd.named
  have hnm := (name_of_methodNamed Bd.named Bd.method).1
  have X0 : Stand p l e ({ frames := 1, cells := 1, slots := 2, locals := 14 } : Room) s m #[(.ref a0), (.int (2 : Int32))] below meth c s₁ [] 0 0 := Stand.of_body Bd
  have e0 : s₁.heap = h0 := by rw [← hh, Bd.state]; rfl
  have N0 := Fr.nil n0
  have pre0 : ∀ t, Steps p.tables e below (s₁.setTop (mkF m 0 #[.val (.ref a0), .val (.int (2 : Int32)), .unset] [])) t → Steps p.tables e below (s₁.setTop (entryFrame m #[(.ref a0), (.int (2 : Int32))] 3)) t := fun t k => castTop (ef_13_2 m a0) k
  have pre1 : ∀ t, Steps p.tables e below (s₁.setTop (mkF m 2 #[.val (.ref a0), .val (.int (2 : Int32)), .unset] [(.ref a0), (.int (2 : Int32))])) t → Steps p.tables e below (s₁.setTop (entryFrame m #[(.ref a0), (.int (2 : Int32))] 3)) t := fun t k => pre0 t (by
    show Steps p.tables e below (s₁.setTop (mkF m 0 #[.val (.ref a0), .val (.int (2 : Int32)), .unset] [])) _
    refine XS.iloadN X0.here hx rfl (hb hby d13_0) rfl ?_
    show Steps p.tables e below (s₁.setTop (mkF m 1 #[.val (.ref a0), .val (.int (2 : Int32)), .unset] [(.int (2 : Int32))])) _
    refine XS.aloadN X0.here hx rfl (hb hby d13_1) rfl rfl ?_
    exact k)
  obtain ⟨cl2, Ar2, q2, S2, M2, H2, G2⟩ := id V_a0
  have pre3 : ∀ t, Steps p.tables e below (s₁.setTop (mkF m 7 #[.val (.ref a0), .val (.int (2 : Int32)), .unset] [(.ref a0)])) t → Steps p.tables e below (s₁.setTop (entryFrame m #[(.ref a0), (.int (2 : Int32))] 3)) t := fun t k => pre1 t (by
    show Steps p.tables e below (s₁.setTop (mkF m 2 #[.val (.ref a0), .val (.int (2 : Int32)), .unset] [(.ref a0), (.int (2 : Int32))])) _
    refine X0.arraylength hx (by rw [e0]; exact Ar2.1) (State.isArrayOf_alike hZ.alike Ar2.2.1) (g := (mkF m 2 #[.val (.ref a0), .val (.int (2 : Int32)), .unset] [(.ref a0), (.int (2 : Int32))])) rfl rfl (hb hby d13_2) _ ?_
    rw [len_of S2 M2]
    show Steps p.tables e below (s₁.setTop (mkF m 3 #[.val (.ref a0), .val (.int (2 : Int32)), .unset] [(.int (2 : Int32)), (.int (2 : Int32))])) _
    refine XS.icmpNo X0.here hx rfl (hb hby d13_3) rfl (teq ((by decide) : (2 : Int32) = (2 : Int32))).2 ?_
    show Steps p.tables e below (s₁.setTop (mkF m 6 #[.val (.ref a0), .val (.int (2 : Int32)), .unset] [])) _
    refine XS.aloadN X0.here hx rfl (hb hby d13_6) rfl rfl ?_
    exact k)
  obtain ⟨T4, h4, X4, e4, E4, V_b4, A4, st4⟩ := cloneH X0 hx hZ hown (hw _ (List.mem_of_getElem? (i := 86) rfl)) (hw _ (List.mem_of_getElem? (i := 87) rfl)) (hw _ (List.mem_of_getElem? (i := 91) rfl)) (hw _ (List.mem_of_getElem? (i := 89) rfl)) (hw _ (List.mem_of_getElem? (i := 90) rfl)) (hw _ (List.mem_of_getElem? (i := 92) rfl)) e0 V_a0.arh E_a0 (g := (mkF m 7 #[.val (.ref a0), .val (.int (2 : Int32)), .unset] [(.ref a0)])) rfl (by rw [hml]; rfl) rfl (hb hby d13_7) (by decide) (W := 0) (by show 2 * 0 + _ ≤ _; exact Nat.le_of_eq rfl) (by decide) (cap := 2) (by decide) (by decide) (by decide)
  obtain ⟨b4, g4⟩ : ∃ z, z = h0.size := ⟨_, rfl⟩
  have ne_a0_b4 : a0 ≠ b4 := Nat.ne_of_lt (Nat.lt_of_lt_of_le V_a0.lt (Nat.le_of_eq g4.symm))
  have g_b4 : n0 ≤ b4 := Nat.le_trans Z0 (Nat.le_of_eq g4.symm)
  have sz_b4 : h0.size ≤ b4 := Nat.le_trans (Keep.refl h0 []).1 (Nat.le_of_eq g4.symm)
  rw [← g4] at V_b4 A4 st4
  have V_a0_4 := V_a0.ext E4
  have E_a0_4 := E_a0.ext E4
  have K4 : Keep h0 h4 [] := (Keep.refl h0 []).ext E4
  have Z4 : n0 ≤ h4.size := Nat.le_trans Z0 E4.1
  have pre5 : ∀ t, Steps p.tables e below (T4.setTop (mkF m 10 #[.val (.ref a0), .val (.int (2 : Int32)), .unset] [(.ref b4)])) t → Steps p.tables e below (s₁.setTop (entryFrame m #[(.ref a0), (.int (2 : Int32))] 3)) t := fun t k => pre3 t (by
    show Steps p.tables e below (s₁.setTop (mkF m 7 #[.val (.ref a0), .val (.int (2 : Int32)), .unset] [(.ref a0)])) _
    refine st4 _ ?_
    exact k)
  obtain ⟨T6, X6, e6, st6⟩ := castY X4 hx hZ hown (hw _ (List.mem_of_getElem? (i := 93) rfl)) e4 (Ins.self A4) (g := (mkF m 10 #[.val (.ref a0), .val (.int (2 : Int32)), .unset] [(.ref b4)])) rfl rfl (hb hby d13_10)
  obtain ⟨fs, hr, hrun, hended, hW, hsame⟩ := X6.leave (v := some (.ref b4)) (fun h => by rw [Bd.returns] at h; cases h)
  refine ⟨_, _, pre5 _ ?_, hrun, hended, _, _, rfl, ?_, ⟨_, rfl⟩, hW, hsame.mono (by decide) (by decide)⟩
  · show Steps p.tables e below (T4.setTop (mkF m 10 #[.val (.ref a0), .val (.int (2 : Int32)), .unset] [(.ref b4)])) _
    refine st6 _ ?_
    show Steps p.tables e below (T6.setTop (mkF m 13 #[.val (.ref a0), .val (.int (2 : Int32)), .unset] [(.ref b4)])) _
    jvm_step X6.here [X6.here.top, hx, (hb hby d13_13), X6.method', Bd.returns, Value.isRef, FieldType.isReference]
    first | (intro acts; rw [hr _ acts rfl rfl rfl]) | rw [hr _ _ rfl rfl rfl]
    exact Steps.refl _
  · show Q13_2 Z a0 ka_a0 x0 x1 h0 n0 _ T6.heap _
    rw [e6]
    exact ⟨congrArg (fun z => some (Value.ref z)) g4, N0, K4, (g4 ▸ A4), ⟨_, g4 ▸ V_b4⟩⟩
theorem d17_0 : decode jdk_38_method_6_code 0 = .ok (.aload_n 0, 1) := by decide +kernel
theorem d17_1 : decode jdk_38_method_6_code 1 = .ok (.getfield 9, 3) := by decide +kernel
theorem d17_4 : decode jdk_38_method_6_code 4 = .ok (.arraylength, 1) := by decide +kernel
theorem d17_5 : decode jdk_38_method_6_code 5 = .ok (.istore_n 2, 1) := by decide +kernel
theorem d17_6 : decode jdk_38_method_6_code 6 = .ok (.iload_n 2, 1) := by decide +kernel
theorem d17_7 : decode jdk_38_method_6_code 7 = .ok (.ifCond .gt 13, 3) := by decide +kernel
theorem d17_10 : decode jdk_38_method_6_code 10 = .ok (.aload_n 0, 1) := by decide +kernel
theorem d17_11 : decode jdk_38_method_6_code 11 = .ok (.getfield 9, 3) := by decide +kernel
theorem d17_14 : decode jdk_38_method_6_code 14 = .ok (.getstatic 39, 3) := by decide +kernel
theorem d17_17 : decode jdk_38_method_6_code 17 = .ok (.if_acmp .eq 28, 3) := by decide +kernel
theorem d17_45 : decode jdk_38_method_6_code 45 = .ok (.aload_n 0, 1) := by decide +kernel
theorem d17_46 : decode jdk_38_method_6_code 46 = .ok (.bipush 10, 2) := by decide +kernel
theorem d17_48 : decode jdk_38_method_6_code 48 = .ok (.iload_n 1, 1) := by decide +kernel
theorem pd_10 : parseMethodDescriptor "(II)I" = some ⟨[.int, .int], some .int⟩ := by decide +kernel
theorem d17_49 : decode jdk_38_method_6_code 49 = .ok (.invokestatic 79, 3) := by decide +kernel
theorem d17_52 : decode jdk_38_method_6_code 52 = .ok (.anewarray 7, 3) := by decide +kernel
theorem d17_55 : decode jdk_38_method_6_code 55 = .ok (.dup_x1, 1) := by decide +kernel
theorem d17_56 : decode jdk_38_method_6_code 56 = .ok (.putfield 9, 3) := by decide +kernel
theorem ef_17_1 (m : MethodId) (x0 : Addr) : entryFrame m #[(.ref x0), (.int (1 : Int32))] 4 = mkF m 0 #[.val (.ref x0), .val (.int (1 : Int32)), .unset, .unset] [] := by first | (simp [entryFrame, mkF, argsToLocals, Value.category]; done) | rfl
def f17_1_a0_size (w_modCount_a0 : Int32) : Int32 := (0 : Int32)
def f17_1_a0_modCount (w_modCount_a0 : Int32) : Int32 := w_modCount_a0
def Q17_1 (Z : State) (a0 : Addr) (w_DEFAULTCAPACITY_EMPTY_ELEMENTDATA : Addr) (ka_D : ClassId) (w_modCount_a0 : Int32) (h0 : Heap) (n0 : Nat) (v : Option Value) (h : Heap) (L : List Loc) : Prop := v = some (.ref h0.size) ∧ Fr n0 L ∧ Keep h0 h [a0] ∧ Exa Z h a0 "java/util/ArrayList" ∧ Fld Z h a0 "java/util/ArrayList" "elementData" "[Ljava/lang/Object;" (.ref h0.size) ∧ Fld Z h a0 "java/util/ArrayList" "size" "I" (.int (f17_1_a0_size w_modCount_a0)) ∧ Fld Z h a0 "java/util/AbstractList" "modCount" "I" (.int (f17_1_a0_modCount w_modCount_a0)) ∧ (∃ kx, Arv Z h h0.size kx (.object "java/lang/Object") (10 : Int32) [] .null ∧ Ovr Z kx "java/lang/Object")
theorem d17_59 : decode jdk_38_method_6_code 59 = .ok (.areturn, 1) := by decide +kernel
set_option maxRecDepth 65536 in
set_option maxHeartbeats 40000000 in
theorem rm17_1 (l : Launch) (Z : State) (aw : Array Value) (hw : ∀ d ∈ tables_1, d.before aw Z = true) (ws : List Jvm.Cond) (a0 : Addr) (w_DEFAULTCAPACITY_EMPTY_ELEMENTDATA : Addr) (ka_D : ClassId) (w_modCount_a0 : Int32) (h0 : Heap) (n0 : Nat) (Z0 : n0 ≤ h0.size) (S_DEFAULTCAPACITY_EMPTY_ELEMENTDATA : Sta Z h0 "java/util/ArrayList" "DEFAULTCAPACITY_EMPTY_ELEMENTDATA" "[Ljava/lang/Object;" (.ref w_DEFAULTCAPACITY_EMPTY_ELEMENTDATA)) (V_w_DEFAULTCAPACITY_EMPTY_ELEMENTDATA : Arv Z h0 w_DEFAULTCAPACITY_EMPTY_ELEMENTDATA ka_D (.object "java/lang/Object") (0 : Int32) [] .null) (E_a0 : Exa Z h0 a0 "java/util/ArrayList") (F_elementData_a0 : Fld Z h0 a0 "java/util/ArrayList" "elementData" "[Ljava/lang/Object;" (.ref w_DEFAULTCAPACITY_EMPTY_ELEMENTDATA)) (F_size_a0 : Fld Z h0 a0 "java/util/ArrayList" "size" "I" (.int (0 : Int32))) (F_modCount_a0 : Fld Z h0 a0 "java/util/AbstractList" "modCount" "I" (.int w_modCount_a0)) (g_a0 : n0 ≤ a0) (ne_w_DEFAULTCAPACITY_EMPTY_ELEMENTDATA_a0 : w_DEFAULTCAPACITY_EMPTY_ELEMENTDATA ≠ a0) :
    MetFree l (⟨"java/util/ArrayList", "grow", "(I)[Ljava/lang/Object;"⟩ : MethodName) (head1 (Jvm.Cond.code (⟨"java/util/ArrayList", "grow", "(I)[Ljava/lang/Object;"⟩ : MethodName) jdk_38_method_6_code 4 (some (.array (.object "java/lang/Object"))) :: ws) ({ frames := 1, cells := 1, slots := 10, locals := 14 } : Room)) (fun a U => a = #[(.ref a0), (.int (1 : Int32))] ∧ Z.Warmed39 U.vm ∧ U.heap = h0) (fun _ _ _ _ _ => True) (fun _ U o U' => ∃ v L, o = .returned v ∧ Q17_1 Z a0 w_DEFAULTCAPACITY_EMPTY_ELEMENTDATA ka_D w_modCount_a0 h0 n0 v U'.heap L ∧ FrameEnd U o U' L ({ frames := 1, cells := 1, slots := 10, locals := 14 } : Room).cells ({ frames := 1, cells := 1, slots := 10, locals := 14 } : Room).slots) := by
  refine MetFree.of_bodySF (plainFor_of_name pn_6) hisR ?_
  intro p e s m args below meth c s₁ Bd hml0 hP hK
  obtain ⟨rfl, hZ, hh⟩ := hP
  have hx := Bd.exec
  have hby := Bd.bytes
  have hml : c.maxLocals = 4 := hml0
  have hown : s.vm.findClass "java/util/ArrayList" = some m.cls := findClass_of_methodNamed Bd.named
  have hnm := (name_of_methodNamed Bd.named Bd.method).1
  have X0 : Stand p l e ({ frames := 1, cells := 1, slots := 10, locals := 14 } : Room) s m #[(.ref a0), (.int (1 : Int32))] below meth c s₁ [] 0 0 := Stand.of_body Bd
  have e0 : s₁.heap = h0 := by rw [← hh, Bd.state]; rfl
  have N0 := Fr.nil n0
  have pre0 : ∀ t, Steps p.tables e below (s₁.setTop (mkF m 0 #[.val (.ref a0), .val (.int (1 : Int32)), .unset, .unset] [])) t → Steps p.tables e below (s₁.setTop (entryFrame m #[(.ref a0), (.int (1 : Int32))] 4)) t := fun t k => castTop (ef_17_1 m a0) k
  have pre1 : ∀ t, Steps p.tables e below (s₁.setTop (mkF m 1 #[.val (.ref a0), .val (.int (1 : Int32)), .unset, .unset] [(.ref a0)])) t → Steps p.tables e below (s₁.setTop (entryFrame m #[(.ref a0), (.int (1 : Int32))] 4)) t := fun t k => pre0 t (by
    show Steps p.tables e below (s₁.setTop (mkF m 0 #[.val (.ref a0), .val (.int (1 : Int32)), .unset, .unset] [])) _
    refine XS.aloadN X0.here hx rfl (hb hby d17_0) rfl rfl ?_
    exact k)
  obtain ⟨T2, X2, e2, st2⟩ := getF X0 hx hZ hown (host := "") (Or.inl (hw _ (List.mem_of_getElem? (i := 31) rfl))) Via.refl e0 F_elementData_a0 (g := (mkF m 1 #[.val (.ref a0), .val (.int (1 : Int32)), .unset, .unset] [(.ref a0)])) rfl rfl (hb hby d17_1)
  have pre3 : ∀ t, Steps p.tables e below (T2.setTop (mkF m 4 #[.val (.ref a0), .val (.int (1 : Int32)), .unset, .unset] [(.ref w_DEFAULTCAPACITY_EMPTY_ELEMENTDATA)])) t → Steps p.tables e below (s₁.setTop (entryFrame m #[(.ref a0), (.int (1 : Int32))] 4)) t := fun t k => pre1 t (by
    show Steps p.tables e below (s₁.setTop (mkF m 1 #[.val (.ref a0), .val (.int (1 : Int32)), .unset, .unset] [(.ref a0)])) _
    refine st2 _ ?_
    exact k)
  obtain ⟨cl4, Ar4, q4, S4, M4, H4, G4⟩ := id V_w_DEFAULTCAPACITY_EMPTY_ELEMENTDATA
  have pre5 : ∀ t, Steps p.tables e below (T2.setTop (mkF m 11 #[.val (.ref a0), .val (.int (1 : Int32)), .val (.int (0 : Int32)), .unset] [(.ref a0)])) t → Steps p.tables e below (s₁.setTop (entryFrame m #[(.ref a0), (.int (1 : Int32))] 4)) t := fun t k => pre3 t (by
    show Steps p.tables e below (T2.setTop (mkF m 4 #[.val (.ref a0), .val (.int (1 : Int32)), .unset, .unset] [(.ref w_DEFAULTCAPACITY_EMPTY_ELEMENTDATA)])) _
    refine X2.arraylength hx (by rw [e2]; exact Ar4.1) (State.isArrayOf_alike hZ.alike Ar4.2.1) (g := (mkF m 4 #[.val (.ref a0), .val (.int (1 : Int32)), .unset, .unset] [(.ref w_DEFAULTCAPACITY_EMPTY_ELEMENTDATA)])) rfl rfl (hb hby d17_4) _ ?_
    rw [len_of S4 M4]
    show Steps p.tables e below (T2.setTop (mkF m 5 #[.val (.ref a0), .val (.int (1 : Int32)), .unset, .unset] [(.int (0 : Int32))])) _
    refine XS.istoreN X2.here hx rfl (hb hby d17_5) rfl (l' := #[.val (.ref a0), .val (.int (1 : Int32)), .val (.int (0 : Int32)), .unset]) rfl ?_
    show Steps p.tables e below (T2.setTop (mkF m 6 #[.val (.ref a0), .val (.int (1 : Int32)), .val (.int (0 : Int32)), .unset] [])) _
    refine XS.iloadN X2.here hx rfl (hb hby d17_6) rfl ?_
    show Steps p.tables e below (T2.setTop (mkF m 7 #[.val (.ref a0), .val (.int (1 : Int32)), .val (.int (0 : Int32)), .unset] [(.int (0 : Int32))])) _
    refine XS.ifNo X2.here hx rfl (hb hby d17_7) rfl ((if0 _ _).trans (flt ((by decide) : ¬ ((0 : Int32) < (0 : Int32)))).2.2.1) ?_
    show Steps p.tables e below (T2.setTop (mkF m 10 #[.val (.ref a0), .val (.int (1 : Int32)), .val (.int (0 : Int32)), .unset] [])) _
    refine XS.aloadN X2.here hx rfl (hb hby d17_10) rfl rfl ?_
    exact k)
  obtain ⟨T6, X6, e6, st6⟩ := getF X2 hx hZ hown (host := "") (Or.inl (hw _ (List.mem_of_getElem? (i := 31) rfl))) Via.refl e2 F_elementData_a0 (g := (mkF m 11 #[.val (.ref a0), .val (.int (1 : Int32)), .val (.int (0 : Int32)), .unset] [(.ref a0)])) rfl rfl (hb hby d17_11)
  have pre7 : ∀ t, Steps p.tables e below (T6.setTop (mkF m 14 #[.val (.ref a0), .val (.int (1 : Int32)), .val (.int (0 : Int32)), .unset] [(.ref w_DEFAULTCAPACITY_EMPTY_ELEMENTDATA)])) t → Steps p.tables e below (s₁.setTop (entryFrame m #[(.ref a0), (.int (1 : Int32))] 4)) t := fun t k => pre5 t (by
    show Steps p.tables e below (T2.setTop (mkF m 11 #[.val (.ref a0), .val (.int (1 : Int32)), .val (.int (0 : Int32)), .unset] [(.ref a0)])) _
    refine st6 _ ?_
    exact k)
  obtain ⟨T8, X8, e8, st8⟩ := getS2 X6 hx hZ hown (host := "") (Or.inl (hw _ (List.mem_of_getElem? (i := 30) rfl))) Via.refl e6 S_DEFAULTCAPACITY_EMPTY_ELEMENTDATA (g := (mkF m 14 #[.val (.ref a0), .val (.int (1 : Int32)), .val (.int (0 : Int32)), .unset] [(.ref w_DEFAULTCAPACITY_EMPTY_ELEMENTDATA)])) rfl (hb hby d17_14)
  have pre9 : ∀ t, Steps p.tables e below (T8.setTop (mkF m 49 #[.val (.ref a0), .val (.int (1 : Int32)), .val (.int (0 : Int32)), .unset] [(.int (1 : Int32)), (.int (10 : Int32)), (.ref a0)])) t → Steps p.tables e below (s₁.setTop (entryFrame m #[(.ref a0), (.int (1 : Int32))] 4)) t := fun t k => pre7 t (by
    show Steps p.tables e below (T6.setTop (mkF m 14 #[.val (.ref a0), .val (.int (1 : Int32)), .val (.int (0 : Int32)), .unset] [(.ref w_DEFAULTCAPACITY_EMPTY_ELEMENTDATA)])) _
    refine st8 _ ?_
    show Steps p.tables e below (T8.setTop (mkF m 17 #[.val (.ref a0), .val (.int (1 : Int32)), .val (.int (0 : Int32)), .unset] [(.ref w_DEFAULTCAPACITY_EMPTY_ELEMENTDATA), (.ref w_DEFAULTCAPACITY_EMPTY_ELEMENTDATA)])) _
    refine Jvm.RoadKit.acmp (g := (mkF m 17 #[.val (.ref a0), .val (.int (1 : Int32)), .val (.int (0 : Int32)), .unset] [(.ref w_DEFAULTCAPACITY_EMPTY_ELEMENTDATA), (.ref w_DEFAULTCAPACITY_EMPTY_ELEMENTDATA)])) X8 hx rfl rfl rfl (pc0 := 17) (pc' := 45) (same := true) rfl (hb hby d17_17) rfl (decide_eq_true (congrArg Value.ref rfl)) (by decide) (by decide) ?_
    show Steps p.tables e below (T8.setTop (mkF m 45 #[.val (.ref a0), .val (.int (1 : Int32)), .val (.int (0 : Int32)), .unset] [])) _
    refine XS.aloadN X8.here hx rfl (hb hby d17_45) rfl rfl ?_
    show Steps p.tables e below (T8.setTop (mkF m 46 #[.val (.ref a0), .val (.int (1 : Int32)), .val (.int (0 : Int32)), .unset] [(.ref a0)])) _
    refine XS.bipush X8.here hx rfl (hb hby d17_46) ?_
    show Steps p.tables e below (T8.setTop (mkF m 48 #[.val (.ref a0), .val (.int (1 : Int32)), .val (.int (0 : Int32)), .unset] [(.int (10 : Int32)), (.ref a0)])) _
    refine XS.iloadN X8.here hx rfl (hb hby d17_48) rfl ?_
    exact k)
  obtain ⟨_, _, ⟨T10, L10, k10, n10⟩, -, X10, ⟨Lc10, hQ10, l10, y10, z10⟩, st10⟩ := Jvm.LawKit.callS X8 hx (y := (⟨"java/lang/Math", "max", "(II)I"⟩ : MethodName)) hown (mvT hZ (hw _ (List.mem_of_getElem? (i := 120) rfl))) (mvT hZ (hw _ (List.mem_of_getElem? (i := 121) rfl))) (mvT hZ (hw _ (List.mem_of_getElem? (i := 122) rfl))) (mvT hZ (hw _ (List.mem_of_getElem? (i := 123) rfl))) (by decide) (backOf (W := 1) (rm18_10_1 l Z aw hw []  h0 n0 Z0) hZ (hw _ (List.mem_of_getElem? (i := 123) rfl)) (hw _ (List.mem_of_getElem? (i := 122) rfl)) (by decide) (by decide)) (g := (mkF m 49 #[.val (.ref a0), .val (.int (1 : Int32)), .val (.int (0 : Int32)), .unset] [(.int (1 : Int32)), (.int (10 : Int32)), (.ref a0)])) rfl (by rw [hml]; rfl) (argsL := [(.int (10 : Int32)), (.int (1 : Int32))]) (rest := [(.ref a0)]) (lenOf pd_10 rfl) rfl (by show 2 * 0 + _ ≤ _; exact Nat.le_of_eq rfl) (hb hby d17_49) (fun _ _ => ⟨rfl, e8, (by decide : 0 + 0 ≤ _), (by decide : 0 + 0 ≤ _)⟩)
  dsimp only [Pt.U, Pt.locs, Pt.cells, Pt.slots] at X10 l10 y10 z10 st10 hQ10
  subst l10 y10 z10
  obtain ⟨rfl, N10q, e10⟩ := hQ10
  have N10 := Fr.app N0 N10q
  have pre11 : ∀ t, Steps p.tables e below (T10.setTop (mkF m 52 #[.val (.ref a0), .val (.int (1 : Int32)), .val (.int (0 : Int32)), .unset] [(.int (10 : Int32)), (.ref a0)])) t → Steps p.tables e below (s₁.setTop (entryFrame m #[(.ref a0), (.int (1 : Int32))] 4)) t := fun t k => pre9 t (by
    show Steps p.tables e below (T8.setTop (mkF m 49 #[.val (.ref a0), .val (.int (1 : Int32)), .val (.int (0 : Int32)), .unset] [(.int (1 : Int32)), (.int (10 : Int32)), (.ref a0)])) _
    refine st10 _ ?_
    exact k)
  obtain ⟨T12, h12, k12, X12, e12, E12, A12, O12, st12⟩ := newR X10 hx hZ hown (hw _ (List.mem_of_getElem? (i := 124) rfl)) (hw _ (List.mem_of_getElem? (i := 125) rfl)) e10 (g := (mkF m 52 #[.val (.ref a0), .val (.int (1 : Int32)), .val (.int (0 : Int32)), .unset] [(.int (10 : Int32)), (.ref a0)])) rfl (hb hby d17_52) rfl (by decide) (cap := 10) (by decide) (by decide) (by decide) (by decide)
  obtain ⟨b12, g12⟩ : ∃ z, z = h0.size := ⟨_, rfl⟩
  have ne_a0_b12 : a0 ≠ b12 := Nat.ne_of_lt (Nat.lt_of_lt_of_le E_a0.lt (Nat.le_of_eq g12.symm))
  have ne_w_DEFAULTCAPACITY_EMPTY_ELEMENTDATA_b12 : w_DEFAULTCAPACITY_EMPTY_ELEMENTDATA ≠ b12 := Nat.ne_of_lt (Nat.lt_of_lt_of_le V_w_DEFAULTCAPACITY_EMPTY_ELEMENTDATA.lt (Nat.le_of_eq g12.symm))
  have g_b12 : n0 ≤ b12 := Nat.le_trans Z0 (Nat.le_of_eq g12.symm)
  have sz_b12 : h0.size ≤ b12 := Nat.le_trans (Keep.refl h0 [a0]).1 (Nat.le_of_eq g12.symm)
  rw [← g12] at A12 st12
  have S_DEFAULTCAPACITY_EMPTY_ELEMENTDATA_12 := S_DEFAULTCAPACITY_EMPTY_ELEMENTDATA.ext E12
  have V_w_DEFAULTCAPACITY_EMPTY_ELEMENTDATA_12 := V_w_DEFAULTCAPACITY_EMPTY_ELEMENTDATA.ext E12
  have E_a0_12 := E_a0.ext E12
  have F_elementData_a0_12 := F_elementData_a0.ext E12
  have F_size_a0_12 := F_size_a0.ext E12
  have F_modCount_a0_12 := F_modCount_a0.ext E12
  have K12 : Keep h0 h12 [a0] := (Keep.refl h0 [a0]).ext E12
  have Z12 : n0 ≤ h12.size := Nat.le_trans Z0 E12.1
  have V_b12 : Arv Z h12 b12 k12 (.object "java/lang/Object") (10 : Int32) [] .null := Arv.new A12 (by decide)
  have pre13 : ∀ t, Steps p.tables e below (T12.setTop (mkF m 56 #[.val (.ref a0), .val (.int (1 : Int32)), .val (.int (0 : Int32)), .unset] [(.ref b12), (.ref a0), (.ref b12)])) t → Steps p.tables e below (s₁.setTop (entryFrame m #[(.ref a0), (.int (1 : Int32))] 4)) t := fun t k => pre11 t (by
    show Steps p.tables e below (T10.setTop (mkF m 52 #[.val (.ref a0), .val (.int (1 : Int32)), .val (.int (0 : Int32)), .unset] [(.int (10 : Int32)), (.ref a0)])) _
    refine st12 _ ?_
    show Steps p.tables e below (T12.setTop (mkF m 55 #[.val (.ref a0), .val (.int (1 : Int32)), .val (.int (0 : Int32)), .unset] [(.ref b12), (.ref a0)])) _
    refine XS.dupX1 X12.here hx rfl (hb hby d17_55) rfl rfl rfl ?_
    exact k)
  obtain ⟨T14, h14, X14, e14, W14, st14⟩ := putF X12 hx hZ hown (host := "") (Or.inl (hw _ (List.mem_of_getElem? (i := 31) rfl))) Via.refl e12 F_elementData_a0_12 E_a0_12 (Or.inl (hw _ (List.mem_of_getElem? (i := 32) rfl))) (hw _ (List.mem_of_getElem? (i := 10) rfl)) (ty := (.array (.object "java/lang/Object"))) (by decide) rfl rfl (g := (mkF m 56 #[.val (.ref a0), .val (.int (1 : Int32)), .val (.int (0 : Int32)), .unset] [(.ref b12), (.ref a0), (.ref b12)])) rfl rfl (hb hby d17_56)
  have S_DEFAULTCAPACITY_EMPTY_ELEMENTDATA_14 := S_DEFAULTCAPACITY_EMPTY_ELEMENTDATA_12.wr W14
  have V_w_DEFAULTCAPACITY_EMPTY_ELEMENTDATA_14 := V_w_DEFAULTCAPACITY_EMPTY_ELEMENTDATA_12.other W14 ne_w_DEFAULTCAPACITY_EMPTY_ELEMENTDATA_a0
  have E_a0_14 := E_a0_12.wr W14
  have F_elementData_a0_14 := F_elementData_a0_12.same W14
  have F_size_a0_14 := F_size_a0_12.other W14 (Or.inr (slot_ne (Or.inl (hw _ (List.mem_of_getElem? (i := 62) rfl))) (Or.inl (hw _ (List.mem_of_getElem? (i := 32) rfl))) (by decide) (t := .int) (t' := (.array (.object "java/lang/Object"))) (by decide) (by decide)))
  have F_modCount_a0_14 := F_modCount_a0_12.other W14 (Or.inr (slot_ne (Or.inl (hw _ (List.mem_of_getElem? (i := 29) rfl))) (Or.inl (hw _ (List.mem_of_getElem? (i := 32) rfl))) (by decide) (t := .int) (t' := (.array (.object "java/lang/Object"))) (by decide) (by decide)))
  have V_b12_14 := V_b12.other W14 (Ne.symm ne_a0_b12)
  have K14 : Keep h0 h14 [a0] := K12.wr W14 (Or.inl (by simp))
  have N14 := Fr.snoc X14 N10 g_a0
  have Z14 : n0 ≤ h14.size := (Nat.le_trans Z12 (Nat.le_of_eq W14.size.symm))
  obtain ⟨fs, hr, hrun, hended, hW, hsame⟩ := X14.leave (v := some (.ref b12)) (fun h => by rw [Bd.returns] at h; cases h)
  refine ⟨_, _, pre13 _ ?_, hrun, hended, _, _, rfl, ?_, ⟨_, rfl⟩, hW, hsame.mono (by decide) (by decide)⟩
  · show Steps p.tables e below (T12.setTop (mkF m 56 #[.val (.ref a0), .val (.int (1 : Int32)), .val (.int (0 : Int32)), .unset] [(.ref b12), (.ref a0), (.ref b12)])) _
    refine st14 _ ?_
    show Steps p.tables e below (T14.setTop (mkF m 59 #[.val (.ref a0), .val (.int (1 : Int32)), .val (.int (0 : Int32)), .unset] [(.ref b12)])) _
    jvm_step X14.here [X14.here.top, hx, (hb hby d17_59), X14.method', Bd.returns, Value.isRef, FieldType.isReference]
    first | (intro acts; rw [hr _ acts rfl rfl rfl]) | rw [hr _ _ rfl rfl rfl]
    exact Steps.refl _
  · show Q17_1 Z a0 w_DEFAULTCAPACITY_EMPTY_ELEMENTDATA ka_D w_modCount_a0 h0 n0 _ T14.heap _
    rw [e14]
    have hF_a0_size : (0 : Int32) = f17_1_a0_size w_modCount_a0 := (by rfl)
    have hF_a0_modCount : w_modCount_a0 = f17_1_a0_modCount w_modCount_a0 := (by rfl)
    exact ⟨congrArg (fun z => some (Value.ref z)) g12, N14, K14, E_a0_14, (g12 ▸ F_elementData_a0_14), (hF_a0_size ▸ F_size_a0_14), (hF_a0_modCount ▸ F_modCount_a0_14), ⟨_, g12 ▸ V_b12_14, O12⟩⟩
theorem d16_0 : decode jdk_38_method_7_code 0 = .ok (.aload_n 0, 1) := by decide +kernel
theorem d16_1 : decode jdk_38_method_7_code 1 = .ok (.aload_n 0, 1) := by decide +kernel
theorem d16_2 : decode jdk_38_method_7_code 2 = .ok (.getfield 48, 3) := by decide +kernel
theorem d16_5 : decode jdk_38_method_7_code 5 = .ok (.iconst 1, 1) := by decide +kernel
theorem d16_6 : decode jdk_38_method_7_code 6 = .ok (.iadd, 1) := by decide +kernel
theorem pd_9 : parseMethodDescriptor "(I)[Ljava/lang/Object;" = some ⟨[.int], some (.array (.object "java/lang/Object"))⟩ := by decide +kernel
theorem d16_7 : decode jdk_38_method_7_code 7 = .ok (.invokevirtual 69, 3) := by decide +kernel
theorem ef_16 (m : MethodId) (x0 : Addr) : entryFrame m #[(.ref x0)] 1 = mkF m 0 #[.val (.ref x0)] [] := by first | (simp [entryFrame, mkF, argsToLocals, Value.category]; done) | rfl
def f16_a0_size (w_modCount_a0 : Int32) : Int32 := (0 : Int32)
def f16_a0_modCount (w_modCount_a0 : Int32) : Int32 := w_modCount_a0
def Q16 (Z : State) (a0 : Addr) (w_DEFAULTCAPACITY_EMPTY_ELEMENTDATA : Addr) (ka_D : ClassId) (w_modCount_a0 : Int32) (h0 : Heap) (n0 : Nat) (v : Option Value) (h : Heap) (L : List Loc) : Prop := v = some (.ref h0.size) ∧ Fr n0 L ∧ Keep h0 h [a0] ∧ Exa Z h a0 "java/util/ArrayList" ∧ Fld Z h a0 "java/util/ArrayList" "elementData" "[Ljava/lang/Object;" (.ref h0.size) ∧ Fld Z h a0 "java/util/ArrayList" "size" "I" (.int (f16_a0_size w_modCount_a0)) ∧ Fld Z h a0 "java/util/AbstractList" "modCount" "I" (.int (f16_a0_modCount w_modCount_a0)) ∧ (∃ kx, Arv Z h h0.size kx (.object "java/lang/Object") (10 : Int32) [] .null ∧ Ovr Z kx "java/lang/Object")
theorem d16_10 : decode jdk_38_method_7_code 10 = .ok (.areturn, 1) := by decide +kernel
set_option maxRecDepth 65536 in
set_option maxHeartbeats 40000000 in
theorem rm16 (l : Launch) (Z : State) (aw : Array Value) (hw : ∀ d ∈ tables_1, d.before aw Z = true) (ws : List Jvm.Cond) (a0 : Addr) (w_DEFAULTCAPACITY_EMPTY_ELEMENTDATA : Addr) (ka_D : ClassId) (w_modCount_a0 : Int32) (h0 : Heap) (n0 : Nat) (Z0 : n0 ≤ h0.size) (S_DEFAULTCAPACITY_EMPTY_ELEMENTDATA : Sta Z h0 "java/util/ArrayList" "DEFAULTCAPACITY_EMPTY_ELEMENTDATA" "[Ljava/lang/Object;" (.ref w_DEFAULTCAPACITY_EMPTY_ELEMENTDATA)) (V_w_DEFAULTCAPACITY_EMPTY_ELEMENTDATA : Arv Z h0 w_DEFAULTCAPACITY_EMPTY_ELEMENTDATA ka_D (.object "java/lang/Object") (0 : Int32) [] .null) (E_a0 : Exa Z h0 a0 "java/util/ArrayList") (F_elementData_a0 : Fld Z h0 a0 "java/util/ArrayList" "elementData" "[Ljava/lang/Object;" (.ref w_DEFAULTCAPACITY_EMPTY_ELEMENTDATA)) (F_size_a0 : Fld Z h0 a0 "java/util/ArrayList" "size" "I" (.int (0 : Int32))) (F_modCount_a0 : Fld Z h0 a0 "java/util/AbstractList" "modCount" "I" (.int w_modCount_a0)) (g_a0 : n0 ≤ a0) (ne_w_DEFAULTCAPACITY_EMPTY_ELEMENTDATA_a0 : w_DEFAULTCAPACITY_EMPTY_ELEMENTDATA ≠ a0) :
    MetFree l (⟨"java/util/ArrayList", "grow", "()[Ljava/lang/Object;"⟩ : MethodName) (head1 (Jvm.Cond.code (⟨"java/util/ArrayList", "grow", "()[Ljava/lang/Object;"⟩ : MethodName) jdk_38_method_7_code 1 (some (.array (.object "java/lang/Object"))) :: ws) ({ frames := 2, cells := 1, slots := 10, locals := 29 } : Room)) (fun a U => a = #[(.ref a0)] ∧ Z.Warmed39 U.vm ∧ U.heap = h0) (fun _ _ _ _ _ => True) (fun _ U o U' => ∃ v L, o = .returned v ∧ Q16 Z a0 w_DEFAULTCAPACITY_EMPTY_ELEMENTDATA ka_D w_modCount_a0 h0 n0 v U'.heap L ∧ FrameEnd U o U' L ({ frames := 2, cells := 1, slots := 10, locals := 29 } : Room).cells ({ frames := 2, cells := 1, slots := 10, locals := 29 } : Room).slots) := by
  refine MetFree.of_bodySF (plainFor_of_name pn_6) hisR ?_
  intro p e s m args below meth c s₁ Bd hml0 hP hK
  obtain ⟨rfl, hZ, hh⟩ := hP
  have hx := Bd.exec
  have hby := Bd.bytes
  have hml : c.maxLocals = 1 := hml0
  have hown : s.vm.findClass "java/util/ArrayList" = some m.cls := findClass_of_methodNamed Bd.named
  have hnm := (name_of_methodNamed Bd.named Bd.method).1
  have X0 : Stand p l e ({ frames := 2, cells := 1, slots := 10, locals := 29 } : Room) s m #[(.ref a0)] below meth c s₁ [] 0 0 := Stand.of_body Bd
  have e0 : s₁.heap = h0 := by rw [← hh, Bd.state]; rfl
  have N0 := Fr.nil n0
  have pre0 : ∀ t, Steps p.tables e below (s₁.setTop (mkF m 0 #[.val (.ref a0)] [])) t → Steps p.tables e below (s₁.setTop (entryFrame m #[(.ref a0)] 1)) t := fun t k => castTop (ef_16 m a0) k
  have pre1 : ∀ t, Steps p.tables e below (s₁.setTop (mkF m 2 #[.val (.ref a0)] [(.ref a0), (.ref a0)])) t → Steps p.tables e below (s₁.setTop (entryFrame m #[(.ref a0)] 1)) t := fun t k => pre0 t (by
    show Steps p.tables e below (s₁.setTop (mkF m 0 #[.val (.ref a0)] [])) _
    refine XS.aloadN X0.here hx rfl (hb hby d16_0) rfl rfl ?_
    show Steps p.tables e below (s₁.setTop (mkF m 1 #[.val (.ref a0)] [(.ref a0)])) _
    refine XS.aloadN X0.here hx rfl (hb hby d16_1) rfl rfl ?_
    exact k)
  obtain ⟨T2, X2, e2, st2⟩ := getF X0 hx hZ hown (host := "") (Or.inl (hw _ (List.mem_of_getElem? (i := 61) rfl))) Via.refl e0 F_size_a0 (g := (mkF m 2 #[.val (.ref a0)] [(.ref a0), (.ref a0)])) rfl rfl (hb hby d16_2)
  have pre3 : ∀ t, Steps p.tables e below (T2.setTop (mkF m 7 #[.val (.ref a0)] [(.int (1 : Int32)), (.ref a0)])) t → Steps p.tables e below (s₁.setTop (entryFrame m #[(.ref a0)] 1)) t := fun t k => pre1 t (by
    show Steps p.tables e below (s₁.setTop (mkF m 2 #[.val (.ref a0)] [(.ref a0), (.ref a0)])) _
    refine st2 _ ?_
    show Steps p.tables e below (T2.setTop (mkF m 5 #[.val (.ref a0)] [(.int (0 : Int32)), (.ref a0)])) _
    refine XS.iconst X2.here hx rfl (hb hby d16_5) ?_
    show Steps p.tables e below (T2.setTop (mkF m 6 #[.val (.ref a0)] [(.int (1 : Int32)), (.int (0 : Int32)), (.ref a0)])) _
    refine XS.iadd X2.here hx rfl (hb hby d16_6) rfl ?_
    exact k)
  obtain ⟨cq4, q4, q4'⟩ := E_a0.cell
  obtain ⟨_, _, ⟨T4, L4, k4, n4⟩, -, X4, ⟨Lc4, hQ4, l4, y4, z4⟩, st4⟩ := X2.privateBack hx (y := (⟨"java/util/ArrayList", "grow", "(I)[Ljava/lang/Object;"⟩ : MethodName)) hown (mvT hZ (hw _ (List.mem_of_getElem? (i := 115) rfl))) (mvT hZ (hw _ (List.mem_of_getElem? (i := 116) rfl))) (mvT hZ (hw _ (List.mem_of_getElem? (i := 118) rfl))) (Cond.privateMethod_at (mvP hZ (hw _ (List.mem_of_getElem? (i := 117) rfl)) (args := #[]))) (mvT hZ (hw _ (List.mem_of_getElem? (i := 119) rfl))) (by decide) (backOf (W := 0) (rm17_1 l Z aw hw [] a0 w_DEFAULTCAPACITY_EMPTY_ELEMENTDATA ka_D w_modCount_a0 h0 n0 Z0 S_DEFAULTCAPACITY_EMPTY_ELEMENTDATA V_w_DEFAULTCAPACITY_EMPTY_ELEMENTDATA E_a0 F_elementData_a0 F_size_a0 F_modCount_a0 g_a0 ne_w_DEFAULTCAPACITY_EMPTY_ELEMENTDATA_a0) hZ (hw _ (List.mem_of_getElem? (i := 119) rfl)) (hw _ (List.mem_of_getElem? (i := 11) rfl)) (by decide) (by decide)) (g := (mkF m 7 #[.val (.ref a0)] [(.int (1 : Int32)), (.ref a0)])) rfl (by rw [hml]; rfl) (Steps.refl _) (a := a0) (by rw [e2]; exact q4) q4' (argsL := [(.int (1 : Int32))]) (rest := []) (lenOf pd_9 rfl) rfl (by show 2 * 0 + _ ≤ _; exact Nat.le_of_eq rfl) (hb hby d16_7) (fun _ _ => ⟨rfl, e2, (by decide : 0 + 1 ≤ _), (by decide : 0 + 10 ≤ _)⟩)
  dsimp only [Pt.U, Pt.locs, Pt.cells, Pt.slots] at X4 l4 y4 z4 st4 hQ4
  subst l4 y4 z4
  obtain ⟨rfl, N4q, K4q, E4_a0, F4_a0_elementData, F4_a0_size, F4_a0_modCount, ⟨kx4_0, x4_0, ox4_0⟩⟩ := hQ4
  have N4 := Fr.app N0 N4q
  obtain ⟨b4, g4⟩ : ∃ z, z = h0.size := ⟨_, rfl⟩
  have ne_a0_b4 : a0 ≠ b4 := Nat.ne_of_lt (Nat.lt_of_lt_of_le E_a0.lt (Nat.le_of_eq g4.symm))
  have ne_w_DEFAULTCAPACITY_EMPTY_ELEMENTDATA_b4 : w_DEFAULTCAPACITY_EMPTY_ELEMENTDATA ≠ b4 := Nat.ne_of_lt (Nat.lt_of_lt_of_le V_w_DEFAULTCAPACITY_EMPTY_ELEMENTDATA.lt (Nat.le_of_eq g4.symm))
  have g_b4 : n0 ≤ b4 := Nat.le_trans Z0 (Nat.le_of_eq g4.symm)
  have sz_b4 : h0.size ≤ b4 := Nat.le_trans (Keep.refl h0 [a0]).1 (Nat.le_of_eq g4.symm)
  rw [← g4] at x4_0 F4_a0_elementData st4
  have S_DEFAULTCAPACITY_EMPTY_ELEMENTDATA_4 := own_sta_keep S_DEFAULTCAPACITY_EMPTY_ELEMENTDATA K4q (allS (own_exa_plain E_a0) all0)
  have V_w_DEFAULTCAPACITY_EMPTY_ELEMENTDATA_4 := V_w_DEFAULTCAPACITY_EMPTY_ELEMENTDATA.keep K4q (ninS ne_w_DEFAULTCAPACITY_EMPTY_ELEMENTDATA_a0 nin0)
  have E_a0_4 := E_a0.keep K4q
  have F4_a0_elementData' : Fld Z T4.heap a0 "java/util/ArrayList" "elementData" "[Ljava/lang/Object;" (.ref b4) := F4_a0_elementData
  have F4_a0_size' : Fld Z T4.heap a0 "java/util/ArrayList" "size" "I" (.int (0 : Int32)) := F4_a0_size
  have F4_a0_modCount' : Fld Z T4.heap a0 "java/util/AbstractList" "modCount" "I" (.int w_modCount_a0) := F4_a0_modCount
  have K4 : Keep h0 T4.heap [a0] := (Keep.refl h0 [a0]).trans K4q (allS (Or.inl (by simp)) all0)
  have Z4 : n0 ≤ T4.heap.size := Nat.le_trans Z0 K4q.1
  obtain ⟨fs, hr, hrun, hended, hW, hsame⟩ := X4.leave (v := some (.ref b4)) (fun h => by rw [Bd.returns] at h; cases h)
  refine ⟨_, _, pre3 _ ?_, hrun, hended, _, _, rfl, ?_, ⟨_, rfl⟩, hW, hsame.mono (by decide) (by decide)⟩
  · show Steps p.tables e below (T2.setTop (mkF m 7 #[.val (.ref a0)] [(.int (1 : Int32)), (.ref a0)])) _
    refine st4.trans ?_
    show Steps p.tables e below (T4.setTop (mkF m 10 #[.val (.ref a0)] [(.ref b4)])) _
    jvm_step X4.here [X4.here.top, hx, (hb hby d16_10), X4.method', Bd.returns, Value.isRef, FieldType.isReference]
    first | (intro acts; rw [hr _ acts rfl rfl rfl]) | rw [hr _ _ rfl rfl rfl]
    exact Steps.refl _
  · show Q16 Z a0 w_DEFAULTCAPACITY_EMPTY_ELEMENTDATA ka_D w_modCount_a0 h0 n0 _ T4.heap _
    have hF_a0_size : (0 : Int32) = f16_a0_size w_modCount_a0 := (by rfl)
    have hF_a0_modCount : w_modCount_a0 = f16_a0_modCount w_modCount_a0 := (by rfl)
    exact ⟨congrArg (fun z => some (Value.ref z)) g4, N4, K4, E_a0_4, (g4 ▸ F4_a0_elementData'), (hF_a0_size ▸ F4_a0_size'), (hF_a0_modCount ▸ F4_a0_modCount'), ⟨_, g4 ▸ x4_0, ox4_0⟩⟩
theorem d15_0 : decode jdk_38_method_24_code 0 = .ok (.iload_n 3, 1) := by decide +kernel
theorem d15_1 : decode jdk_38_method_24_code 1 = .ok (.aload_n 2, 1) := by decide +kernel
theorem d15_2 : decode jdk_38_method_24_code 2 = .ok (.arraylength, 1) := by decide +kernel
theorem d15_3 : decode jdk_38_method_24_code 3 = .ok (.if_icmp .ne 8, 3) := by decide +kernel
theorem d15_6 : decode jdk_38_method_24_code 6 = .ok (.aload_n 0, 1) := by decide +kernel
theorem pd_8 : parseMethodDescriptor "()[Ljava/lang/Object;" = some ⟨[], some (.array (.object "java/lang/Object"))⟩ := by decide +kernel
theorem d15_7 : decode jdk_38_method_24_code 7 = .ok (.invokevirtual 129, 3) := by decide +kernel
theorem d15_10 : decode jdk_38_method_24_code 10 = .ok (.astore_n 2, 1) := by decide +kernel
theorem d15_11 : decode jdk_38_method_24_code 11 = .ok (.aload_n 2, 1) := by decide +kernel
theorem d15_12 : decode jdk_38_method_24_code 12 = .ok (.iload_n 3, 1) := by decide +kernel
theorem d15_13 : decode jdk_38_method_24_code 13 = .ok (.aload_n 1, 1) := by decide +kernel
theorem d15_14 : decode jdk_38_method_24_code 14 = .ok (.aastore, 1) := by decide +kernel
theorem d15_15 : decode jdk_38_method_24_code 15 = .ok (.aload_n 0, 1) := by decide +kernel
theorem d15_16 : decode jdk_38_method_24_code 16 = .ok (.iload_n 3, 1) := by decide +kernel
theorem d15_17 : decode jdk_38_method_24_code 17 = .ok (.iconst 1, 1) := by decide +kernel
theorem d15_18 : decode jdk_38_method_24_code 18 = .ok (.iadd, 1) := by decide +kernel
theorem d15_19 : decode jdk_38_method_24_code 19 = .ok (.putfield 48, 3) := by decide +kernel
theorem ef_15_0 (m : MethodId) (x0 : Addr) (x1 : Addr) (x2 : Addr) : entryFrame m #[(.ref x0), (.ref x1), (.ref x2), (.int (0 : Int32))] 4 = mkF m 0 #[.val (.ref x0), .val (.ref x1), .val (.ref x2), .val (.int (0 : Int32))] [] := by first | (simp [entryFrame, mkF, argsToLocals, Value.category]; done) | rfl
def f15_0_a0_size (w_modCount_a0 : Int32) : Int32 := (1 : Int32)
def f15_0_a0_modCount (w_modCount_a0 : Int32) : Int32 := w_modCount_a0
def Q15_0 (Z : State) (a0 : Addr) (a1 : Addr) (a2 : Addr) (w_DEFAULTCAPACITY_EMPTY_ELEMENTDATA : Addr) (ka_D : ClassId) (w_modCount_a0 : Int32) (h0 : Heap) (n0 : Nat) (v : Option Value) (h : Heap) (L : List Loc) : Prop := v = none ∧ Fr n0 L ∧ Keep h0 h [a0] ∧ Exa Z h a0 "java/util/ArrayList" ∧ Fld Z h a0 "java/util/ArrayList" "size" "I" (.int (f15_0_a0_size w_modCount_a0)) ∧ Fld Z h a0 "java/util/AbstractList" "modCount" "I" (.int (f15_0_a0_modCount w_modCount_a0))
theorem d15_22 : decode jdk_38_method_24_code 22 = .ok (.return_, 1) := by decide +kernel
set_option maxRecDepth 65536 in
set_option maxHeartbeats 40000000 in
theorem rm15_0 (l : Launch) (Z : State) (aw : Array Value) (hw : ∀ d ∈ tables_1, d.before aw Z = true) (ws : List Jvm.Cond) (a0 : Addr) (a1 : Addr) (a2 : Addr) (w_DEFAULTCAPACITY_EMPTY_ELEMENTDATA : Addr) (ka_D : ClassId) (w_modCount_a0 : Int32) (h0 : Heap) (n0 : Nat) (Z0 : n0 ≤ h0.size) (S_DEFAULTCAPACITY_EMPTY_ELEMENTDATA : Sta Z h0 "java/util/ArrayList" "DEFAULTCAPACITY_EMPTY_ELEMENTDATA" "[Ljava/lang/Object;" (.ref w_DEFAULTCAPACITY_EMPTY_ELEMENTDATA)) (V_w_DEFAULTCAPACITY_EMPTY_ELEMENTDATA : Arv Z h0 w_DEFAULTCAPACITY_EMPTY_ELEMENTDATA ka_D (.object "java/lang/Object") (0 : Int32) [] .null) (E_a0 : Exa Z h0 a0 "java/util/ArrayList") (F_elementData_a0 : Fld Z h0 a0 "java/util/ArrayList" "elementData" "[Ljava/lang/Object;" (.ref w_DEFAULTCAPACITY_EMPTY_ELEMENTDATA)) (F_size_a0 : Fld Z h0 a0 "java/util/ArrayList" "size" "I" (.int (0 : Int32))) (F_modCount_a0 : Fld Z h0 a0 "java/util/AbstractList" "modCount" "I" (.int w_modCount_a0)) (E_a1 : Exa Z h0 a1 "[I") (V_a2 : Arv Z h0 a2 ka_D (.object "java/lang/Object") (0 : Int32) [] .null) (g_a0 : n0 ≤ a0) (ne_w_DEFAULTCAPACITY_EMPTY_ELEMENTDATA_a0 : w_DEFAULTCAPACITY_EMPTY_ELEMENTDATA ≠ a0) (ne_a2_a0 : a2 ≠ a0) :
    MetFree l (⟨"java/util/ArrayList", "add", "(Ljava/lang/Object;[Ljava/lang/Object;I)V"⟩ : MethodName) (head1 (Jvm.Cond.code (⟨"java/util/ArrayList", "add", "(Ljava/lang/Object;[Ljava/lang/Object;I)V"⟩ : MethodName) jdk_38_method_24_code 4 none :: ws) ({ frames := 3, cells := 1, slots := 10, locals := 41 } : Room)) (fun a U => a = #[(.ref a0), (.ref a1), (.ref a2), (.int (0 : Int32))] ∧ Z.Warmed39 U.vm ∧ U.heap = h0) (fun _ _ _ _ _ => True) (fun _ U o U' => ∃ v L, o = .returned v ∧ Q15_0 Z a0 a1 a2 w_DEFAULTCAPACITY_EMPTY_ELEMENTDATA ka_D w_modCount_a0 h0 n0 v U'.heap L ∧ FrameEnd U o U' L ({ frames := 3, cells := 1, slots := 10, locals := 41 } : Room).cells ({ frames := 3, cells := 1, slots := 10, locals := 41 } : Room).slots) := by
  refine MetFree.of_bodySF (plainFor_of_name pn_6) hisR ?_
  intro p e s m args below meth c s₁ Bd hml0 hP hK
  obtain ⟨rfl, hZ, hh⟩ := hP
  have hx := Bd.exec
  have hby := Bd.bytes
  have hml : c.maxLocals = 4 := hml0
  have hown : s.vm.findClass "java/util/ArrayList" = some m.cls := findClass_of_methodNamed Bd.named
  have hnm := (name_of_methodNamed Bd.named Bd.method).1
  have X0 : Stand p l e ({ frames := 3, cells := 1, slots := 10, locals := 41 } : Room) s m #[(.ref a0), (.ref a1), (.ref a2), (.int (0 : Int32))] below meth c s₁ [] 0 0 := Stand.of_body Bd
  have e0 : s₁.heap = h0 := by rw [← hh, Bd.state]; rfl
  have N0 := Fr.nil n0
  have pre0 : ∀ t, Steps p.tables e below (s₁.setTop (mkF m 0 #[.val (.ref a0), .val (.ref a1), .val (.ref a2), .val (.int (0 : Int32))] [])) t → Steps p.tables e below (s₁.setTop (entryFrame m #[(.ref a0), (.ref a1), (.ref a2), (.int (0 : Int32))] 4)) t := fun t k => castTop (ef_15_0 m a0 a1 a2) k
  have pre1 : ∀ t, Steps p.tables e below (s₁.setTop (mkF m 2 #[.val (.ref a0), .val (.ref a1), .val (.ref a2), .val (.int (0 : Int32))] [(.ref a2), (.int (0 : Int32))])) t → Steps p.tables e below (s₁.setTop (entryFrame m #[(.ref a0), (.ref a1), (.ref a2), (.int (0 : Int32))] 4)) t := fun t k => pre0 t (by
    show Steps p.tables e below (s₁.setTop (mkF m 0 #[.val (.ref a0), .val (.ref a1), .val (.ref a2), .val (.int (0 : Int32))] [])) _
    refine XS.iloadN X0.here hx rfl (hb hby d15_0) rfl ?_
    show Steps p.tables e below (s₁.setTop (mkF m 1 #[.val (.ref a0), .val (.ref a1), .val (.ref a2), .val (.int (0 : Int32))] [(.int (0 : Int32))])) _
    refine XS.aloadN X0.here hx rfl (hb hby d15_1) rfl rfl ?_
    exact k)
  obtain ⟨cl2, Ar2, q2, S2, M2, H2, G2⟩ := id V_a2
  have pre3 : ∀ t, Steps p.tables e below (s₁.setTop (mkF m 7 #[.val (.ref a0), .val (.ref a1), .val (.ref a2), .val (.int (0 : Int32))] [(.ref a0)])) t → Steps p.tables e below (s₁.setTop (entryFrame m #[(.ref a0), (.ref a1), (.ref a2), (.int (0 : Int32))] 4)) t := fun t k => pre1 t (by
    show Steps p.tables e below (s₁.setTop (mkF m 2 #[.val (.ref a0), .val (.ref a1), .val (.ref a2), .val (.int (0 : Int32))] [(.ref a2), (.int (0 : Int32))])) _
    refine X0.arraylength hx (by rw [e0]; exact Ar2.1) (State.isArrayOf_alike hZ.alike Ar2.2.1) (g := (mkF m 2 #[.val (.ref a0), .val (.ref a1), .val (.ref a2), .val (.int (0 : Int32))] [(.ref a2), (.int (0 : Int32))])) rfl rfl (hb hby d15_2) _ ?_
    rw [len_of S2 M2]
    show Steps p.tables e below (s₁.setTop (mkF m 3 #[.val (.ref a0), .val (.ref a1), .val (.ref a2), .val (.int (0 : Int32))] [(.int (0 : Int32)), (.int (0 : Int32))])) _
    refine XS.icmpNo X0.here hx rfl (hb hby d15_3) rfl (teq ((by decide) : (0 : Int32) = (0 : Int32))).2 ?_
    show Steps p.tables e below (s₁.setTop (mkF m 6 #[.val (.ref a0), .val (.ref a1), .val (.ref a2), .val (.int (0 : Int32))] [])) _
    refine XS.aloadN X0.here hx rfl (hb hby d15_6) rfl rfl ?_
    exact k)
  obtain ⟨cq4, q4, q4'⟩ := E_a0.cell
  obtain ⟨_, _, ⟨T4, L4, k4, n4⟩, -, X4, ⟨Lc4, hQ4, l4, y4, z4⟩, st4⟩ := X0.privateBack hx (y := (⟨"java/util/ArrayList", "grow", "()[Ljava/lang/Object;"⟩ : MethodName)) hown (mvT hZ (hw _ (List.mem_of_getElem? (i := 110) rfl))) (mvT hZ (hw _ (List.mem_of_getElem? (i := 111) rfl))) (mvT hZ (hw _ (List.mem_of_getElem? (i := 113) rfl))) (Cond.privateMethod_at (mvP hZ (hw _ (List.mem_of_getElem? (i := 112) rfl)) (args := #[]))) (mvT hZ (hw _ (List.mem_of_getElem? (i := 114) rfl))) (by decide) (backOf (W := 0) (rm16 l Z aw hw [] a0 w_DEFAULTCAPACITY_EMPTY_ELEMENTDATA ka_D w_modCount_a0 h0 n0 Z0 S_DEFAULTCAPACITY_EMPTY_ELEMENTDATA V_w_DEFAULTCAPACITY_EMPTY_ELEMENTDATA E_a0 F_elementData_a0 F_size_a0 F_modCount_a0 g_a0 ne_w_DEFAULTCAPACITY_EMPTY_ELEMENTDATA_a0) hZ (hw _ (List.mem_of_getElem? (i := 114) rfl)) (hw _ (List.mem_of_getElem? (i := 11) rfl)) (by decide) (by decide)) (g := (mkF m 7 #[.val (.ref a0), .val (.ref a1), .val (.ref a2), .val (.int (0 : Int32))] [(.ref a0)])) rfl (by rw [hml]; rfl) (Steps.refl _) (a := a0) (by rw [e0]; exact q4) q4' (argsL := []) (rest := []) (lenOf pd_8 rfl) rfl (by show 2 * 0 + _ ≤ _; exact Nat.le_of_eq rfl) (hb hby d15_7) (fun _ _ => ⟨rfl, e0, (by decide : 0 + 1 ≤ _), (by decide : 0 + 10 ≤ _)⟩)
  dsimp only [Pt.U, Pt.locs, Pt.cells, Pt.slots] at X4 l4 y4 z4 st4 hQ4
  subst l4 y4 z4
  obtain ⟨rfl, N4q, K4q, E4_a0, F4_a0_elementData, F4_a0_size, F4_a0_modCount, ⟨kx4_0, x4_0, ox4_0⟩⟩ := hQ4
  have N4 := Fr.app N0 N4q
  obtain ⟨b4, g4⟩ : ∃ z, z = h0.size := ⟨_, rfl⟩
  have ne_a0_b4 : a0 ≠ b4 := Nat.ne_of_lt (Nat.lt_of_lt_of_le E_a0.lt (Nat.le_of_eq g4.symm))
  have ne_a1_b4 : a1 ≠ b4 := Nat.ne_of_lt (Nat.lt_of_lt_of_le E_a1.lt (Nat.le_of_eq g4.symm))
  have ne_a2_b4 : a2 ≠ b4 := Nat.ne_of_lt (Nat.lt_of_lt_of_le V_a2.lt (Nat.le_of_eq g4.symm))
  have ne_w_DEFAULTCAPACITY_EMPTY_ELEMENTDATA_b4 : w_DEFAULTCAPACITY_EMPTY_ELEMENTDATA ≠ b4 := Nat.ne_of_lt (Nat.lt_of_lt_of_le V_w_DEFAULTCAPACITY_EMPTY_ELEMENTDATA.lt (Nat.le_of_eq g4.symm))
  have g_b4 : n0 ≤ b4 := Nat.le_trans Z0 (Nat.le_of_eq g4.symm)
  have sz_b4 : h0.size ≤ b4 := Nat.le_trans (Keep.refl h0 [a0]).1 (Nat.le_of_eq g4.symm)
  rw [← g4] at x4_0 F4_a0_elementData st4
  have S_DEFAULTCAPACITY_EMPTY_ELEMENTDATA_4 := own_sta_keep S_DEFAULTCAPACITY_EMPTY_ELEMENTDATA K4q (allS (own_exa_plain E_a0) all0)
  have V_w_DEFAULTCAPACITY_EMPTY_ELEMENTDATA_4 := V_w_DEFAULTCAPACITY_EMPTY_ELEMENTDATA.keep K4q (ninS ne_w_DEFAULTCAPACITY_EMPTY_ELEMENTDATA_a0 nin0)
  have E_a0_4 := E_a0.keep K4q
  have E_a1_4 := E_a1.keep K4q
  have V_a2_4 := V_a2.keep K4q (ninS ne_a2_a0 nin0)
  have F4_a0_elementData' : Fld Z T4.heap a0 "java/util/ArrayList" "elementData" "[Ljava/lang/Object;" (.ref b4) := F4_a0_elementData
  have F4_a0_size' : Fld Z T4.heap a0 "java/util/ArrayList" "size" "I" (.int (0 : Int32)) := F4_a0_size
  have F4_a0_modCount' : Fld Z T4.heap a0 "java/util/AbstractList" "modCount" "I" (.int w_modCount_a0) := F4_a0_modCount
  have K4 : Keep h0 T4.heap [a0] := (Keep.refl h0 [a0]).trans K4q (allS (Or.inl (by simp)) all0)
  have Z4 : n0 ≤ T4.heap.size := Nat.le_trans Z0 K4q.1
  have pre5 : ∀ t, Steps p.tables e below (T4.setTop (mkF m 14 #[.val (.ref a0), .val (.ref a1), .val (.ref b4), .val (.int (0 : Int32))] [(.ref a1), (.int (0 : Int32)), (.ref b4)])) t → Steps p.tables e below (s₁.setTop (entryFrame m #[(.ref a0), (.ref a1), (.ref a2), (.int (0 : Int32))] 4)) t := fun t k => pre3 t (by
    show Steps p.tables e below (s₁.setTop (mkF m 7 #[.val (.ref a0), .val (.ref a1), .val (.ref a2), .val (.int (0 : Int32))] [(.ref a0)])) _
    refine st4.trans ?_
    show Steps p.tables e below (T4.setTop (mkF m 10 #[.val (.ref a0), .val (.ref a1), .val (.ref a2), .val (.int (0 : Int32))] [(.ref b4)])) _
    refine XS.astoreN X4.here hx rfl (hb hby d15_10) rfl rfl (l' := #[.val (.ref a0), .val (.ref a1), .val (.ref b4), .val (.int (0 : Int32))]) rfl ?_
    show Steps p.tables e below (T4.setTop (mkF m 11 #[.val (.ref a0), .val (.ref a1), .val (.ref b4), .val (.int (0 : Int32))] [])) _
    refine XS.aloadN X4.here hx rfl (hb hby d15_11) rfl rfl ?_
    show Steps p.tables e below (T4.setTop (mkF m 12 #[.val (.ref a0), .val (.ref a1), .val (.ref b4), .val (.int (0 : Int32))] [(.ref b4)])) _
    refine XS.iloadN X4.here hx rfl (hb hby d15_12) rfl ?_
    show Steps p.tables e below (T4.setTop (mkF m 13 #[.val (.ref a0), .val (.ref a1), .val (.ref b4), .val (.int (0 : Int32))] [(.int (0 : Int32)), (.ref b4)])) _
    refine XS.aloadN X4.here hx rfl (hb hby d15_13) rfl rfl ?_
    exact k)
  obtain ⟨cl6, Ar6, q6, S6, M6, H6, G6⟩ := id x4_0
  have hin6 : ¬ ((0 : Int32) < 0 ∨ cl6.slots.size ≤ ((0 : Int32)).toNatClampNeg) := inb_of S6 ⟨by decide, by decide⟩
  obtain ⟨T6, h6, X6, e6, W6, st6⟩ := stR X4 hx hZ rfl Ar6 (j := (0 : Int32)) hin6 rfl (Sto.ofV Ar6 q6 ox4_0 (Ins.of_exa E_a1_4 (hw _ (List.mem_of_getElem? (i := 126) rfl)))) (g := (mkF m 14 #[.val (.ref a0), .val (.ref a1), .val (.ref b4), .val (.int (0 : Int32))] [(.ref a1), (.int (0 : Int32)), (.ref b4)])) rfl rfl (hb hby d15_14)
  have S_DEFAULTCAPACITY_EMPTY_ELEMENTDATA_6 := S_DEFAULTCAPACITY_EMPTY_ELEMENTDATA_4.wr W6
  have V_w_DEFAULTCAPACITY_EMPTY_ELEMENTDATA_6 := V_w_DEFAULTCAPACITY_EMPTY_ELEMENTDATA_4.other W6 ne_w_DEFAULTCAPACITY_EMPTY_ELEMENTDATA_b4
  have E_a0_6 := E_a0_4.wr W6
  have F4_a0_elementData'_6 := F4_a0_elementData'.other W6 (Or.inl ne_a0_b4)
  have F4_a0_size'_6 := F4_a0_size'.other W6 (Or.inl ne_a0_b4)
  have F4_a0_modCount'_6 := F4_a0_modCount'.other W6 (Or.inl ne_a0_b4)
  have E_a1_6 := E_a1_4.wr W6
  have V_a2_6 := V_a2_4.other W6 ne_a2_b4
  have K6 : Keep h0 h6 [a0] := K4.wr W6 (Or.inr sz_b4)
  have N6 := Fr.snoc X6 N4 g_b4
  have Z6 : n0 ≤ h6.size := Nat.le_trans Z4 (Nat.le_of_eq W6.size.symm)
  have pre7 : ∀ t, Steps p.tables e below (T6.setTop (mkF m 19 #[.val (.ref a0), .val (.ref a1), .val (.ref b4), .val (.int (0 : Int32))] [(.int (1 : Int32)), (.ref a0)])) t → Steps p.tables e below (s₁.setTop (entryFrame m #[(.ref a0), (.ref a1), (.ref a2), (.int (0 : Int32))] 4)) t := fun t k => pre5 t (by
    show Steps p.tables e below (T4.setTop (mkF m 14 #[.val (.ref a0), .val (.ref a1), .val (.ref b4), .val (.int (0 : Int32))] [(.ref a1), (.int (0 : Int32)), (.ref b4)])) _
    refine st6 _ ?_
    show Steps p.tables e below (T6.setTop (mkF m 15 #[.val (.ref a0), .val (.ref a1), .val (.ref b4), .val (.int (0 : Int32))] [])) _
    refine XS.aloadN X6.here hx rfl (hb hby d15_15) rfl rfl ?_
    show Steps p.tables e below (T6.setTop (mkF m 16 #[.val (.ref a0), .val (.ref a1), .val (.ref b4), .val (.int (0 : Int32))] [(.ref a0)])) _
    refine XS.iloadN X6.here hx rfl (hb hby d15_16) rfl ?_
    show Steps p.tables e below (T6.setTop (mkF m 17 #[.val (.ref a0), .val (.ref a1), .val (.ref b4), .val (.int (0 : Int32))] [(.int (0 : Int32)), (.ref a0)])) _
    refine XS.iconst X6.here hx rfl (hb hby d15_17) ?_
    show Steps p.tables e below (T6.setTop (mkF m 18 #[.val (.ref a0), .val (.ref a1), .val (.ref b4), .val (.int (0 : Int32))] [(.int (1 : Int32)), (.int (0 : Int32)), (.ref a0)])) _
    refine XS.iadd X6.here hx rfl (hb hby d15_18) rfl ?_
    exact k)
  obtain ⟨T8, h8, X8, e8, W8, st8⟩ := putF X6 hx hZ hown (host := "") (Or.inl (hw _ (List.mem_of_getElem? (i := 61) rfl))) Via.refl e6 F4_a0_size'_6 E_a0_6 (Or.inl (hw _ (List.mem_of_getElem? (i := 62) rfl))) (hw _ (List.mem_of_getElem? (i := 10) rfl)) (ty := .int) (by decide) rfl rfl (g := (mkF m 19 #[.val (.ref a0), .val (.ref a1), .val (.ref b4), .val (.int (0 : Int32))] [(.int (1 : Int32)), (.ref a0)])) rfl rfl (hb hby d15_19)
  have S_DEFAULTCAPACITY_EMPTY_ELEMENTDATA_8 := S_DEFAULTCAPACITY_EMPTY_ELEMENTDATA_6.wr W8
  have V_w_DEFAULTCAPACITY_EMPTY_ELEMENTDATA_8 := V_w_DEFAULTCAPACITY_EMPTY_ELEMENTDATA_6.other W8 ne_w_DEFAULTCAPACITY_EMPTY_ELEMENTDATA_a0
  have E_a0_8 := E_a0_6.wr W8
  have F4_a0_elementData'_8 := F4_a0_elementData'_6.other W8 (Or.inr (slot_ne (Or.inl (hw _ (List.mem_of_getElem? (i := 32) rfl))) (Or.inl (hw _ (List.mem_of_getElem? (i := 62) rfl))) (by decide) (t := (.array (.object "java/lang/Object"))) (t' := .int) (by decide) (by decide)))
  have F4_a0_size'_8 := F4_a0_size'_6.same W8
  have F4_a0_modCount'_8 := F4_a0_modCount'_6.other W8 (Or.inr (slot_ne (Or.inl (hw _ (List.mem_of_getElem? (i := 29) rfl))) (Or.inl (hw _ (List.mem_of_getElem? (i := 62) rfl))) (by decide) (t := .int) (t' := .int) (by decide) (by decide)))
  have E_a1_8 := E_a1_6.wr W8
  have V_a2_8 := V_a2_6.other W8 ne_a2_a0
  have K8 : Keep h0 h8 [a0] := K6.wr W8 (Or.inl (by simp))
  have N8 := Fr.snoc X8 N6 g_a0
  have Z8 : n0 ≤ h8.size := (Nat.le_trans Z6 (Nat.le_of_eq W8.size.symm))
  obtain ⟨fs, hr, hrun, hended, hW, hsame⟩ := X8.leave (v := none) (fun _ => rfl)
  refine ⟨_, _, pre7 _ ?_, hrun, hended, _, _, rfl, ?_, ⟨_, rfl⟩, hW, hsame.mono (by decide) (by decide)⟩
  · show Steps p.tables e below (T6.setTop (mkF m 19 #[.val (.ref a0), .val (.ref a1), .val (.ref b4), .val (.int (0 : Int32))] [(.int (1 : Int32)), (.ref a0)])) _
    refine st8 _ ?_
    show Steps p.tables e below (T8.setTop (mkF m 22 #[.val (.ref a0), .val (.ref a1), .val (.ref b4), .val (.int (0 : Int32))] [])) _
    exact X8.returnOut hx Bd.returns (hb hby d15_22) hr
  · show Q15_0 Z a0 a1 a2 w_DEFAULTCAPACITY_EMPTY_ELEMENTDATA ka_D w_modCount_a0 h0 n0 _ T8.heap _
    rw [e8]
    have hF_a0_size : (1 : Int32) = f15_0_a0_size w_modCount_a0 := (by rfl)
    have hF_a0_modCount : w_modCount_a0 = f15_0_a0_modCount w_modCount_a0 := (by rfl)
    exact ⟨rfl, N8, K8, E_a0_8, (hF_a0_size ▸ F4_a0_size'_8), (hF_a0_modCount ▸ F4_a0_modCount'_8)⟩
theorem d14_0 : decode jdk_38_method_25_code 0 = .ok (.aload_n 0, 1) := by decide +kernel
theorem d14_1 : decode jdk_38_method_25_code 1 = .ok (.dup, 1) := by decide +kernel
theorem d14_2 : decode jdk_38_method_25_code 2 = .ok (.getfield 63, 3) := by decide +kernel
theorem d14_5 : decode jdk_38_method_25_code 5 = .ok (.iconst 1, 1) := by decide +kernel
theorem d14_6 : decode jdk_38_method_25_code 6 = .ok (.iadd, 1) := by decide +kernel
theorem d14_7 : decode jdk_38_method_25_code 7 = .ok (.putfield 63, 3) := by decide +kernel
theorem d14_10 : decode jdk_38_method_25_code 10 = .ok (.aload_n 0, 1) := by decide +kernel
theorem d14_11 : decode jdk_38_method_25_code 11 = .ok (.aload_n 1, 1) := by decide +kernel
theorem d14_12 : decode jdk_38_method_25_code 12 = .ok (.aload_n 0, 1) := by decide +kernel
theorem d14_13 : decode jdk_38_method_25_code 13 = .ok (.getfield 9, 3) := by decide +kernel
theorem d14_16 : decode jdk_38_method_25_code 16 = .ok (.aload_n 0, 1) := by decide +kernel
theorem d14_17 : decode jdk_38_method_25_code 17 = .ok (.getfield 48, 3) := by decide +kernel
theorem pd_7 : parseMethodDescriptor "(Ljava/lang/Object;[Ljava/lang/Object;I)V" = some ⟨[(.object "java/lang/Object"), (.array (.object "java/lang/Object")), .int], none⟩ := by decide +kernel
theorem d14_20 : decode jdk_38_method_25_code 20 = .ok (.invokevirtual 131, 3) := by decide +kernel
theorem d14_23 : decode jdk_38_method_25_code 23 = .ok (.iconst 1, 1) := by decide +kernel
theorem ef_14 (m : MethodId) (x0 : Addr) (x1 : Addr) : entryFrame m #[(.ref x0), (.ref x1)] 2 = mkF m 0 #[.val (.ref x0), .val (.ref x1)] [] := by first | (simp [entryFrame, mkF, argsToLocals, Value.category]; done) | rfl
def f14 (w_modCount_a0 : Int32) : Int32 := (1 : Int32)
def f14_a0_size (w_modCount_a0 : Int32) : Int32 := (1 : Int32)
def f14_a0_modCount (w_modCount_a0 : Int32) : Int32 := (w_modCount_a0 + (1 : Int32))
def Q14 (Z : State) (a0 : Addr) (a1 : Addr) (w_DEFAULTCAPACITY_EMPTY_ELEMENTDATA : Addr) (ka_D : ClassId) (w_modCount_a0 : Int32) (h0 : Heap) (n0 : Nat) (v : Option Value) (h : Heap) (L : List Loc) : Prop := v = some (.int (f14 w_modCount_a0)) ∧ Fr n0 L ∧ Keep h0 h [a0] ∧ Exa Z h a0 "java/util/ArrayList" ∧ Fld Z h a0 "java/util/ArrayList" "size" "I" (.int (f14_a0_size w_modCount_a0)) ∧ Fld Z h a0 "java/util/AbstractList" "modCount" "I" (.int (f14_a0_modCount w_modCount_a0))
theorem d14_24 : decode jdk_38_method_25_code 24 = .ok (.ireturn, 1) := by decide +kernel
set_option maxRecDepth 65536 in
set_option maxHeartbeats 40000000 in
theorem rm14 (l : Launch) (Z : State) (aw : Array Value) (hw : ∀ d ∈ tables_1, d.before aw Z = true) (ws : List Jvm.Cond) (a0 : Addr) (a1 : Addr) (w_DEFAULTCAPACITY_EMPTY_ELEMENTDATA : Addr) (ka_D : ClassId) (w_modCount_a0 : Int32) (h0 : Heap) (n0 : Nat) (Z0 : n0 ≤ h0.size) (S_DEFAULTCAPACITY_EMPTY_ELEMENTDATA : Sta Z h0 "java/util/ArrayList" "DEFAULTCAPACITY_EMPTY_ELEMENTDATA" "[Ljava/lang/Object;" (.ref w_DEFAULTCAPACITY_EMPTY_ELEMENTDATA)) (V_w_DEFAULTCAPACITY_EMPTY_ELEMENTDATA : Arv Z h0 w_DEFAULTCAPACITY_EMPTY_ELEMENTDATA ka_D (.object "java/lang/Object") (0 : Int32) [] .null) (E_a0 : Exa Z h0 a0 "java/util/ArrayList") (F_elementData_a0 : Fld Z h0 a0 "java/util/ArrayList" "elementData" "[Ljava/lang/Object;" (.ref w_DEFAULTCAPACITY_EMPTY_ELEMENTDATA)) (F_size_a0 : Fld Z h0 a0 "java/util/ArrayList" "size" "I" (.int (0 : Int32))) (F_modCount_a0 : Fld Z h0 a0 "java/util/AbstractList" "modCount" "I" (.int w_modCount_a0)) (E_a1 : Exa Z h0 a1 "[I") (g_a0 : n0 ≤ a0) (ne_w_DEFAULTCAPACITY_EMPTY_ELEMENTDATA_a0 : w_DEFAULTCAPACITY_EMPTY_ELEMENTDATA ≠ a0) :
    MetFree l (⟨"java/util/ArrayList", "add", "(Ljava/lang/Object;)Z"⟩ : MethodName) (head1 (Jvm.Cond.code (⟨"java/util/ArrayList", "add", "(Ljava/lang/Object;)Z"⟩ : MethodName) jdk_38_method_25_code 2 (some .boolean) :: ws) ({ frames := 4, cells := 1, slots := 10, locals := 56 } : Room)) (fun a U => a = #[(.ref a0), (.ref a1)] ∧ Z.Warmed39 U.vm ∧ U.heap = h0) (fun _ _ _ _ _ => True) (fun _ U o U' => ∃ v L, o = .returned v ∧ Q14 Z a0 a1 w_DEFAULTCAPACITY_EMPTY_ELEMENTDATA ka_D w_modCount_a0 h0 n0 v U'.heap L ∧ FrameEnd U o U' L ({ frames := 4, cells := 1, slots := 10, locals := 56 } : Room).cells ({ frames := 4, cells := 1, slots := 10, locals := 56 } : Room).slots) := by
  refine MetFree.of_bodySF (plainFor_of_name pn_6) hisR ?_
  intro p e s m args below meth c s₁ Bd hml0 hP hK
  obtain ⟨rfl, hZ, hh⟩ := hP
  have hx := Bd.exec
  have hby := Bd.bytes
  have hml : c.maxLocals = 2 := hml0
  have hown : s.vm.findClass "java/util/ArrayList" = some m.cls := findClass_of_methodNamed Bd.named
  have hnm := (name_of_methodNamed Bd.named Bd.method).1
  have X0 : Stand p l e ({ frames := 4, cells := 1, slots := 10, locals := 56 } : Room) s m #[(.ref a0), (.ref a1)] below meth c s₁ [] 0 0 := Stand.of_body Bd
  have e0 : s₁.heap = h0 := by rw [← hh, Bd.state]; rfl
  have N0 := Fr.nil n0
  have pre0 : ∀ t, Steps p.tables e below (s₁.setTop (mkF m 0 #[.val (.ref a0), .val (.ref a1)] [])) t → Steps p.tables e below (s₁.setTop (entryFrame m #[(.ref a0), (.ref a1)] 2)) t := fun t k => castTop (ef_14 m a0 a1) k
  have pre1 : ∀ t, Steps p.tables e below (s₁.setTop (mkF m 2 #[.val (.ref a0), .val (.ref a1)] [(.ref a0), (.ref a0)])) t → Steps p.tables e below (s₁.setTop (entryFrame m #[(.ref a0), (.ref a1)] 2)) t := fun t k => pre0 t (by
    show Steps p.tables e below (s₁.setTop (mkF m 0 #[.val (.ref a0), .val (.ref a1)] [])) _
    refine XS.aloadN X0.here hx rfl (hb hby d14_0) rfl rfl ?_
    show Steps p.tables e below (s₁.setTop (mkF m 1 #[.val (.ref a0), .val (.ref a1)] [(.ref a0)])) _
    refine XS.dup X0.here hx rfl (hb hby d14_1) rfl rfl ?_
    exact k)
  obtain ⟨T2, X2, e2, st2⟩ := getF X0 hx hZ hown (host := "") (Or.inl (hw _ (List.mem_of_getElem? (i := 103) rfl))) (Via.of (hw _ (List.mem_of_getElem? (i := 104) rfl))) e0 F_modCount_a0 (g := (mkF m 2 #[.val (.ref a0), .val (.ref a1)] [(.ref a0), (.ref a0)])) rfl rfl (hb hby d14_2)
  have pre3 : ∀ t, Steps p.tables e below (T2.setTop (mkF m 7 #[.val (.ref a0), .val (.ref a1)] [(.int (w_modCount_a0 + (1 : Int32))), (.ref a0)])) t → Steps p.tables e below (s₁.setTop (entryFrame m #[(.ref a0), (.ref a1)] 2)) t := fun t k => pre1 t (by
    show Steps p.tables e below (s₁.setTop (mkF m 2 #[.val (.ref a0), .val (.ref a1)] [(.ref a0), (.ref a0)])) _
    refine st2 _ ?_
    show Steps p.tables e below (T2.setTop (mkF m 5 #[.val (.ref a0), .val (.ref a1)] [(.int w_modCount_a0), (.ref a0)])) _
    refine XS.iconst X2.here hx rfl (hb hby d14_5) ?_
    show Steps p.tables e below (T2.setTop (mkF m 6 #[.val (.ref a0), .val (.ref a1)] [(.int (1 : Int32)), (.int w_modCount_a0), (.ref a0)])) _
    refine XS.iadd X2.here hx rfl (hb hby d14_6) rfl ?_
    exact k)
  obtain ⟨T4, h4, X4, e4, W4, st4⟩ := putF X2 hx hZ hown (host := "") (Or.inl (hw _ (List.mem_of_getElem? (i := 103) rfl))) (Via.of (hw _ (List.mem_of_getElem? (i := 104) rfl))) e2 F_modCount_a0 E_a0 (Or.inl (hw _ (List.mem_of_getElem? (i := 29) rfl))) (hw _ (List.mem_of_getElem? (i := 10) rfl)) (ty := .int) (by decide) rfl rfl (g := (mkF m 7 #[.val (.ref a0), .val (.ref a1)] [(.int (w_modCount_a0 + (1 : Int32))), (.ref a0)])) rfl rfl (hb hby d14_7)
  have S_DEFAULTCAPACITY_EMPTY_ELEMENTDATA_4 := S_DEFAULTCAPACITY_EMPTY_ELEMENTDATA.wr W4
  have V_w_DEFAULTCAPACITY_EMPTY_ELEMENTDATA_4 := V_w_DEFAULTCAPACITY_EMPTY_ELEMENTDATA.other W4 ne_w_DEFAULTCAPACITY_EMPTY_ELEMENTDATA_a0
  have E_a0_4 := E_a0.wr W4
  have F_elementData_a0_4 := F_elementData_a0.other W4 (Or.inr (slot_ne (Or.inl (hw _ (List.mem_of_getElem? (i := 32) rfl))) (Or.inl (hw _ (List.mem_of_getElem? (i := 29) rfl))) (by decide) (t := (.array (.object "java/lang/Object"))) (t' := .int) (by decide) (by decide)))
  have F_size_a0_4 := F_size_a0.other W4 (Or.inr (slot_ne (Or.inl (hw _ (List.mem_of_getElem? (i := 62) rfl))) (Or.inl (hw _ (List.mem_of_getElem? (i := 29) rfl))) (by decide) (t := .int) (t' := .int) (by decide) (by decide)))
  have F_modCount_a0_4 := F_modCount_a0.same W4
  have E_a1_4 := E_a1.wr W4
  have K4 : Keep h0 h4 [a0] := (Keep.refl h0 [a0]).wr W4 (Or.inl (by simp))
  have N4 := Fr.snoc X4 N0 g_a0
  have Z4 : n0 ≤ h4.size := (Nat.le_trans Z0 (Nat.le_of_eq W4.size.symm))
  have pre5 : ∀ t, Steps p.tables e below (T4.setTop (mkF m 13 #[.val (.ref a0), .val (.ref a1)] [(.ref a0), (.ref a1), (.ref a0)])) t → Steps p.tables e below (s₁.setTop (entryFrame m #[(.ref a0), (.ref a1)] 2)) t := fun t k => pre3 t (by
    show Steps p.tables e below (T2.setTop (mkF m 7 #[.val (.ref a0), .val (.ref a1)] [(.int (w_modCount_a0 + (1 : Int32))), (.ref a0)])) _
    refine st4 _ ?_
    show Steps p.tables e below (T4.setTop (mkF m 10 #[.val (.ref a0), .val (.ref a1)] [])) _
    refine XS.aloadN X4.here hx rfl (hb hby d14_10) rfl rfl ?_
    show Steps p.tables e below (T4.setTop (mkF m 11 #[.val (.ref a0), .val (.ref a1)] [(.ref a0)])) _
    refine XS.aloadN X4.here hx rfl (hb hby d14_11) rfl rfl ?_
    show Steps p.tables e below (T4.setTop (mkF m 12 #[.val (.ref a0), .val (.ref a1)] [(.ref a1), (.ref a0)])) _
    refine XS.aloadN X4.here hx rfl (hb hby d14_12) rfl rfl ?_
    exact k)
  obtain ⟨T6, X6, e6, st6⟩ := getF X4 hx hZ hown (host := "") (Or.inl (hw _ (List.mem_of_getElem? (i := 31) rfl))) Via.refl e4 F_elementData_a0_4 (g := (mkF m 13 #[.val (.ref a0), .val (.ref a1)] [(.ref a0), (.ref a1), (.ref a0)])) rfl rfl (hb hby d14_13)
  have pre7 : ∀ t, Steps p.tables e below (T6.setTop (mkF m 17 #[.val (.ref a0), .val (.ref a1)] [(.ref a0), (.ref w_DEFAULTCAPACITY_EMPTY_ELEMENTDATA), (.ref a1), (.ref a0)])) t → Steps p.tables e below (s₁.setTop (entryFrame m #[(.ref a0), (.ref a1)] 2)) t := fun t k => pre5 t (by
    show Steps p.tables e below (T4.setTop (mkF m 13 #[.val (.ref a0), .val (.ref a1)] [(.ref a0), (.ref a1), (.ref a0)])) _
    refine st6 _ ?_
    show Steps p.tables e below (T6.setTop (mkF m 16 #[.val (.ref a0), .val (.ref a1)] [(.ref w_DEFAULTCAPACITY_EMPTY_ELEMENTDATA), (.ref a1), (.ref a0)])) _
    refine XS.aloadN X6.here hx rfl (hb hby d14_16) rfl rfl ?_
    exact k)
  obtain ⟨T8, X8, e8, st8⟩ := getF X6 hx hZ hown (host := "") (Or.inl (hw _ (List.mem_of_getElem? (i := 61) rfl))) Via.refl e6 F_size_a0_4 (g := (mkF m 17 #[.val (.ref a0), .val (.ref a1)] [(.ref a0), (.ref w_DEFAULTCAPACITY_EMPTY_ELEMENTDATA), (.ref a1), (.ref a0)])) rfl rfl (hb hby d14_17)
  have pre9 : ∀ t, Steps p.tables e below (T8.setTop (mkF m 20 #[.val (.ref a0), .val (.ref a1)] [(.int (0 : Int32)), (.ref w_DEFAULTCAPACITY_EMPTY_ELEMENTDATA), (.ref a1), (.ref a0)])) t → Steps p.tables e below (s₁.setTop (entryFrame m #[(.ref a0), (.ref a1)] 2)) t := fun t k => pre7 t (by
    show Steps p.tables e below (T6.setTop (mkF m 17 #[.val (.ref a0), .val (.ref a1)] [(.ref a0), (.ref w_DEFAULTCAPACITY_EMPTY_ELEMENTDATA), (.ref a1), (.ref a0)])) _
    refine st8 _ ?_
    exact k)
  obtain ⟨cq10, q10, q10'⟩ := E_a0_4.cell
  obtain ⟨_, _, ⟨T10, L10, k10, n10⟩, -, X10, ⟨Lc10, hQ10, l10, y10, z10⟩, st10⟩ := X8.privateBack hx (y := (⟨"java/util/ArrayList", "add", "(Ljava/lang/Object;[Ljava/lang/Object;I)V"⟩ : MethodName)) hown (mvT hZ (hw _ (List.mem_of_getElem? (i := 105) rfl))) (mvT hZ (hw _ (List.mem_of_getElem? (i := 106) rfl))) (mvT hZ (hw _ (List.mem_of_getElem? (i := 108) rfl))) (Cond.privateMethod_at (mvP hZ (hw _ (List.mem_of_getElem? (i := 107) rfl)) (args := #[]))) (mvT hZ (hw _ (List.mem_of_getElem? (i := 109) rfl))) (by decide) (backOf (W := 0) (rm15_0 l Z aw hw [] a0 a1 w_DEFAULTCAPACITY_EMPTY_ELEMENTDATA w_DEFAULTCAPACITY_EMPTY_ELEMENTDATA ka_D (w_modCount_a0 + (1 : Int32)) h4 n0 Z4 S_DEFAULTCAPACITY_EMPTY_ELEMENTDATA_4 V_w_DEFAULTCAPACITY_EMPTY_ELEMENTDATA_4 E_a0_4 F_elementData_a0_4 F_size_a0_4 F_modCount_a0_4 E_a1_4 V_w_DEFAULTCAPACITY_EMPTY_ELEMENTDATA_4 g_a0 ne_w_DEFAULTCAPACITY_EMPTY_ELEMENTDATA_a0 ne_w_DEFAULTCAPACITY_EMPTY_ELEMENTDATA_a0) hZ (hw _ (List.mem_of_getElem? (i := 109) rfl)) (hw _ (List.mem_of_getElem? (i := 11) rfl)) (by decide) (by decide)) (g := (mkF m 20 #[.val (.ref a0), .val (.ref a1)] [(.int (0 : Int32)), (.ref w_DEFAULTCAPACITY_EMPTY_ELEMENTDATA), (.ref a1), (.ref a0)])) rfl (by rw [hml]; rfl) (Steps.refl _) (a := a0) (by rw [e8]; exact q10) q10' (argsL := [(.ref a1), (.ref w_DEFAULTCAPACITY_EMPTY_ELEMENTDATA), (.int (0 : Int32))]) (rest := []) (lenOf pd_7 rfl) rfl (by show 2 * 0 + _ ≤ _; exact Nat.le_of_eq rfl) (hb hby d14_20) (fun _ _ => ⟨rfl, e8, (by decide : 0 + 1 ≤ _), (by decide : 0 + 10 ≤ _)⟩)
  dsimp only [Pt.U, Pt.locs, Pt.cells, Pt.slots] at X10 l10 y10 z10 st10 hQ10
  subst l10 y10 z10
  obtain ⟨rfl, N10q, K10q, E10_a0, F10_a0_size, F10_a0_modCount⟩ := hQ10
  have N10 := Fr.app N4 N10q
  have S_DEFAULTCAPACITY_EMPTY_ELEMENTDATA_10 := own_sta_keep S_DEFAULTCAPACITY_EMPTY_ELEMENTDATA_4 K10q (allS (own_exa_plain E_a0_4) all0)
  have V_w_DEFAULTCAPACITY_EMPTY_ELEMENTDATA_10 := V_w_DEFAULTCAPACITY_EMPTY_ELEMENTDATA_4.keep K10q (ninS ne_w_DEFAULTCAPACITY_EMPTY_ELEMENTDATA_a0 nin0)
  have E_a0_10 := E_a0_4.keep K10q
  have E_a1_10 := E_a1_4.keep K10q
  have F10_a0_size' : Fld Z T10.heap a0 "java/util/ArrayList" "size" "I" (.int (1 : Int32)) := F10_a0_size
  have F10_a0_modCount' : Fld Z T10.heap a0 "java/util/AbstractList" "modCount" "I" (.int (w_modCount_a0 + (1 : Int32))) := F10_a0_modCount
  have K10 : Keep h0 T10.heap [a0] := K4.trans K10q (allS (Or.inl (by simp)) all0)
  have Z10 : n0 ≤ T10.heap.size := Nat.le_trans Z4 K10q.1
  obtain ⟨fs, hr, hrun, hended, hW, hsame⟩ := X10.leave (v := some (.int (1 : Int32))) (fun h => by rw [Bd.returns] at h; cases h)
  refine ⟨_, _, pre9 _ ?_, hrun, hended, _, _, rfl, ?_, ⟨_, rfl⟩, hW, hsame.mono (by decide) (by decide)⟩
  · show Steps p.tables e below (T8.setTop (mkF m 20 #[.val (.ref a0), .val (.ref a1)] [(.int (0 : Int32)), (.ref w_DEFAULTCAPACITY_EMPTY_ELEMENTDATA), (.ref a1), (.ref a0)])) _
    refine st10.trans ?_
    show Steps p.tables e below (T10.setTop (mkF m 23 #[.val (.ref a0), .val (.ref a1)] [])) _
    refine XS.iconst X10.here hx rfl (hb hby d14_23) ?_
    show Steps p.tables e below (T10.setTop (mkF m 24 #[.val (.ref a0), .val (.ref a1)] [(.int (1 : Int32))])) _
    exact retN X10 hx (t := .boolean) Bd.returns (by simp) (hb hby d14_24) hr
  · show Q14 Z a0 a1 w_DEFAULTCAPACITY_EMPTY_ELEMENTDATA ka_D w_modCount_a0 h0 n0 _ T10.heap _
    have hF_a0_size : (1 : Int32) = f14_a0_size w_modCount_a0 := (by rfl)
    have hF_a0_modCount : (w_modCount_a0 + (1 : Int32)) = f14_a0_modCount w_modCount_a0 := (by rfl)
    exact ⟨congrArg (fun z => some (Value.int z)) (by rfl), N10, K10, E_a0_10, (hF_a0_size ▸ F10_a0_size'), (hF_a0_modCount ▸ F10_a0_modCount')⟩
theorem d11_0 : decode prog_40_method_3_code 0 = .ok (.aload_n 1, 1) := by decide +kernel
theorem d11_1 : decode prog_40_method_3_code 1 = .ok (.arraylength, 1) := by decide +kernel
theorem d11_2 : decode prog_40_method_3_code 2 = .ok (.newarray .int, 2) := by decide +kernel
theorem d11_4 : decode prog_40_method_3_code 4 = .ok (.astore_n 2, 1) := by decide +kernel
theorem d11_5 : decode prog_40_method_3_code 5 = .ok (.iconst 0, 1) := by decide +kernel
theorem d11_6 : decode prog_40_method_3_code 6 = .ok (.istore_n 3, 1) := by decide +kernel
theorem d11_7 : decode prog_40_method_3_code 7 = .ok (.aload_n 1, 1) := by decide +kernel
theorem d11_8 : decode prog_40_method_3_code 8 = .ok (.astore 4, 2) := by decide +kernel
theorem d11_10 : decode prog_40_method_3_code 10 = .ok (.aload 4, 2) := by decide +kernel
theorem d11_12 : decode prog_40_method_3_code 12 = .ok (.arraylength, 1) := by decide +kernel
theorem d11_13 : decode prog_40_method_3_code 13 = .ok (.istore 5, 2) := by decide +kernel
theorem d11_15 : decode prog_40_method_3_code 15 = .ok (.iconst 0, 1) := by decide +kernel
theorem d11_16 : decode prog_40_method_3_code 16 = .ok (.istore 6, 2) := by decide +kernel
theorem d11_18 : decode prog_40_method_3_code 18 = .ok (.iload 6, 2) := by decide +kernel
theorem d11_20 : decode prog_40_method_3_code 20 = .ok (.iload 5, 2) := by decide +kernel
theorem d11_22 : decode prog_40_method_3_code 22 = .ok (.if_icmp .ge 43, 3) := by decide +kernel
theorem d11_25 : decode prog_40_method_3_code 25 = .ok (.aload 4, 2) := by decide +kernel
theorem d11_27 : decode prog_40_method_3_code 27 = .ok (.iload 6, 2) := by decide +kernel
theorem d11_29 : decode prog_40_method_3_code 29 = .ok (.iaload, 1) := by decide +kernel
theorem d11_30 : decode prog_40_method_3_code 30 = .ok (.istore 7, 2) := by decide +kernel
theorem d11_32 : decode prog_40_method_3_code 32 = .ok (.iload 7, 2) := by decide +kernel
theorem d11_34 : decode prog_40_method_3_code 34 = .ok (.ldc 22, 2) := by decide +kernel
theorem d11_36 : decode prog_40_method_3_code 36 = .ok (.if_icmp .ne 4, 3) := by decide +kernel
theorem d11_40 : decode prog_40_method_3_code 40 = .ok (.iload 7, 2) := by decide +kernel
theorem d11_42 : decode prog_40_method_3_code 42 = .ok (.ldc 23, 2) := by decide +kernel
theorem d11_44 : decode prog_40_method_3_code 44 = .ok (.if_icmp .eq 15, 3) := by decide +kernel
theorem d11_47 : decode prog_40_method_3_code 47 = .ok (.aload_n 2, 1) := by decide +kernel
theorem d11_48 : decode prog_40_method_3_code 48 = .ok (.iload_n 3, 1) := by decide +kernel
theorem d11_49 : decode prog_40_method_3_code 49 = .ok (.iinc 3 1, 3) := by decide +kernel
theorem d11_52 : decode prog_40_method_3_code 52 = .ok (.aload_n 0, 1) := by decide +kernel
theorem d11_53 : decode prog_40_method_3_code 53 = .ok (.iload 7, 2) := by decide +kernel
theorem pd_3 : parseMethodDescriptor "(I)I" = some ⟨[.int], some .int⟩ := by decide +kernel
theorem d11_55 : decode prog_40_method_3_code 55 = .ok (.invokevirtual 24, 3) := by decide +kernel
theorem d11_58 : decode prog_40_method_3_code 58 = .ok (.iastore, 1) := by decide +kernel
theorem d11_59 : decode prog_40_method_3_code 59 = .ok (.iinc 6 1, 3) := by decide +kernel
theorem d11_62 : decode prog_40_method_3_code 62 = .ok (.goto (-44), 3) := by decide +kernel
theorem d11_65 : decode prog_40_method_3_code 65 = .ok (.aload_n 0, 1) := by decide +kernel
theorem d11_66 : decode prog_40_method_3_code 66 = .ok (.getfield 14, 3) := by decide +kernel
theorem d11_69 : decode prog_40_method_3_code 69 = .ok (.aload_n 2, 1) := by decide +kernel
theorem d11_70 : decode prog_40_method_3_code 70 = .ok (.iload_n 3, 1) := by decide +kernel
theorem pd_4 : parseMethodDescriptor "([II)[I" = some ⟨[(.array .int), .int], some (.array .int)⟩ := by decide +kernel
theorem d11_71 : decode prog_40_method_3_code 71 = .ok (.invokestatic 28, 3) := by decide +kernel
theorem pd_6 : parseMethodDescriptor "(Ljava/lang/Object;)Z" = some ⟨[(.object "java/lang/Object")], some .boolean⟩ := by decide +kernel
theorem d11_74 : decode prog_40_method_3_code 74 = .ok (.invokeinterface 34 2, 5) := by decide +kernel
theorem d11_79 : decode prog_40_method_3_code 79 = .ok (.pop, 1) := by decide +kernel
theorem d11_80 : decode prog_40_method_3_code 80 = .ok (.aload_n 0, 1) := by decide +kernel
theorem d11_81 : decode prog_40_method_3_code 81 = .ok (.dup, 1) := by decide +kernel
theorem d11_82 : decode prog_40_method_3_code 82 = .ok (.getfield 40, 3) := by decide +kernel
theorem d11_85 : decode prog_40_method_3_code 85 = .ok (.iload_n 3, 1) := by decide +kernel
theorem d11_86 : decode prog_40_method_3_code 86 = .ok (.iadd, 1) := by decide +kernel
theorem d11_87 : decode prog_40_method_3_code 87 = .ok (.putfield 40, 3) := by decide +kernel
theorem ef_11 (m : MethodId) (x0 : Addr) (x1 : Addr) : entryFrame m #[(.ref x0), (.ref x1)] 8 = mkF m 0 #[.val (.ref x0), .val (.ref x1), .unset, .unset, .unset, .unset, .unset, .unset] [] := by first | (simp [entryFrame, mkF, argsToLocals, Value.category]; done) | rfl
def f11_w_clauses_a0_size (n : Int32) (w_literals_a0 : Int32) (w_clauses_a0 : Addr) : Int32 := (let v16 : Int32 := (-n); (1 : Int32))
def f11_a0_variables (n : Int32) (w_literals_a0 : Int32) (w_clauses_a0 : Addr) : Int32 := (let v16 : Int32 := (-n); n)
def f11_a0_literals (n : Int32) (w_literals_a0 : Int32) (w_clauses_a0 : Addr) : Int32 := (let v16 : Int32 := (-n); (w_literals_a0 + (2 : Int32)))
def f11_a0_clauses (n : Int32) (w_literals_a0 : Int32) (w_clauses_a0 : Addr) : Addr := (let v16 : Int32 := (-n); w_clauses_a0)
def Q11 (Z : State) (a0 : Addr) (a1 : Addr) (n : Int32) (ka_a1 : ClassId) (w_literals_a0 : Int32) (w_clauses_a0 : Addr) (w_DEFAULTCAPACITY_EMPTY_ELEMENTDATA : Addr) (ka_D : ClassId) (w_modCount_w_clauses_a0 : Int32) (h0 : Heap) (n0 : Nat) (v : Option Value) (h : Heap) (L : List Loc) : Prop := v = none ∧ Fr n0 L ∧ Keep h0 h [w_clauses_a0, a0] ∧ Exa Z h w_clauses_a0 "java/util/ArrayList" ∧ Exa Z h a0 "com/example/prune_to_fit/prunetofit/sat/Cnf" ∧ Fld Z h w_clauses_a0 "java/util/ArrayList" "size" "I" (.int (f11_w_clauses_a0_size n w_literals_a0 w_clauses_a0)) ∧ Fld Z h a0 "com/example/prune_to_fit/prunetofit/sat/Cnf" "variables" "I" (.int (f11_a0_variables n w_literals_a0 w_clauses_a0)) ∧ Fld Z h a0 "com/example/prune_to_fit/prunetofit/sat/Cnf" "literals" "I" (.int (f11_a0_literals n w_literals_a0 w_clauses_a0)) ∧ Fld Z h a0 "com/example/prune_to_fit/prunetofit/sat/Cnf" "clauses" "Ljava/util/List;" (.ref (f11_a0_clauses n w_literals_a0 w_clauses_a0))
theorem d11_90 : decode prog_40_method_3_code 90 = .ok (.return_, 1) := by decide +kernel
theorem own_sh_1 (n : Int32) (w_literals_a0 : Int32) (w_modCount_w_clauses_a0 : Int32) (hr : n = (1 : Int32) ∨ n = (2 : Int32) ∨ n = (3 : Int32)) : ¬ (n = (2147483647 : Int32)) := by
  rcases hr with rfl | rfl | rfl <;> (try subst_vars) <;> decide
theorem own_sh_2 (n : Int32) (w_literals_a0 : Int32) (w_modCount_w_clauses_a0 : Int32) (hr : n = (1 : Int32) ∨ n = (2 : Int32) ∨ n = (3 : Int32)) : ¬ (n = (-2147483647 : Int32)) := by
  rcases hr with rfl | rfl | rfl <;> (try subst_vars) <;> decide
theorem own_rl1_1 (n : Int32) (w_literals_a0 : Int32) (w_modCount_w_clauses_a0 : Int32) (hr : n = (1 : Int32) ∨ n = (2 : Int32) ∨ n = (3 : Int32)) : ¬ (n = (2147483647 : Int32)) := by
  rcases hr with rfl | rfl | rfl <;> (try subst_vars) <;> decide
theorem own_rl2_1 (n : Int32) (w_literals_a0 : Int32) (w_modCount_w_clauses_a0 : Int32) (hr : n = (1 : Int32) ∨ n = (2 : Int32) ∨ n = (3 : Int32)) : ¬ (n = (-2147483647 : Int32)) := by
  rcases hr with rfl | rfl | rfl <;> (try subst_vars) <;> decide
theorem own_rl3_1 (n : Int32) (w_literals_a0 : Int32) (w_modCount_w_clauses_a0 : Int32) (hr : n = (1 : Int32) ∨ n = (2 : Int32) ∨ n = (3 : Int32)) : ¬ (n = (0 : Int32)) := by
  rcases hr with rfl | rfl | rfl <;> (try subst_vars) <;> decide
theorem own_rl4_1 (n : Int32) (w_literals_a0 : Int32) (w_modCount_w_clauses_a0 : Int32) (hr : n = (1 : Int32) ∨ n = (2 : Int32) ∨ n = (3 : Int32)) : ¬ (n < n) := by
  rcases hr with rfl | rfl | rfl <;> (try subst_vars) <;> decide
theorem own_rl5_1 (n : Int32) (w_literals_a0 : Int32) (w_modCount_w_clauses_a0 : Int32) (hr : n = (1 : Int32) ∨ n = (2 : Int32) ∨ n = (3 : Int32)) : ¬ (n < (-n)) := by
  rcases hr with rfl | rfl | rfl <;> (try subst_vars) <;> decide
theorem own_sh_3 (n : Int32) (w_literals_a0 : Int32) (w_modCount_w_clauses_a0 : Int32) (hr : n = (1 : Int32) ∨ n = (2 : Int32) ∨ n = (3 : Int32)) (v16 : Int32) (hv16 : v16 = (-n)) : ¬ (v16 = (2147483647 : Int32)) := by
  rcases hr with rfl | rfl | rfl <;> (try subst_vars) <;> decide
theorem own_sh_4 (n : Int32) (w_literals_a0 : Int32) (w_modCount_w_clauses_a0 : Int32) (hr : n = (1 : Int32) ∨ n = (2 : Int32) ∨ n = (3 : Int32)) (v16 : Int32) (hv16 : v16 = (-n)) : ¬ (v16 = (-2147483647 : Int32)) := by
  rcases hr with rfl | rfl | rfl <;> (try subst_vars) <;> decide
theorem own_rl1_2 (n : Int32) (w_literals_a0 : Int32) (w_modCount_w_clauses_a0 : Int32) (hr : n = (1 : Int32) ∨ n = (2 : Int32) ∨ n = (3 : Int32)) (v16 : Int32) (hv16 : v16 = (-n)) : ¬ (v16 = (2147483647 : Int32)) := by
  rcases hr with rfl | rfl | rfl <;> (try subst_vars) <;> decide
theorem own_rl2_2 (n : Int32) (w_literals_a0 : Int32) (w_modCount_w_clauses_a0 : Int32) (hr : n = (1 : Int32) ∨ n = (2 : Int32) ∨ n = (3 : Int32)) (v16 : Int32) (hv16 : v16 = (-n)) : ¬ (v16 = (-2147483647 : Int32)) := by
  rcases hr with rfl | rfl | rfl <;> (try subst_vars) <;> decide
theorem own_rl3_2 (n : Int32) (w_literals_a0 : Int32) (w_modCount_w_clauses_a0 : Int32) (hr : n = (1 : Int32) ∨ n = (2 : Int32) ∨ n = (3 : Int32)) (v16 : Int32) (hv16 : v16 = (-n)) : ¬ (v16 = (0 : Int32)) := by
  rcases hr with rfl | rfl | rfl <;> (try subst_vars) <;> decide
theorem own_rl4_2 (n : Int32) (w_literals_a0 : Int32) (w_modCount_w_clauses_a0 : Int32) (hr : n = (1 : Int32) ∨ n = (2 : Int32) ∨ n = (3 : Int32)) (v16 : Int32) (hv16 : v16 = (-n)) : ¬ (n < v16) := by
  rcases hr with rfl | rfl | rfl <;> (try subst_vars) <;> decide
theorem own_rl5_2 (n : Int32) (w_literals_a0 : Int32) (w_modCount_w_clauses_a0 : Int32) (hr : n = (1 : Int32) ∨ n = (2 : Int32) ∨ n = (3 : Int32)) (v16 : Int32) (hv16 : v16 = (-n)) : ¬ (v16 < (-n)) := by
  rcases hr with rfl | rfl | rfl <;> (try subst_vars) <;> decide
set_option maxRecDepth 65536 in
set_option maxHeartbeats 40000000 in
theorem rm11 (l : Launch) (Z : State) (aw : Array Value) (hw : ∀ d ∈ tables_1, d.before aw Z = true) (ws : List Jvm.Cond) (a0 : Addr) (a1 : Addr) (n : Int32) (ka_a1 : ClassId) (w_literals_a0 : Int32) (w_clauses_a0 : Addr) (w_DEFAULTCAPACITY_EMPTY_ELEMENTDATA : Addr) (ka_D : ClassId) (w_modCount_w_clauses_a0 : Int32) (h0 : Heap) (n0 : Nat) (Z0 : n0 ≤ h0.size) (hr : n = (1 : Int32) ∨ n = (2 : Int32) ∨ n = (3 : Int32)) (F_variables_a0 : Fld Z h0 a0 "com/example/prune_to_fit/prunetofit/sat/Cnf" "variables" "I" (.int n)) (V_a1 : Arv Z h0 a1 ka_a1 .int (2 : Int32) [(.int n), (.int (-n))] (.int (0 : Int32))) (E_a0 : Exa Z h0 a0 "com/example/prune_to_fit/prunetofit/sat/Cnf") (F_literals_a0 : Fld Z h0 a0 "com/example/prune_to_fit/prunetofit/sat/Cnf" "literals" "I" (.int w_literals_a0)) (F_clauses_a0 : Fld Z h0 a0 "com/example/prune_to_fit/prunetofit/sat/Cnf" "clauses" "Ljava/util/List;" (.ref w_clauses_a0)) (S_DEFAULTCAPACITY_EMPTY_ELEMENTDATA : Sta Z h0 "java/util/ArrayList" "DEFAULTCAPACITY_EMPTY_ELEMENTDATA" "[Ljava/lang/Object;" (.ref w_DEFAULTCAPACITY_EMPTY_ELEMENTDATA)) (V_w_DEFAULTCAPACITY_EMPTY_ELEMENTDATA : Arv Z h0 w_DEFAULTCAPACITY_EMPTY_ELEMENTDATA ka_D (.object "java/lang/Object") (0 : Int32) [] .null) (E_w_clauses_a0 : Exa Z h0 w_clauses_a0 "java/util/ArrayList") (F_elementData_w_clauses_a0 : Fld Z h0 w_clauses_a0 "java/util/ArrayList" "elementData" "[Ljava/lang/Object;" (.ref w_DEFAULTCAPACITY_EMPTY_ELEMENTDATA)) (F_size_w_clauses_a0 : Fld Z h0 w_clauses_a0 "java/util/ArrayList" "size" "I" (.int (0 : Int32))) (F_modCount_w_clauses_a0 : Fld Z h0 w_clauses_a0 "java/util/AbstractList" "modCount" "I" (.int w_modCount_w_clauses_a0)) (g_w_clauses_a0 : n0 ≤ w_clauses_a0) (ne_w_DEFAULTCAPACITY_EMPTY_ELEMENTDATA_w_clauses_a0 : w_DEFAULTCAPACITY_EMPTY_ELEMENTDATA ≠ w_clauses_a0) (ne_a0_w_clauses_a0 : a0 ≠ w_clauses_a0) (ne_a1_w_clauses_a0 : a1 ≠ w_clauses_a0) (g_a0 : n0 ≤ a0) (ne_a1_a0 : a1 ≠ a0) (ne_w_DEFAULTCAPACITY_EMPTY_ELEMENTDATA_a0 : w_DEFAULTCAPACITY_EMPTY_ELEMENTDATA ≠ a0) :
    MetFree l (⟨"com/example/prune_to_fit/prunetofit/sat/Cnf", "add", "([I)V"⟩ : MethodName) (head1 (Jvm.Cond.code (⟨"com/example/prune_to_fit/prunetofit/sat/Cnf", "add", "([I)V"⟩ : MethodName) prog_40_method_3_code 8 none :: ws) ({ frames := 5, cells := 3, slots := 14, locals := 69 } : Room)) (fun a U => a = #[(.ref a0), (.ref a1)] ∧ Z.Warmed39 U.vm ∧ U.heap = h0) (fun _ _ _ _ _ => True) (fun _ U o U' => ∃ v L, o = .returned v ∧ Q11 Z a0 a1 n ka_a1 w_literals_a0 w_clauses_a0 w_DEFAULTCAPACITY_EMPTY_ELEMENTDATA ka_D w_modCount_w_clauses_a0 h0 n0 v U'.heap L ∧ FrameEnd U o U' L ({ frames := 5, cells := 3, slots := 14, locals := 69 } : Room).cells ({ frames := 5, cells := 3, slots := 14, locals := 69 } : Room).slots) := by
  refine MetFree.of_bodySF (plainFor_of_name pn_0) hisR ?_
  intro p e s m args below meth c s₁ Bd hml0 hP hK
  obtain ⟨rfl, hZ, hh⟩ := hP
  have hx := Bd.exec
  have hby := Bd.bytes
  have hml : c.maxLocals = 8 := hml0
  have hown : s.vm.findClass "com/example/prune_to_fit/prunetofit/sat/Cnf" = some m.cls := findClass_of_methodNamed Bd.named
  have hnm := (name_of_methodNamed Bd.named Bd.method).1
  have X0 : Stand p l e ({ frames := 5, cells := 3, slots := 14, locals := 69 } : Room) s m #[(.ref a0), (.ref a1)] below meth c s₁ [] 0 0 := Stand.of_body Bd
  have e0 : s₁.heap = h0 := by rw [← hh, Bd.state]; rfl
  have N0 := Fr.nil n0
  have pre0 : ∀ t, Steps p.tables e below (s₁.setTop (mkF m 0 #[.val (.ref a0), .val (.ref a1), .unset, .unset, .unset, .unset, .unset, .unset] [])) t → Steps p.tables e below (s₁.setTop (entryFrame m #[(.ref a0), (.ref a1)] 8)) t := fun t k => castTop (ef_11 m a0 a1) k
  have pre1 : ∀ t, Steps p.tables e below (s₁.setTop (mkF m 1 #[.val (.ref a0), .val (.ref a1), .unset, .unset, .unset, .unset, .unset, .unset] [(.ref a1)])) t → Steps p.tables e below (s₁.setTop (entryFrame m #[(.ref a0), (.ref a1)] 8)) t := fun t k => pre0 t (by
    show Steps p.tables e below (s₁.setTop (mkF m 0 #[.val (.ref a0), .val (.ref a1), .unset, .unset, .unset, .unset, .unset, .unset] [])) _
    refine XS.aloadN X0.here hx rfl (hb hby d11_0) rfl rfl ?_
    exact k)
  obtain ⟨cl2, Ar2, q2, S2, M2, H2, G2⟩ := id V_a1
  have pre3 : ∀ t, Steps p.tables e below (s₁.setTop (mkF m 2 #[.val (.ref a0), .val (.ref a1), .unset, .unset, .unset, .unset, .unset, .unset] [(.int (2 : Int32))])) t → Steps p.tables e below (s₁.setTop (entryFrame m #[(.ref a0), (.ref a1)] 8)) t := fun t k => pre1 t (by
    show Steps p.tables e below (s₁.setTop (mkF m 1 #[.val (.ref a0), .val (.ref a1), .unset, .unset, .unset, .unset, .unset, .unset] [(.ref a1)])) _
    refine X0.arraylength hx (by rw [e0]; exact Ar2.1) (State.isArrayOf_alike hZ.alike Ar2.2.1) (g := (mkF m 1 #[.val (.ref a0), .val (.ref a1), .unset, .unset, .unset, .unset, .unset, .unset] [(.ref a1)])) rfl rfl (hb hby d11_1) _ ?_
    rw [len_of S2 M2]
    exact k)
  obtain ⟨T4, h4, k4, X4, e4, E4, A4, Y4, st4⟩ := newPE X0 hx hZ (hw _ (List.mem_of_getElem? (i := 70) rfl)) e0 (g := (mkF m 2 #[.val (.ref a0), .val (.ref a1), .unset, .unset, .unset, .unset, .unset, .unset] [(.int (2 : Int32))])) rfl (hb hby d11_2) rfl (by decide) (cap := 2) (by decide) (by decide) (by decide) (by decide) (ad := "[I") (by decide)
  obtain ⟨b4, g4⟩ : ∃ z, z = h0.size := ⟨_, rfl⟩
  have ne_a0_b4 : a0 ≠ b4 := Nat.ne_of_lt (Nat.lt_of_lt_of_le F_variables_a0.lt (Nat.le_of_eq g4.symm))
  have ne_a1_b4 : a1 ≠ b4 := Nat.ne_of_lt (Nat.lt_of_lt_of_le V_a1.lt (Nat.le_of_eq g4.symm))
  have ne_w_DEFAULTCAPACITY_EMPTY_ELEMENTDATA_b4 : w_DEFAULTCAPACITY_EMPTY_ELEMENTDATA ≠ b4 := Nat.ne_of_lt (Nat.lt_of_lt_of_le V_w_DEFAULTCAPACITY_EMPTY_ELEMENTDATA.lt (Nat.le_of_eq g4.symm))
  have ne_w_clauses_a0_b4 : w_clauses_a0 ≠ b4 := Nat.ne_of_lt (Nat.lt_of_lt_of_le E_w_clauses_a0.lt (Nat.le_of_eq g4.symm))
  have g_b4 : n0 ≤ b4 := Nat.le_trans Z0 (Nat.le_of_eq g4.symm)
  have sz_b4 : h0.size ≤ b4 := Nat.le_trans (Keep.refl h0 [w_clauses_a0, a0]).1 (Nat.le_of_eq g4.symm)
  rw [← g4] at A4 st4 Y4
  have F_variables_a0_4 := F_variables_a0.ext E4
  have V_a1_4 := V_a1.ext E4
  have E_a0_4 := E_a0.ext E4
  have F_literals_a0_4 := F_literals_a0.ext E4
  have F_clauses_a0_4 := F_clauses_a0.ext E4
  have S_DEFAULTCAPACITY_EMPTY_ELEMENTDATA_4 := S_DEFAULTCAPACITY_EMPTY_ELEMENTDATA.ext E4
  have V_w_DEFAULTCAPACITY_EMPTY_ELEMENTDATA_4 := V_w_DEFAULTCAPACITY_EMPTY_ELEMENTDATA.ext E4
  have E_w_clauses_a0_4 := E_w_clauses_a0.ext E4
  have F_elementData_w_clauses_a0_4 := F_elementData_w_clauses_a0.ext E4
  have F_size_w_clauses_a0_4 := F_size_w_clauses_a0.ext E4
  have F_modCount_w_clauses_a0_4 := F_modCount_w_clauses_a0.ext E4
  have K4 : Keep h0 h4 [w_clauses_a0, a0] := (Keep.refl h0 [w_clauses_a0, a0]).ext E4
  have Z4 : n0 ≤ h4.size := Nat.le_trans Z0 E4.1
  have V_b4 : Arv Z h4 b4 k4 .int (2 : Int32) [(.int (0 : Int32)), (.int (0 : Int32))] (.int (0 : Int32)) := (Arv.new A4 (by decide)).pad (pad_rep [] (.int (0 : Int32)) 2)
  have pre5 : ∀ t, Steps p.tables e below (T4.setTop (mkF m 12 #[.val (.ref a0), .val (.ref a1), .val (.ref b4), .val (.int (0 : Int32)), .val (.ref a1), .unset, .unset, .unset] [(.ref a1)])) t → Steps p.tables e below (s₁.setTop (entryFrame m #[(.ref a0), (.ref a1)] 8)) t := fun t k => pre3 t (by
    show Steps p.tables e below (s₁.setTop (mkF m 2 #[.val (.ref a0), .val (.ref a1), .unset, .unset, .unset, .unset, .unset, .unset] [(.int (2 : Int32))])) _
    refine st4 _ ?_
    show Steps p.tables e below (T4.setTop (mkF m 4 #[.val (.ref a0), .val (.ref a1), .unset, .unset, .unset, .unset, .unset, .unset] [(.ref b4)])) _
    refine XS.astoreN X4.here hx rfl (hb hby d11_4) rfl rfl (l' := #[.val (.ref a0), .val (.ref a1), .val (.ref b4), .unset, .unset, .unset, .unset, .unset]) rfl ?_
    show Steps p.tables e below (T4.setTop (mkF m 5 #[.val (.ref a0), .val (.ref a1), .val (.ref b4), .unset, .unset, .unset, .unset, .unset] [])) _
    refine XS.iconst X4.here hx rfl (hb hby d11_5) ?_
    show Steps p.tables e below (T4.setTop (mkF m 6 #[.val (.ref a0), .val (.ref a1), .val (.ref b4), .unset, .unset, .unset, .unset, .unset] [(.int (0 : Int32))])) _
    refine XS.istoreN X4.here hx rfl (hb hby d11_6) rfl (l' := #[.val (.ref a0), .val (.ref a1), .val (.ref b4), .val (.int (0 : Int32)), .unset, .unset, .unset, .unset]) rfl ?_
    show Steps p.tables e below (T4.setTop (mkF m 7 #[.val (.ref a0), .val (.ref a1), .val (.ref b4), .val (.int (0 : Int32)), .unset, .unset, .unset, .unset] [])) _
    refine XS.aloadN X4.here hx rfl (hb hby d11_7) rfl rfl ?_
    show Steps p.tables e below (T4.setTop (mkF m 8 #[.val (.ref a0), .val (.ref a1), .val (.ref b4), .val (.int (0 : Int32)), .unset, .unset, .unset, .unset] [(.ref a1)])) _
    refine XS.astore X4.here hx rfl (hb hby d11_8) rfl rfl (l' := #[.val (.ref a0), .val (.ref a1), .val (.ref b4), .val (.int (0 : Int32)), .val (.ref a1), .unset, .unset, .unset]) rfl ?_
    show Steps p.tables e below (T4.setTop (mkF m 10 #[.val (.ref a0), .val (.ref a1), .val (.ref b4), .val (.int (0 : Int32)), .val (.ref a1), .unset, .unset, .unset] [])) _
    refine XS.aload X4.here hx rfl (hb hby d11_10) rfl rfl ?_
    exact k)
  obtain ⟨cl6, Ar6, q6, S6, M6, H6, G6⟩ := id V_a1_4
  have pre7 : ∀ t, Steps p.tables e below (T4.setTop (mkF m 29 #[.val (.ref a0), .val (.ref a1), .val (.ref b4), .val (.int (0 : Int32)), .val (.ref a1), .val (.int (2 : Int32)), .val (.int (0 : Int32)), .unset] [(.int (0 : Int32)), (.ref a1)])) t → Steps p.tables e below (s₁.setTop (entryFrame m #[(.ref a0), (.ref a1)] 8)) t := fun t k => pre5 t (by
    show Steps p.tables e below (T4.setTop (mkF m 12 #[.val (.ref a0), .val (.ref a1), .val (.ref b4), .val (.int (0 : Int32)), .val (.ref a1), .unset, .unset, .unset] [(.ref a1)])) _
    refine X4.arraylength hx (by rw [e4]; exact Ar6.1) (State.isArrayOf_alike hZ.alike Ar6.2.1) (g := (mkF m 12 #[.val (.ref a0), .val (.ref a1), .val (.ref b4), .val (.int (0 : Int32)), .val (.ref a1), .unset, .unset, .unset] [(.ref a1)])) rfl rfl (hb hby d11_12) _ ?_
    rw [len_of S6 M6]
    show Steps p.tables e below (T4.setTop (mkF m 13 #[.val (.ref a0), .val (.ref a1), .val (.ref b4), .val (.int (0 : Int32)), .val (.ref a1), .unset, .unset, .unset] [(.int (2 : Int32))])) _
    refine XS.istore X4.here hx rfl (hb hby d11_13) rfl (l' := #[.val (.ref a0), .val (.ref a1), .val (.ref b4), .val (.int (0 : Int32)), .val (.ref a1), .val (.int (2 : Int32)), .unset, .unset]) rfl ?_
    show Steps p.tables e below (T4.setTop (mkF m 15 #[.val (.ref a0), .val (.ref a1), .val (.ref b4), .val (.int (0 : Int32)), .val (.ref a1), .val (.int (2 : Int32)), .unset, .unset] [])) _
    refine XS.iconst X4.here hx rfl (hb hby d11_15) ?_
    show Steps p.tables e below (T4.setTop (mkF m 16 #[.val (.ref a0), .val (.ref a1), .val (.ref b4), .val (.int (0 : Int32)), .val (.ref a1), .val (.int (2 : Int32)), .unset, .unset] [(.int (0 : Int32))])) _
    refine XS.istore X4.here hx rfl (hb hby d11_16) rfl (l' := #[.val (.ref a0), .val (.ref a1), .val (.ref b4), .val (.int (0 : Int32)), .val (.ref a1), .val (.int (2 : Int32)), .val (.int (0 : Int32)), .unset]) rfl ?_
    show Steps p.tables e below (T4.setTop (mkF m 18 #[.val (.ref a0), .val (.ref a1), .val (.ref b4), .val (.int (0 : Int32)), .val (.ref a1), .val (.int (2 : Int32)), .val (.int (0 : Int32)), .unset] [])) _
    refine XS.iload X4.here hx rfl (hb hby d11_18) rfl ?_
    show Steps p.tables e below (T4.setTop (mkF m 20 #[.val (.ref a0), .val (.ref a1), .val (.ref b4), .val (.int (0 : Int32)), .val (.ref a1), .val (.int (2 : Int32)), .val (.int (0 : Int32)), .unset] [(.int (0 : Int32))])) _
    refine XS.iload X4.here hx rfl (hb hby d11_20) rfl ?_
    show Steps p.tables e below (T4.setTop (mkF m 22 #[.val (.ref a0), .val (.ref a1), .val (.ref b4), .val (.int (0 : Int32)), .val (.ref a1), .val (.int (2 : Int32)), .val (.int (0 : Int32)), .unset] [(.int (2 : Int32)), (.int (0 : Int32))])) _
    refine XS.icmpNo X4.here hx rfl (hb hby d11_22) rfl (tlt ((by decide) : (0 : Int32) < (2 : Int32))).2.1 ?_
    show Steps p.tables e below (T4.setTop (mkF m 25 #[.val (.ref a0), .val (.ref a1), .val (.ref b4), .val (.int (0 : Int32)), .val (.ref a1), .val (.int (2 : Int32)), .val (.int (0 : Int32)), .unset] [])) _
    refine XS.aload X4.here hx rfl (hb hby d11_25) rfl rfl ?_
    show Steps p.tables e below (T4.setTop (mkF m 27 #[.val (.ref a0), .val (.ref a1), .val (.ref b4), .val (.int (0 : Int32)), .val (.ref a1), .val (.int (2 : Int32)), .val (.int (0 : Int32)), .unset] [(.ref a1)])) _
    refine XS.iload X4.here hx rfl (hb hby d11_27) rfl ?_
    exact k)
  obtain ⟨cl8, Ar8, q8, S8, M8, H8, G8⟩ := id V_a1_4
  have hin8 : ¬ ((0 : Int32) < 0 ∨ cl8.slots.size ≤ ((0 : Int32)).toNatClampNeg) := inb_of S8 ⟨by decide, by decide⟩
  have hat8 : cl8.slots[((0 : Int32)).toNatClampNeg]? = some (.int n) := H8.at hin8 rfl
  have kown_sh_1 : ¬ (n = (2147483647 : Int32)) := own_sh_1 n w_literals_a0 w_modCount_w_clauses_a0 hr
  have kown_sh_2 : ¬ (n = (-2147483647 : Int32)) := own_sh_2 n w_literals_a0 w_modCount_w_clauses_a0 hr
  have pre9 : ∀ t, Steps p.tables e below (T4.setTop (mkF m 55 #[.val (.ref a0), .val (.ref a1), .val (.ref b4), .val (.int (1 : Int32)), .val (.ref a1), .val (.int (2 : Int32)), .val (.int (0 : Int32)), .val (.int n)] [(.int n), (.ref a0), (.int (0 : Int32)), (.ref b4)])) t → Steps p.tables e below (s₁.setTop (entryFrame m #[(.ref a0), (.ref a1)] 8)) t := fun t k => pre7 t (by
    show Steps p.tables e below (T4.setTop (mkF m 29 #[.val (.ref a0), .val (.ref a1), .val (.ref b4), .val (.int (0 : Int32)), .val (.ref a1), .val (.int (2 : Int32)), .val (.int (0 : Int32)), .unset] [(.int (0 : Int32)), (.ref a1)])) _
    refine X4.iaload hx (j := (0 : Int32)) (v := (.int n)) (by rw [e4]; exact Ar8.1) (State.isArrayOf_alike hZ.alike Ar8.2.1) Ar8.2.2 hin8 hat8 (g := (mkF m 29 #[.val (.ref a0), .val (.ref a1), .val (.ref b4), .val (.int (0 : Int32)), .val (.ref a1), .val (.int (2 : Int32)), .val (.int (0 : Int32)), .unset] [(.int (0 : Int32)), (.ref a1)])) rfl rfl (hb hby d11_29) _ ?_
    show Steps p.tables e below (T4.setTop (mkF m 30 #[.val (.ref a0), .val (.ref a1), .val (.ref b4), .val (.int (0 : Int32)), .val (.ref a1), .val (.int (2 : Int32)), .val (.int (0 : Int32)), .unset] [(.int n)])) _
    refine XS.istore X4.here hx rfl (hb hby d11_30) rfl (l' := #[.val (.ref a0), .val (.ref a1), .val (.ref b4), .val (.int (0 : Int32)), .val (.ref a1), .val (.int (2 : Int32)), .val (.int (0 : Int32)), .val (.int n)]) rfl ?_
    show Steps p.tables e below (T4.setTop (mkF m 32 #[.val (.ref a0), .val (.ref a1), .val (.ref b4), .val (.int (0 : Int32)), .val (.ref a1), .val (.int (2 : Int32)), .val (.int (0 : Int32)), .val (.int n)] [])) _
    refine XS.iload X4.here hx rfl (hb hby d11_32) rfl ?_
    show Steps p.tables e below (T4.setTop (mkF m 34 #[.val (.ref a0), .val (.ref a1), .val (.ref b4), .val (.int (0 : Int32)), .val (.ref a1), .val (.int (2 : Int32)), .val (.int (0 : Int32)), .val (.int n)] [(.int n)])) _
    refine X4.ldcInt hx hown (mvT hZ (hw _ (List.mem_of_getElem? (i := 76) rfl))) (g := (mkF m 34 #[.val (.ref a0), .val (.ref a1), .val (.ref b4), .val (.int (0 : Int32)), .val (.ref a1), .val (.int (2 : Int32)), .val (.int (0 : Int32)), .val (.int n)] [(.int n)])) rfl (hb hby d11_34) _ ?_
    show Steps p.tables e below (T4.setTop (mkF m 36 #[.val (.ref a0), .val (.ref a1), .val (.ref b4), .val (.int (0 : Int32)), .val (.ref a1), .val (.int (2 : Int32)), .val (.int (0 : Int32)), .val (.int n)] [(.int (2147483647 : Int32)), (.int n)])) _
    refine XS.icmpYes X4.here hx rfl (pc0 := 36) (pc' := 40) rfl (hb hby d11_36) rfl (feq (kown_sh_1 : ¬ (n = (2147483647 : Int32)))).2 (by decide) (by decide) ?_
    show Steps p.tables e below (T4.setTop (mkF m 40 #[.val (.ref a0), .val (.ref a1), .val (.ref b4), .val (.int (0 : Int32)), .val (.ref a1), .val (.int (2 : Int32)), .val (.int (0 : Int32)), .val (.int n)] [])) _
    refine XS.iload X4.here hx rfl (hb hby d11_40) rfl ?_
    show Steps p.tables e below (T4.setTop (mkF m 42 #[.val (.ref a0), .val (.ref a1), .val (.ref b4), .val (.int (0 : Int32)), .val (.ref a1), .val (.int (2 : Int32)), .val (.int (0 : Int32)), .val (.int n)] [(.int n)])) _
    refine X4.ldcInt hx hown (mvT hZ (hw _ (List.mem_of_getElem? (i := 77) rfl))) (g := (mkF m 42 #[.val (.ref a0), .val (.ref a1), .val (.ref b4), .val (.int (0 : Int32)), .val (.ref a1), .val (.int (2 : Int32)), .val (.int (0 : Int32)), .val (.int n)] [(.int n)])) rfl (hb hby d11_42) _ ?_
    show Steps p.tables e below (T4.setTop (mkF m 44 #[.val (.ref a0), .val (.ref a1), .val (.ref b4), .val (.int (0 : Int32)), .val (.ref a1), .val (.int (2 : Int32)), .val (.int (0 : Int32)), .val (.int n)] [(.int (-2147483647 : Int32)), (.int n)])) _
    refine XS.icmpNo X4.here hx rfl (hb hby d11_44) rfl (feq (kown_sh_2 : ¬ (n = (-2147483647 : Int32)))).1 ?_
    show Steps p.tables e below (T4.setTop (mkF m 47 #[.val (.ref a0), .val (.ref a1), .val (.ref b4), .val (.int (0 : Int32)), .val (.ref a1), .val (.int (2 : Int32)), .val (.int (0 : Int32)), .val (.int n)] [])) _
    refine XS.aloadN X4.here hx rfl (hb hby d11_47) rfl rfl ?_
    show Steps p.tables e below (T4.setTop (mkF m 48 #[.val (.ref a0), .val (.ref a1), .val (.ref b4), .val (.int (0 : Int32)), .val (.ref a1), .val (.int (2 : Int32)), .val (.int (0 : Int32)), .val (.int n)] [(.ref b4)])) _
    refine XS.iloadN X4.here hx rfl (hb hby d11_48) rfl ?_
    show Steps p.tables e below (T4.setTop (mkF m 49 #[.val (.ref a0), .val (.ref a1), .val (.ref b4), .val (.int (0 : Int32)), .val (.ref a1), .val (.int (2 : Int32)), .val (.int (0 : Int32)), .val (.int n)] [(.int (0 : Int32)), (.ref b4)])) _
    refine XS.iinc X4.here hx rfl (hb hby d11_49) rfl (l' := #[.val (.ref a0), .val (.ref a1), .val (.ref b4), .val (.int (1 : Int32)), .val (.ref a1), .val (.int (2 : Int32)), .val (.int (0 : Int32)), .val (.int n)]) rfl ?_
    show Steps p.tables e below (T4.setTop (mkF m 52 #[.val (.ref a0), .val (.ref a1), .val (.ref b4), .val (.int (1 : Int32)), .val (.ref a1), .val (.int (2 : Int32)), .val (.int (0 : Int32)), .val (.int n)] [(.int (0 : Int32)), (.ref b4)])) _
    refine XS.aloadN X4.here hx rfl (hb hby d11_52) rfl rfl ?_
    show Steps p.tables e below (T4.setTop (mkF m 53 #[.val (.ref a0), .val (.ref a1), .val (.ref b4), .val (.int (1 : Int32)), .val (.ref a1), .val (.int (2 : Int32)), .val (.int (0 : Int32)), .val (.int n)] [(.ref a0), (.int (0 : Int32)), (.ref b4)])) _
    refine XS.iload X4.here hx rfl (hb hby d11_53) rfl ?_
    exact k)
  have kown_rl1_1 : ¬ (n = (2147483647 : Int32)) := own_rl1_1 n w_literals_a0 w_modCount_w_clauses_a0 hr
  have kown_rl2_1 : ¬ (n = (-2147483647 : Int32)) := own_rl2_1 n w_literals_a0 w_modCount_w_clauses_a0 hr
  have kown_rl3_1 : ¬ (n = (0 : Int32)) := own_rl3_1 n w_literals_a0 w_modCount_w_clauses_a0 hr
  have kown_rl4_1 : ¬ (n < n) := own_rl4_1 n w_literals_a0 w_modCount_w_clauses_a0 hr
  have kown_rl5_1 : ¬ (n < (-n)) := own_rl5_1 n w_literals_a0 w_modCount_w_clauses_a0 hr
  obtain ⟨cq10, q10, q10'⟩ := E_a0_4.cell
  obtain ⟨_, _, ⟨T10, L10, k10, n10⟩, -, X10, ⟨Lc10, hQ10, l10, y10, z10⟩, st10⟩ := X4.privateBack hx (y := (⟨"com/example/prune_to_fit/prunetofit/sat/Cnf", "requireLiteral", "(I)I"⟩ : MethodName)) hown (mvT hZ (hw _ (List.mem_of_getElem? (i := 78) rfl))) (mvT hZ (hw _ (List.mem_of_getElem? (i := 79) rfl))) (Jvm.Kit.selects_private (by decide) (mvT hZ (hw _ (List.mem_of_getElem? (i := 1) rfl))) (mvP hZ (hw _ (List.mem_of_getElem? (i := 80) rfl))) (mvT hZ (hw _ (List.mem_of_getElem? (i := 79) rfl)))) (Cond.privateMethod_at (mvP hZ (hw _ (List.mem_of_getElem? (i := 80) rfl)) (args := #[]))) (mvT hZ (hw _ (List.mem_of_getElem? (i := 81) rfl))) (by decide) (backOf (W := 2) (rm12 l Z aw hw [] a0 n n h4 n0 Z4 F_variables_a0_4 kown_rl1_1 kown_rl2_1 kown_rl3_1 kown_rl4_1 kown_rl5_1) hZ (hw _ (List.mem_of_getElem? (i := 81) rfl)) (hw _ (List.mem_of_getElem? (i := 2) rfl)) (by decide) (by decide)) (g := (mkF m 55 #[.val (.ref a0), .val (.ref a1), .val (.ref b4), .val (.int (1 : Int32)), .val (.ref a1), .val (.int (2 : Int32)), .val (.int (0 : Int32)), .val (.int n)] [(.int n), (.ref a0), (.int (0 : Int32)), (.ref b4)])) rfl (by rw [hml]; rfl) (Steps.refl _) (a := a0) (by rw [e4]; exact q10) q10' (argsL := [(.int n)]) (rest := [(.int (0 : Int32)), (.ref b4)]) (lenOf pd_3 rfl) rfl (by show 2 * 0 + _ ≤ _; exact Nat.le_of_eq rfl) (hb hby d11_55) (fun _ _ => ⟨rfl, e4, (by decide : 1 + 0 ≤ _), (by decide : 2 + 0 ≤ _)⟩)
  dsimp only [Pt.U, Pt.locs, Pt.cells, Pt.slots] at X10 l10 y10 z10 st10 hQ10
  subst l10 y10 z10
  obtain ⟨rfl, N10q, e10⟩ := hQ10
  have N10 := Fr.app N0 N10q
  have pre11 : ∀ t, Steps p.tables e below (T10.setTop (mkF m 58 #[.val (.ref a0), .val (.ref a1), .val (.ref b4), .val (.int (1 : Int32)), .val (.ref a1), .val (.int (2 : Int32)), .val (.int (0 : Int32)), .val (.int n)] [(.int (f12 n)), (.int (0 : Int32)), (.ref b4)])) t → Steps p.tables e below (s₁.setTop (entryFrame m #[(.ref a0), (.ref a1)] 8)) t := fun t k => pre9 t (by
    show Steps p.tables e below (T4.setTop (mkF m 55 #[.val (.ref a0), .val (.ref a1), .val (.ref b4), .val (.int (1 : Int32)), .val (.ref a1), .val (.int (2 : Int32)), .val (.int (0 : Int32)), .val (.int n)] [(.int n), (.ref a0), (.int (0 : Int32)), (.ref b4)])) _
    refine st10.trans ?_
    exact k)
  obtain ⟨cl12, Ar12, q12, S12, M12, H12, G12⟩ := id V_b4
  have hin12 : ¬ ((0 : Int32) < 0 ∨ cl12.slots.size ≤ ((0 : Int32)).toNatClampNeg) := inb_of S12 ⟨by decide, by decide⟩
  obtain ⟨T12, h12, X12, e12, W12, st12⟩ := stI X10 hx hZ e10 Ar12 (j := (0 : Int32)) hin12 (g := (mkF m 58 #[.val (.ref a0), .val (.ref a1), .val (.ref b4), .val (.int (1 : Int32)), .val (.ref a1), .val (.int (2 : Int32)), .val (.int (0 : Int32)), .val (.int n)] [(.int (f12 n)), (.int (0 : Int32)), (.ref b4)])) rfl rfl (hb hby d11_58)
  have V_b4_12 : Arv Z h12 b4 k4 .int (2 : Int32) [(.int (f12 n)), (.int (0 : Int32))] (.int (0 : Int32)) := Arv.set Ar12 q12 S12 M12 H12 G12 rfl W12 0 rfl (Nat.le_of_ble_eq_true rfl)
  have F_variables_a0_12 := F_variables_a0_4.other W12 (Or.inl ne_a0_b4)
  have V_a1_12 := V_a1_4.other W12 ne_a1_b4
  have E_a0_12 := E_a0_4.wr W12
  have F_literals_a0_12 := F_literals_a0_4.other W12 (Or.inl ne_a0_b4)
  have F_clauses_a0_12 := F_clauses_a0_4.other W12 (Or.inl ne_a0_b4)
  have S_DEFAULTCAPACITY_EMPTY_ELEMENTDATA_12 := S_DEFAULTCAPACITY_EMPTY_ELEMENTDATA_4.wr W12
  have V_w_DEFAULTCAPACITY_EMPTY_ELEMENTDATA_12 := V_w_DEFAULTCAPACITY_EMPTY_ELEMENTDATA_4.other W12 ne_w_DEFAULTCAPACITY_EMPTY_ELEMENTDATA_b4
  have E_w_clauses_a0_12 := E_w_clauses_a0_4.wr W12
  have F_elementData_w_clauses_a0_12 := F_elementData_w_clauses_a0_4.other W12 (Or.inl ne_w_clauses_a0_b4)
  have F_size_w_clauses_a0_12 := F_size_w_clauses_a0_4.other W12 (Or.inl ne_w_clauses_a0_b4)
  have F_modCount_w_clauses_a0_12 := F_modCount_w_clauses_a0_4.other W12 (Or.inl ne_w_clauses_a0_b4)
  have Y4_12 := Y4.wr W12
  have K12 : Keep h0 h12 [w_clauses_a0, a0] := K4.wr W12 (Or.inr sz_b4)
  have N12 := Fr.snoc X12 N10 g_b4
  have Z12 : n0 ≤ h12.size := Nat.le_trans Z4 (Nat.le_of_eq W12.size.symm)
  have pre13 : ∀ t, Steps p.tables e below (T12.setTop (mkF m 29 #[.val (.ref a0), .val (.ref a1), .val (.ref b4), .val (.int (1 : Int32)), .val (.ref a1), .val (.int (2 : Int32)), .val (.int (1 : Int32)), .val (.int n)] [(.int (1 : Int32)), (.ref a1)])) t → Steps p.tables e below (s₁.setTop (entryFrame m #[(.ref a0), (.ref a1)] 8)) t := fun t k => pre11 t (by
    show Steps p.tables e below (T10.setTop (mkF m 58 #[.val (.ref a0), .val (.ref a1), .val (.ref b4), .val (.int (1 : Int32)), .val (.ref a1), .val (.int (2 : Int32)), .val (.int (0 : Int32)), .val (.int n)] [(.int (f12 n)), (.int (0 : Int32)), (.ref b4)])) _
    refine st12 _ ?_
    show Steps p.tables e below (T12.setTop (mkF m 59 #[.val (.ref a0), .val (.ref a1), .val (.ref b4), .val (.int (1 : Int32)), .val (.ref a1), .val (.int (2 : Int32)), .val (.int (0 : Int32)), .val (.int n)] [])) _
    refine XS.iinc X12.here hx rfl (hb hby d11_59) rfl (l' := #[.val (.ref a0), .val (.ref a1), .val (.ref b4), .val (.int (1 : Int32)), .val (.ref a1), .val (.int (2 : Int32)), .val (.int (1 : Int32)), .val (.int n)]) rfl ?_
    show Steps p.tables e below (T12.setTop (mkF m 62 #[.val (.ref a0), .val (.ref a1), .val (.ref b4), .val (.int (1 : Int32)), .val (.ref a1), .val (.int (2 : Int32)), .val (.int (1 : Int32)), .val (.int n)] [])) _
    refine XS.goto X12.here hx rfl (pc0 := 62) (pc' := 18) rfl (hb hby d11_62) (by decide) (by decide) ?_
    show Steps p.tables e below (T12.setTop (mkF m 18 #[.val (.ref a0), .val (.ref a1), .val (.ref b4), .val (.int (1 : Int32)), .val (.ref a1), .val (.int (2 : Int32)), .val (.int (1 : Int32)), .val (.int n)] [])) _
    refine XS.iload X12.here hx rfl (hb hby d11_18) rfl ?_
    show Steps p.tables e below (T12.setTop (mkF m 20 #[.val (.ref a0), .val (.ref a1), .val (.ref b4), .val (.int (1 : Int32)), .val (.ref a1), .val (.int (2 : Int32)), .val (.int (1 : Int32)), .val (.int n)] [(.int (1 : Int32))])) _
    refine XS.iload X12.here hx rfl (hb hby d11_20) rfl ?_
    show Steps p.tables e below (T12.setTop (mkF m 22 #[.val (.ref a0), .val (.ref a1), .val (.ref b4), .val (.int (1 : Int32)), .val (.ref a1), .val (.int (2 : Int32)), .val (.int (1 : Int32)), .val (.int n)] [(.int (2 : Int32)), (.int (1 : Int32))])) _
    refine XS.icmpNo X12.here hx rfl (hb hby d11_22) rfl (tlt ((by decide) : (1 : Int32) < (2 : Int32))).2.1 ?_
    show Steps p.tables e below (T12.setTop (mkF m 25 #[.val (.ref a0), .val (.ref a1), .val (.ref b4), .val (.int (1 : Int32)), .val (.ref a1), .val (.int (2 : Int32)), .val (.int (1 : Int32)), .val (.int n)] [])) _
    refine XS.aload X12.here hx rfl (hb hby d11_25) rfl rfl ?_
    show Steps p.tables e below (T12.setTop (mkF m 27 #[.val (.ref a0), .val (.ref a1), .val (.ref b4), .val (.int (1 : Int32)), .val (.ref a1), .val (.int (2 : Int32)), .val (.int (1 : Int32)), .val (.int n)] [(.ref a1)])) _
    refine XS.iload X12.here hx rfl (hb hby d11_27) rfl ?_
    exact k)
  obtain ⟨cl14, Ar14, q14, S14, M14, H14, G14⟩ := id V_a1_12
  have hin14 : ¬ ((1 : Int32) < 0 ∨ cl14.slots.size ≤ ((1 : Int32)).toNatClampNeg) := inb_of S14 ⟨by decide, by decide⟩
  have hat14 : cl14.slots[((1 : Int32)).toNatClampNeg]? = some (.int (-n)) := H14.at hin14 rfl
  have pre15 : ∀ t, Steps p.tables e below (T12.setTop (mkF m 30 #[.val (.ref a0), .val (.ref a1), .val (.ref b4), .val (.int (1 : Int32)), .val (.ref a1), .val (.int (2 : Int32)), .val (.int (1 : Int32)), .val (.int n)] [(.int (-n))])) t → Steps p.tables e below (s₁.setTop (entryFrame m #[(.ref a0), (.ref a1)] 8)) t := fun t k => pre13 t (by
    show Steps p.tables e below (T12.setTop (mkF m 29 #[.val (.ref a0), .val (.ref a1), .val (.ref b4), .val (.int (1 : Int32)), .val (.ref a1), .val (.int (2 : Int32)), .val (.int (1 : Int32)), .val (.int n)] [(.int (1 : Int32)), (.ref a1)])) _
    refine X12.iaload hx (j := (1 : Int32)) (v := (.int (-n))) (by rw [e12]; exact Ar14.1) (State.isArrayOf_alike hZ.alike Ar14.2.1) Ar14.2.2 hin14 hat14 (g := (mkF m 29 #[.val (.ref a0), .val (.ref a1), .val (.ref b4), .val (.int (1 : Int32)), .val (.ref a1), .val (.int (2 : Int32)), .val (.int (1 : Int32)), .val (.int n)] [(.int (1 : Int32)), (.ref a1)])) rfl rfl (hb hby d11_29) _ ?_
    exact k)
  obtain ⟨v16, hv16⟩ : ∃ z : Int32, z = (-n) := ⟨_, rfl⟩
  have pre17 : ∀ t, Steps p.tables e below (T12.setTop (mkF m 30 #[.val (.ref a0), .val (.ref a1), .val (.ref b4), .val (.int (1 : Int32)), .val (.ref a1), .val (.int (2 : Int32)), .val (.int (1 : Int32)), .val (.int n)] [(.int v16)])) t → Steps p.tables e below (s₁.setTop (entryFrame m #[(.ref a0), (.ref a1)] 8)) t := fun t k => pre15 t (by rw [hv16] at k; exact k)
  have kown_sh_3 : ¬ (v16 = (2147483647 : Int32)) := own_sh_3 n w_literals_a0 w_modCount_w_clauses_a0 hr v16 hv16
  have kown_sh_4 : ¬ (v16 = (-2147483647 : Int32)) := own_sh_4 n w_literals_a0 w_modCount_w_clauses_a0 hr v16 hv16
  have pre18 : ∀ t, Steps p.tables e below (T12.setTop (mkF m 55 #[.val (.ref a0), .val (.ref a1), .val (.ref b4), .val (.int (2 : Int32)), .val (.ref a1), .val (.int (2 : Int32)), .val (.int (1 : Int32)), .val (.int v16)] [(.int v16), (.ref a0), (.int (1 : Int32)), (.ref b4)])) t → Steps p.tables e below (s₁.setTop (entryFrame m #[(.ref a0), (.ref a1)] 8)) t := fun t k => pre17 t (by
    show Steps p.tables e below (T12.setTop (mkF m 30 #[.val (.ref a0), .val (.ref a1), .val (.ref b4), .val (.int (1 : Int32)), .val (.ref a1), .val (.int (2 : Int32)), .val (.int (1 : Int32)), .val (.int n)] [(.int v16)])) _
    refine XS.istore X12.here hx rfl (hb hby d11_30) rfl (l' := #[.val (.ref a0), .val (.ref a1), .val (.ref b4), .val (.int (1 : Int32)), .val (.ref a1), .val (.int (2 : Int32)), .val (.int (1 : Int32)), .val (.int v16)]) rfl ?_
    show Steps p.tables e below (T12.setTop (mkF m 32 #[.val (.ref a0), .val (.ref a1), .val (.ref b4), .val (.int (1 : Int32)), .val (.ref a1), .val (.int (2 : Int32)), .val (.int (1 : Int32)), .val (.int v16)] [])) _
    refine XS.iload X12.here hx rfl (hb hby d11_32) rfl ?_
    show Steps p.tables e below (T12.setTop (mkF m 34 #[.val (.ref a0), .val (.ref a1), .val (.ref b4), .val (.int (1 : Int32)), .val (.ref a1), .val (.int (2 : Int32)), .val (.int (1 : Int32)), .val (.int v16)] [(.int v16)])) _
    refine X12.ldcInt hx hown (mvT hZ (hw _ (List.mem_of_getElem? (i := 76) rfl))) (g := (mkF m 34 #[.val (.ref a0), .val (.ref a1), .val (.ref b4), .val (.int (1 : Int32)), .val (.ref a1), .val (.int (2 : Int32)), .val (.int (1 : Int32)), .val (.int v16)] [(.int v16)])) rfl (hb hby d11_34) _ ?_
    show Steps p.tables e below (T12.setTop (mkF m 36 #[.val (.ref a0), .val (.ref a1), .val (.ref b4), .val (.int (1 : Int32)), .val (.ref a1), .val (.int (2 : Int32)), .val (.int (1 : Int32)), .val (.int v16)] [(.int (2147483647 : Int32)), (.int v16)])) _
    refine XS.icmpYes X12.here hx rfl (pc0 := 36) (pc' := 40) rfl (hb hby d11_36) rfl (feq (kown_sh_3 : ¬ (v16 = (2147483647 : Int32)))).2 (by decide) (by decide) ?_
    show Steps p.tables e below (T12.setTop (mkF m 40 #[.val (.ref a0), .val (.ref a1), .val (.ref b4), .val (.int (1 : Int32)), .val (.ref a1), .val (.int (2 : Int32)), .val (.int (1 : Int32)), .val (.int v16)] [])) _
    refine XS.iload X12.here hx rfl (hb hby d11_40) rfl ?_
    show Steps p.tables e below (T12.setTop (mkF m 42 #[.val (.ref a0), .val (.ref a1), .val (.ref b4), .val (.int (1 : Int32)), .val (.ref a1), .val (.int (2 : Int32)), .val (.int (1 : Int32)), .val (.int v16)] [(.int v16)])) _
    refine X12.ldcInt hx hown (mvT hZ (hw _ (List.mem_of_getElem? (i := 77) rfl))) (g := (mkF m 42 #[.val (.ref a0), .val (.ref a1), .val (.ref b4), .val (.int (1 : Int32)), .val (.ref a1), .val (.int (2 : Int32)), .val (.int (1 : Int32)), .val (.int v16)] [(.int v16)])) rfl (hb hby d11_42) _ ?_
    show Steps p.tables e below (T12.setTop (mkF m 44 #[.val (.ref a0), .val (.ref a1), .val (.ref b4), .val (.int (1 : Int32)), .val (.ref a1), .val (.int (2 : Int32)), .val (.int (1 : Int32)), .val (.int v16)] [(.int (-2147483647 : Int32)), (.int v16)])) _
    refine XS.icmpNo X12.here hx rfl (hb hby d11_44) rfl (feq (kown_sh_4 : ¬ (v16 = (-2147483647 : Int32)))).1 ?_
    show Steps p.tables e below (T12.setTop (mkF m 47 #[.val (.ref a0), .val (.ref a1), .val (.ref b4), .val (.int (1 : Int32)), .val (.ref a1), .val (.int (2 : Int32)), .val (.int (1 : Int32)), .val (.int v16)] [])) _
    refine XS.aloadN X12.here hx rfl (hb hby d11_47) rfl rfl ?_
    show Steps p.tables e below (T12.setTop (mkF m 48 #[.val (.ref a0), .val (.ref a1), .val (.ref b4), .val (.int (1 : Int32)), .val (.ref a1), .val (.int (2 : Int32)), .val (.int (1 : Int32)), .val (.int v16)] [(.ref b4)])) _
    refine XS.iloadN X12.here hx rfl (hb hby d11_48) rfl ?_
    show Steps p.tables e below (T12.setTop (mkF m 49 #[.val (.ref a0), .val (.ref a1), .val (.ref b4), .val (.int (1 : Int32)), .val (.ref a1), .val (.int (2 : Int32)), .val (.int (1 : Int32)), .val (.int v16)] [(.int (1 : Int32)), (.ref b4)])) _
    refine XS.iinc X12.here hx rfl (hb hby d11_49) rfl (l' := #[.val (.ref a0), .val (.ref a1), .val (.ref b4), .val (.int (2 : Int32)), .val (.ref a1), .val (.int (2 : Int32)), .val (.int (1 : Int32)), .val (.int v16)]) rfl ?_
    show Steps p.tables e below (T12.setTop (mkF m 52 #[.val (.ref a0), .val (.ref a1), .val (.ref b4), .val (.int (2 : Int32)), .val (.ref a1), .val (.int (2 : Int32)), .val (.int (1 : Int32)), .val (.int v16)] [(.int (1 : Int32)), (.ref b4)])) _
    refine XS.aloadN X12.here hx rfl (hb hby d11_52) rfl rfl ?_
    show Steps p.tables e below (T12.setTop (mkF m 53 #[.val (.ref a0), .val (.ref a1), .val (.ref b4), .val (.int (2 : Int32)), .val (.ref a1), .val (.int (2 : Int32)), .val (.int (1 : Int32)), .val (.int v16)] [(.ref a0), (.int (1 : Int32)), (.ref b4)])) _
    refine XS.iload X12.here hx rfl (hb hby d11_53) rfl ?_
    exact k)
  have kown_rl1_2 : ¬ (v16 = (2147483647 : Int32)) := own_rl1_2 n w_literals_a0 w_modCount_w_clauses_a0 hr v16 hv16
  have kown_rl2_2 : ¬ (v16 = (-2147483647 : Int32)) := own_rl2_2 n w_literals_a0 w_modCount_w_clauses_a0 hr v16 hv16
  have kown_rl3_2 : ¬ (v16 = (0 : Int32)) := own_rl3_2 n w_literals_a0 w_modCount_w_clauses_a0 hr v16 hv16
  have kown_rl4_2 : ¬ (n < v16) := own_rl4_2 n w_literals_a0 w_modCount_w_clauses_a0 hr v16 hv16
  have kown_rl5_2 : ¬ (v16 < (-n)) := own_rl5_2 n w_literals_a0 w_modCount_w_clauses_a0 hr v16 hv16
  obtain ⟨cq19, q19, q19'⟩ := E_a0_12.cell
  obtain ⟨_, _, ⟨T19, L19, k19, n19⟩, -, X19, ⟨Lc19, hQ19, l19, y19, z19⟩, st19⟩ := X12.privateBack hx (y := (⟨"com/example/prune_to_fit/prunetofit/sat/Cnf", "requireLiteral", "(I)I"⟩ : MethodName)) hown (mvT hZ (hw _ (List.mem_of_getElem? (i := 78) rfl))) (mvT hZ (hw _ (List.mem_of_getElem? (i := 79) rfl))) (Jvm.Kit.selects_private (by decide) (mvT hZ (hw _ (List.mem_of_getElem? (i := 1) rfl))) (mvP hZ (hw _ (List.mem_of_getElem? (i := 80) rfl))) (mvT hZ (hw _ (List.mem_of_getElem? (i := 79) rfl)))) (Cond.privateMethod_at (mvP hZ (hw _ (List.mem_of_getElem? (i := 80) rfl)) (args := #[]))) (mvT hZ (hw _ (List.mem_of_getElem? (i := 81) rfl))) (by decide) (backOf (W := 2) (rm12 l Z aw hw [] a0 v16 n h12 n0 Z12 F_variables_a0_12 kown_rl1_2 kown_rl2_2 kown_rl3_2 kown_rl4_2 kown_rl5_2) hZ (hw _ (List.mem_of_getElem? (i := 81) rfl)) (hw _ (List.mem_of_getElem? (i := 2) rfl)) (by decide) (by decide)) (g := (mkF m 55 #[.val (.ref a0), .val (.ref a1), .val (.ref b4), .val (.int (2 : Int32)), .val (.ref a1), .val (.int (2 : Int32)), .val (.int (1 : Int32)), .val (.int v16)] [(.int v16), (.ref a0), (.int (1 : Int32)), (.ref b4)])) rfl (by rw [hml]; rfl) (Steps.refl _) (a := a0) (by rw [e12]; exact q19) q19' (argsL := [(.int v16)]) (rest := [(.int (1 : Int32)), (.ref b4)]) (lenOf pd_3 rfl) rfl (by show 2 * 0 + _ ≤ _; exact Nat.le_of_eq rfl) (hb hby d11_55) (fun _ _ => ⟨rfl, e12, (by decide : 1 + 0 ≤ _), (by decide : 2 + 0 ≤ _)⟩)
  dsimp only [Pt.U, Pt.locs, Pt.cells, Pt.slots] at X19 l19 y19 z19 st19 hQ19
  subst l19 y19 z19
  obtain ⟨rfl, N19q, e19⟩ := hQ19
  have N19 := Fr.app N12 N19q
  have pre20 : ∀ t, Steps p.tables e below (T19.setTop (mkF m 58 #[.val (.ref a0), .val (.ref a1), .val (.ref b4), .val (.int (2 : Int32)), .val (.ref a1), .val (.int (2 : Int32)), .val (.int (1 : Int32)), .val (.int v16)] [(.int (f12 v16)), (.int (1 : Int32)), (.ref b4)])) t → Steps p.tables e below (s₁.setTop (entryFrame m #[(.ref a0), (.ref a1)] 8)) t := fun t k => pre18 t (by
    show Steps p.tables e below (T12.setTop (mkF m 55 #[.val (.ref a0), .val (.ref a1), .val (.ref b4), .val (.int (2 : Int32)), .val (.ref a1), .val (.int (2 : Int32)), .val (.int (1 : Int32)), .val (.int v16)] [(.int v16), (.ref a0), (.int (1 : Int32)), (.ref b4)])) _
    refine st19.trans ?_
    exact k)
  obtain ⟨cl21, Ar21, q21, S21, M21, H21, G21⟩ := id V_b4_12
  have hin21 : ¬ ((1 : Int32) < 0 ∨ cl21.slots.size ≤ ((1 : Int32)).toNatClampNeg) := inb_of S21 ⟨by decide, by decide⟩
  obtain ⟨T21, h21, X21, e21, W21, st21⟩ := stI X19 hx hZ e19 Ar21 (j := (1 : Int32)) hin21 (g := (mkF m 58 #[.val (.ref a0), .val (.ref a1), .val (.ref b4), .val (.int (2 : Int32)), .val (.ref a1), .val (.int (2 : Int32)), .val (.int (1 : Int32)), .val (.int v16)] [(.int (f12 v16)), (.int (1 : Int32)), (.ref b4)])) rfl rfl (hb hby d11_58)
  have V_b4_21 : Arv Z h21 b4 k4 .int (2 : Int32) [(.int (f12 n)), (.int (f12 v16))] (.int (0 : Int32)) := Arv.set Ar21 q21 S21 M21 H21 G21 rfl W21 1 rfl (Nat.le_of_ble_eq_true rfl)
  have F_variables_a0_21 := F_variables_a0_12.other W21 (Or.inl ne_a0_b4)
  have V_a1_21 := V_a1_12.other W21 ne_a1_b4
  have E_a0_21 := E_a0_12.wr W21
  have F_literals_a0_21 := F_literals_a0_12.other W21 (Or.inl ne_a0_b4)
  have F_clauses_a0_21 := F_clauses_a0_12.other W21 (Or.inl ne_a0_b4)
  have S_DEFAULTCAPACITY_EMPTY_ELEMENTDATA_21 := S_DEFAULTCAPACITY_EMPTY_ELEMENTDATA_12.wr W21
  have V_w_DEFAULTCAPACITY_EMPTY_ELEMENTDATA_21 := V_w_DEFAULTCAPACITY_EMPTY_ELEMENTDATA_12.other W21 ne_w_DEFAULTCAPACITY_EMPTY_ELEMENTDATA_b4
  have E_w_clauses_a0_21 := E_w_clauses_a0_12.wr W21
  have F_elementData_w_clauses_a0_21 := F_elementData_w_clauses_a0_12.other W21 (Or.inl ne_w_clauses_a0_b4)
  have F_size_w_clauses_a0_21 := F_size_w_clauses_a0_12.other W21 (Or.inl ne_w_clauses_a0_b4)
  have F_modCount_w_clauses_a0_21 := F_modCount_w_clauses_a0_12.other W21 (Or.inl ne_w_clauses_a0_b4)
  have Y4_21 := Y4_12.wr W21
  have K21 : Keep h0 h21 [w_clauses_a0, a0] := K12.wr W21 (Or.inr sz_b4)
  have N21 := Fr.snoc X21 N19 g_b4
  have Z21 : n0 ≤ h21.size := Nat.le_trans Z12 (Nat.le_of_eq W21.size.symm)
  have pre22 : ∀ t, Steps p.tables e below (T21.setTop (mkF m 66 #[.val (.ref a0), .val (.ref a1), .val (.ref b4), .val (.int (2 : Int32)), .val (.ref a1), .val (.int (2 : Int32)), .val (.int (2 : Int32)), .val (.int v16)] [(.ref a0)])) t → Steps p.tables e below (s₁.setTop (entryFrame m #[(.ref a0), (.ref a1)] 8)) t := fun t k => pre20 t (by
    show Steps p.tables e below (T19.setTop (mkF m 58 #[.val (.ref a0), .val (.ref a1), .val (.ref b4), .val (.int (2 : Int32)), .val (.ref a1), .val (.int (2 : Int32)), .val (.int (1 : Int32)), .val (.int v16)] [(.int (f12 v16)), (.int (1 : Int32)), (.ref b4)])) _
    refine st21 _ ?_
    show Steps p.tables e below (T21.setTop (mkF m 59 #[.val (.ref a0), .val (.ref a1), .val (.ref b4), .val (.int (2 : Int32)), .val (.ref a1), .val (.int (2 : Int32)), .val (.int (1 : Int32)), .val (.int v16)] [])) _
    refine XS.iinc X21.here hx rfl (hb hby d11_59) rfl (l' := #[.val (.ref a0), .val (.ref a1), .val (.ref b4), .val (.int (2 : Int32)), .val (.ref a1), .val (.int (2 : Int32)), .val (.int (2 : Int32)), .val (.int v16)]) rfl ?_
    show Steps p.tables e below (T21.setTop (mkF m 62 #[.val (.ref a0), .val (.ref a1), .val (.ref b4), .val (.int (2 : Int32)), .val (.ref a1), .val (.int (2 : Int32)), .val (.int (2 : Int32)), .val (.int v16)] [])) _
    refine XS.goto X21.here hx rfl (pc0 := 62) (pc' := 18) rfl (hb hby d11_62) (by decide) (by decide) ?_
    show Steps p.tables e below (T21.setTop (mkF m 18 #[.val (.ref a0), .val (.ref a1), .val (.ref b4), .val (.int (2 : Int32)), .val (.ref a1), .val (.int (2 : Int32)), .val (.int (2 : Int32)), .val (.int v16)] [])) _
    refine XS.iload X21.here hx rfl (hb hby d11_18) rfl ?_
    show Steps p.tables e below (T21.setTop (mkF m 20 #[.val (.ref a0), .val (.ref a1), .val (.ref b4), .val (.int (2 : Int32)), .val (.ref a1), .val (.int (2 : Int32)), .val (.int (2 : Int32)), .val (.int v16)] [(.int (2 : Int32))])) _
    refine XS.iload X21.here hx rfl (hb hby d11_20) rfl ?_
    show Steps p.tables e below (T21.setTop (mkF m 22 #[.val (.ref a0), .val (.ref a1), .val (.ref b4), .val (.int (2 : Int32)), .val (.ref a1), .val (.int (2 : Int32)), .val (.int (2 : Int32)), .val (.int v16)] [(.int (2 : Int32)), (.int (2 : Int32))])) _
    refine XS.icmpYes X21.here hx rfl (pc0 := 22) (pc' := 65) rfl (hb hby d11_22) rfl (flt ((by decide) : ¬ ((2 : Int32) < (2 : Int32)))).2.1 (by decide) (by decide) ?_
    show Steps p.tables e below (T21.setTop (mkF m 65 #[.val (.ref a0), .val (.ref a1), .val (.ref b4), .val (.int (2 : Int32)), .val (.ref a1), .val (.int (2 : Int32)), .val (.int (2 : Int32)), .val (.int v16)] [])) _
    refine XS.aloadN X21.here hx rfl (hb hby d11_65) rfl rfl ?_
    exact k)
  obtain ⟨T23, X23, e23, st23⟩ := getF X21 hx hZ hown (host := "") (Or.inl (hw _ (List.mem_of_getElem? (i := 33) rfl))) Via.refl e21 F_clauses_a0_21 (g := (mkF m 66 #[.val (.ref a0), .val (.ref a1), .val (.ref b4), .val (.int (2 : Int32)), .val (.ref a1), .val (.int (2 : Int32)), .val (.int (2 : Int32)), .val (.int v16)] [(.ref a0)])) rfl rfl (hb hby d11_66)
  have pre24 : ∀ t, Steps p.tables e below (T23.setTop (mkF m 71 #[.val (.ref a0), .val (.ref a1), .val (.ref b4), .val (.int (2 : Int32)), .val (.ref a1), .val (.int (2 : Int32)), .val (.int (2 : Int32)), .val (.int v16)] [(.int (2 : Int32)), (.ref b4), (.ref w_clauses_a0)])) t → Steps p.tables e below (s₁.setTop (entryFrame m #[(.ref a0), (.ref a1)] 8)) t := fun t k => pre22 t (by
    show Steps p.tables e below (T21.setTop (mkF m 66 #[.val (.ref a0), .val (.ref a1), .val (.ref b4), .val (.int (2 : Int32)), .val (.ref a1), .val (.int (2 : Int32)), .val (.int (2 : Int32)), .val (.int v16)] [(.ref a0)])) _
    refine st23 _ ?_
    show Steps p.tables e below (T23.setTop (mkF m 69 #[.val (.ref a0), .val (.ref a1), .val (.ref b4), .val (.int (2 : Int32)), .val (.ref a1), .val (.int (2 : Int32)), .val (.int (2 : Int32)), .val (.int v16)] [(.ref w_clauses_a0)])) _
    refine XS.aloadN X23.here hx rfl (hb hby d11_69) rfl rfl ?_
    show Steps p.tables e below (T23.setTop (mkF m 70 #[.val (.ref a0), .val (.ref a1), .val (.ref b4), .val (.int (2 : Int32)), .val (.ref a1), .val (.int (2 : Int32)), .val (.int (2 : Int32)), .val (.int v16)] [(.ref b4), (.ref w_clauses_a0)])) _
    refine XS.iloadN X23.here hx rfl (hb hby d11_70) rfl ?_
    exact k)
  obtain ⟨_, _, ⟨T25, L25, k25, n25⟩, -, X25, ⟨Lc25, hQ25, l25, y25, z25⟩, st25⟩ := Jvm.LawKit.callS X23 hx (y := (⟨"java/util/Arrays", "copyOf", "([II)[I"⟩ : MethodName)) hown (mvT hZ (hw _ (List.mem_of_getElem? (i := 82) rfl))) (mvT hZ (hw _ (List.mem_of_getElem? (i := 83) rfl))) (mvT hZ (hw _ (List.mem_of_getElem? (i := 84) rfl))) (mvT hZ (hw _ (List.mem_of_getElem? (i := 85) rfl))) (by decide) (backOf (W := 1) (rm13_2 l Z aw hw [] b4 k4 (f12 n) (f12 v16) h21 n0 Z21 V_b4_21 Y4_21) hZ (hw _ (List.mem_of_getElem? (i := 85) rfl)) (hw _ (List.mem_of_getElem? (i := 84) rfl)) (by decide) (by decide)) (g := (mkF m 71 #[.val (.ref a0), .val (.ref a1), .val (.ref b4), .val (.int (2 : Int32)), .val (.ref a1), .val (.int (2 : Int32)), .val (.int (2 : Int32)), .val (.int v16)] [(.int (2 : Int32)), (.ref b4), (.ref w_clauses_a0)])) rfl (by rw [hml]; rfl) (argsL := [(.ref b4), (.int (2 : Int32))]) (rest := [(.ref w_clauses_a0)]) (lenOf pd_4 rfl) rfl (by show 2 * 0 + _ ≤ _; exact Nat.le_of_eq rfl) (hb hby d11_71) (fun _ _ => ⟨rfl, e23, (by decide : 1 + 1 ≤ _), (by decide : 2 + 2 ≤ _)⟩)
  dsimp only [Pt.U, Pt.locs, Pt.cells, Pt.slots] at X25 l25 y25 z25 st25 hQ25
  subst l25 y25 z25
  obtain ⟨rfl, N25q, K25q, x25_0, ⟨kx25_1, x25_1⟩⟩ := hQ25
  have N25 := Fr.app N21 N25q
  obtain ⟨b25, g25⟩ : ∃ z, z = h21.size := ⟨_, rfl⟩
  have ne_a0_b25 : a0 ≠ b25 := Nat.ne_of_lt (Nat.lt_of_lt_of_le F_variables_a0_21.lt (Nat.le_of_eq g25.symm))
  have ne_a1_b25 : a1 ≠ b25 := Nat.ne_of_lt (Nat.lt_of_lt_of_le V_a1_21.lt (Nat.le_of_eq g25.symm))
  have ne_b4_b25 : b4 ≠ b25 := Nat.ne_of_lt (Nat.lt_of_lt_of_le Y4_21.lt (Nat.le_of_eq g25.symm))
  have ne_w_DEFAULTCAPACITY_EMPTY_ELEMENTDATA_b25 : w_DEFAULTCAPACITY_EMPTY_ELEMENTDATA ≠ b25 := Nat.ne_of_lt (Nat.lt_of_lt_of_le V_w_DEFAULTCAPACITY_EMPTY_ELEMENTDATA_21.lt (Nat.le_of_eq g25.symm))
  have ne_w_clauses_a0_b25 : w_clauses_a0 ≠ b25 := Nat.ne_of_lt (Nat.lt_of_lt_of_le E_w_clauses_a0_21.lt (Nat.le_of_eq g25.symm))
  have g_b25 : n0 ≤ b25 := Nat.le_trans Z21 (Nat.le_of_eq g25.symm)
  have sz_b25 : h0.size ≤ b25 := Nat.le_trans K21.1 (Nat.le_of_eq g25.symm)
  rw [← g25] at x25_0 x25_1 st25
  have F_variables_a0_25 := F_variables_a0_21.keep K25q nin0
  have V_a1_25 := V_a1_21.keep K25q nin0
  have E_a0_25 := E_a0_21.keep K25q
  have F_literals_a0_25 := F_literals_a0_21.keep K25q nin0
  have F_clauses_a0_25 := F_clauses_a0_21.keep K25q nin0
  have S_DEFAULTCAPACITY_EMPTY_ELEMENTDATA_25 := own_sta_keep S_DEFAULTCAPACITY_EMPTY_ELEMENTDATA_21 K25q all0
  have V_w_DEFAULTCAPACITY_EMPTY_ELEMENTDATA_25 := V_w_DEFAULTCAPACITY_EMPTY_ELEMENTDATA_21.keep K25q nin0
  have E_w_clauses_a0_25 := E_w_clauses_a0_21.keep K25q
  have F_elementData_w_clauses_a0_25 := F_elementData_w_clauses_a0_21.keep K25q nin0
  have F_size_w_clauses_a0_25 := F_size_w_clauses_a0_21.keep K25q nin0
  have F_modCount_w_clauses_a0_25 := F_modCount_w_clauses_a0_21.keep K25q nin0
  have Y4_25 := Y4_21.keep K25q
  have V_b4_21_25 := V_b4_21.keep K25q nin0
  have K25 : Keep h0 T25.heap [w_clauses_a0, a0] := K21.trans K25q all0
  have Z25 : n0 ≤ T25.heap.size := Nat.le_trans Z21 K25q.1
  have pre26 : ∀ t, Steps p.tables e below (T25.setTop (mkF m 74 #[.val (.ref a0), .val (.ref a1), .val (.ref b4), .val (.int (2 : Int32)), .val (.ref a1), .val (.int (2 : Int32)), .val (.int (2 : Int32)), .val (.int v16)] [(.ref b25), (.ref w_clauses_a0)])) t → Steps p.tables e below (s₁.setTop (entryFrame m #[(.ref a0), (.ref a1)] 8)) t := fun t k => pre24 t (by
    show Steps p.tables e below (T23.setTop (mkF m 71 #[.val (.ref a0), .val (.ref a1), .val (.ref b4), .val (.int (2 : Int32)), .val (.ref a1), .val (.int (2 : Int32)), .val (.int (2 : Int32)), .val (.int v16)] [(.int (2 : Int32)), (.ref b4), (.ref w_clauses_a0)])) _
    refine st25 _ ?_
    exact k)
  obtain ⟨cq27, kq27, q27a, q27b, q27c⟩ := isOf hZ rfl E_w_clauses_a0_25
  obtain ⟨_, _, ⟨T27, L27, k27, n27⟩, -, X27, ⟨Lc27, hQ27, l27, y27, z27⟩, st27⟩ := X25.interfaceBack hx (xi := (⟨"java/util/List", "add", "(Ljava/lang/Object;)Z"⟩ : MethodName)) (y := (⟨"java/util/ArrayList", "add", "(Ljava/lang/Object;)Z"⟩ : MethodName)) hown (mvT hZ (hw _ (List.mem_of_getElem? (i := 95) rfl))) (mvT hZ (hw _ (List.mem_of_getElem? (i := 96) rfl))) (mvT hZ (hw _ (List.mem_of_getElem? (i := 97) rfl))) (mvT hZ (hw _ (List.mem_of_getElem? (i := 98) rfl))) (mvT hZ (hw _ (List.mem_of_getElem? (i := 99) rfl))) (mvT hZ (hw _ (List.mem_of_getElem? (i := 100) rfl))) (mvT hZ (hw _ (List.mem_of_getElem? (i := 101) rfl))) (mvT hZ (hw _ (List.mem_of_getElem? (i := 59) rfl))) (by decide) (backOf (W := 0) (rm14 l Z aw hw [] w_clauses_a0 b25 w_DEFAULTCAPACITY_EMPTY_ELEMENTDATA ka_D w_modCount_w_clauses_a0 T25.heap n0 Z25 S_DEFAULTCAPACITY_EMPTY_ELEMENTDATA_25 V_w_DEFAULTCAPACITY_EMPTY_ELEMENTDATA_25 E_w_clauses_a0_25 F_elementData_w_clauses_a0_25 F_size_w_clauses_a0_25 F_modCount_w_clauses_a0_25 x25_0 g_w_clauses_a0 ne_w_DEFAULTCAPACITY_EMPTY_ELEMENTDATA_w_clauses_a0) hZ (hw _ (List.mem_of_getElem? (i := 102) rfl)) (hw _ (List.mem_of_getElem? (i := 11) rfl)) (by decide) (by decide)) q27a q27b q27c (g := (mkF m 74 #[.val (.ref a0), .val (.ref a1), .val (.ref b4), .val (.int (2 : Int32)), .val (.ref a1), .val (.int (2 : Int32)), .val (.int (2 : Int32)), .val (.int v16)] [(.ref b25), (.ref w_clauses_a0)])) rfl (by rw [hml]; rfl) (Steps.refl _) (argsL := [(.ref b25)]) (rest := []) (lenOf pd_6 rfl) rfl (by show 2 * 0 + _ ≤ _; exact Nat.le_of_eq rfl) (hb hby d11_74) (fun _ _ => ⟨rfl, rfl, (by decide : 2 + 1 ≤ _), (by decide : 4 + 10 ≤ _)⟩)
  dsimp only [Pt.U, Pt.locs, Pt.cells, Pt.slots] at X27 l27 y27 z27 st27 hQ27
  subst l27 y27 z27
  obtain ⟨rfl, N27q, K27q, E27_a0, F27_a0_size, F27_a0_modCount⟩ := hQ27
  have N27 := Fr.app N25 N27q
  have F_variables_a0_27 := F_variables_a0_25.keep K27q (ninS ne_a0_w_clauses_a0 nin0)
  have V_a1_27 := V_a1_25.keep K27q (ninS ne_a1_w_clauses_a0 nin0)
  have E_a0_27 := E_a0_25.keep K27q
  have F_literals_a0_27 := F_literals_a0_25.keep K27q (ninS ne_a0_w_clauses_a0 nin0)
  have F_clauses_a0_27 := F_clauses_a0_25.keep K27q (ninS ne_a0_w_clauses_a0 nin0)
  have S_DEFAULTCAPACITY_EMPTY_ELEMENTDATA_27 := own_sta_keep S_DEFAULTCAPACITY_EMPTY_ELEMENTDATA_25 K27q (allS (own_exa_plain E_w_clauses_a0_25) all0)
  have V_w_DEFAULTCAPACITY_EMPTY_ELEMENTDATA_27 := V_w_DEFAULTCAPACITY_EMPTY_ELEMENTDATA_25.keep K27q (ninS ne_w_DEFAULTCAPACITY_EMPTY_ELEMENTDATA_w_clauses_a0 nin0)
  have E_w_clauses_a0_27 := E_w_clauses_a0_25.keep K27q
  have Y4_27 := Y4_25.keep K27q
  have V_b4_21_27 := V_b4_21_25.keep K27q (ninS (Ne.symm ne_w_clauses_a0_b4) nin0)
  have x25_0_27 := x25_0.keep K27q
  have V_b4_27 := x25_1.keep K27q (ninS (Ne.symm ne_w_clauses_a0_b25) nin0)
  have F27_a0_size' : Fld Z T27.heap w_clauses_a0 "java/util/ArrayList" "size" "I" (.int (1 : Int32)) := F27_a0_size
  have F27_a0_modCount' : Fld Z T27.heap w_clauses_a0 "java/util/AbstractList" "modCount" "I" (.int (w_modCount_w_clauses_a0 + (1 : Int32))) := F27_a0_modCount
  have K27 : Keep h0 T27.heap [w_clauses_a0, a0] := K25.trans K27q (allS (Or.inl (by simp)) all0)
  have Z27 : n0 ≤ T27.heap.size := Nat.le_trans Z25 K27q.1
  have pre28 : ∀ t, Steps p.tables e below (T27.setTop (mkF m 82 #[.val (.ref a0), .val (.ref a1), .val (.ref b4), .val (.int (2 : Int32)), .val (.ref a1), .val (.int (2 : Int32)), .val (.int (2 : Int32)), .val (.int v16)] [(.ref a0), (.ref a0)])) t → Steps p.tables e below (s₁.setTop (entryFrame m #[(.ref a0), (.ref a1)] 8)) t := fun t k => pre26 t (by
    show Steps p.tables e below (T25.setTop (mkF m 74 #[.val (.ref a0), .val (.ref a1), .val (.ref b4), .val (.int (2 : Int32)), .val (.ref a1), .val (.int (2 : Int32)), .val (.int (2 : Int32)), .val (.int v16)] [(.ref b25), (.ref w_clauses_a0)])) _
    refine st27.trans ?_
    show Steps p.tables e below (T27.setTop (mkF m 79 #[.val (.ref a0), .val (.ref a1), .val (.ref b4), .val (.int (2 : Int32)), .val (.ref a1), .val (.int (2 : Int32)), .val (.int (2 : Int32)), .val (.int v16)] [(.int (1 : Int32))])) _
    refine XS.pop X27.here hx rfl (hb hby d11_79) rfl rfl ?_
    show Steps p.tables e below (T27.setTop (mkF m 80 #[.val (.ref a0), .val (.ref a1), .val (.ref b4), .val (.int (2 : Int32)), .val (.ref a1), .val (.int (2 : Int32)), .val (.int (2 : Int32)), .val (.int v16)] [])) _
    refine XS.aloadN X27.here hx rfl (hb hby d11_80) rfl rfl ?_
    show Steps p.tables e below (T27.setTop (mkF m 81 #[.val (.ref a0), .val (.ref a1), .val (.ref b4), .val (.int (2 : Int32)), .val (.ref a1), .val (.int (2 : Int32)), .val (.int (2 : Int32)), .val (.int v16)] [(.ref a0)])) _
    refine XS.dup X27.here hx rfl (hb hby d11_81) rfl rfl ?_
    exact k)
  obtain ⟨T29, X29, e29, st29⟩ := getF X27 hx hZ hown (host := "") (Or.inl (hw _ (List.mem_of_getElem? (i := 68) rfl))) Via.refl rfl F_literals_a0_27 (g := (mkF m 82 #[.val (.ref a0), .val (.ref a1), .val (.ref b4), .val (.int (2 : Int32)), .val (.ref a1), .val (.int (2 : Int32)), .val (.int (2 : Int32)), .val (.int v16)] [(.ref a0), (.ref a0)])) rfl rfl (hb hby d11_82)
  have pre30 : ∀ t, Steps p.tables e below (T29.setTop (mkF m 87 #[.val (.ref a0), .val (.ref a1), .val (.ref b4), .val (.int (2 : Int32)), .val (.ref a1), .val (.int (2 : Int32)), .val (.int (2 : Int32)), .val (.int v16)] [(.int (w_literals_a0 + (2 : Int32))), (.ref a0)])) t → Steps p.tables e below (s₁.setTop (entryFrame m #[(.ref a0), (.ref a1)] 8)) t := fun t k => pre28 t (by
    show Steps p.tables e below (T27.setTop (mkF m 82 #[.val (.ref a0), .val (.ref a1), .val (.ref b4), .val (.int (2 : Int32)), .val (.ref a1), .val (.int (2 : Int32)), .val (.int (2 : Int32)), .val (.int v16)] [(.ref a0), (.ref a0)])) _
    refine st29 _ ?_
    show Steps p.tables e below (T29.setTop (mkF m 85 #[.val (.ref a0), .val (.ref a1), .val (.ref b4), .val (.int (2 : Int32)), .val (.ref a1), .val (.int (2 : Int32)), .val (.int (2 : Int32)), .val (.int v16)] [(.int w_literals_a0), (.ref a0)])) _
    refine XS.iloadN X29.here hx rfl (hb hby d11_85) rfl ?_
    show Steps p.tables e below (T29.setTop (mkF m 86 #[.val (.ref a0), .val (.ref a1), .val (.ref b4), .val (.int (2 : Int32)), .val (.ref a1), .val (.int (2 : Int32)), .val (.int (2 : Int32)), .val (.int v16)] [(.int (2 : Int32)), (.int w_literals_a0), (.ref a0)])) _
    refine XS.iadd X29.here hx rfl (hb hby d11_86) rfl ?_
    exact k)
  obtain ⟨T31, h31, X31, e31, W31, st31⟩ := putF X29 hx hZ hown (host := "") (Or.inl (hw _ (List.mem_of_getElem? (i := 68) rfl))) Via.refl e29 F_literals_a0_27 E_a0_27 (Or.inl (hw _ (List.mem_of_getElem? (i := 69) rfl))) (hw _ (List.mem_of_getElem? (i := 1) rfl)) (ty := .int) (by decide) rfl rfl (g := (mkF m 87 #[.val (.ref a0), .val (.ref a1), .val (.ref b4), .val (.int (2 : Int32)), .val (.ref a1), .val (.int (2 : Int32)), .val (.int (2 : Int32)), .val (.int v16)] [(.int (w_literals_a0 + (2 : Int32))), (.ref a0)])) rfl rfl (hb hby d11_87)
  have F_variables_a0_31 := F_variables_a0_27.other W31 (Or.inr (slot_ne (Or.inl (hw _ (List.mem_of_getElem? (i := 41) rfl))) (Or.inl (hw _ (List.mem_of_getElem? (i := 69) rfl))) (by decide) (t := .int) (t' := .int) (by decide) (by decide)))
  have V_a1_31 := V_a1_27.other W31 ne_a1_a0
  have E_a0_31 := E_a0_27.wr W31
  have F_literals_a0_31 := F_literals_a0_27.same W31
  have F_clauses_a0_31 := F_clauses_a0_27.other W31 (Or.inr (slot_ne (Or.inr (hw _ (List.mem_of_getElem? (i := 34) rfl))) (Or.inl (hw _ (List.mem_of_getElem? (i := 69) rfl))) (by decide) (t := (.object "java/util/List")) (t' := .int) (by decide) (by decide)))
  have S_DEFAULTCAPACITY_EMPTY_ELEMENTDATA_31 := S_DEFAULTCAPACITY_EMPTY_ELEMENTDATA_27.wr W31
  have V_w_DEFAULTCAPACITY_EMPTY_ELEMENTDATA_31 := V_w_DEFAULTCAPACITY_EMPTY_ELEMENTDATA_27.other W31 ne_w_DEFAULTCAPACITY_EMPTY_ELEMENTDATA_a0
  have E_w_clauses_a0_31 := E_w_clauses_a0_27.wr W31
  have F27_a0_size'_31 := F27_a0_size'.other W31 (Or.inl (Ne.symm ne_a0_w_clauses_a0))
  have F27_a0_modCount'_31 := F27_a0_modCount'.other W31 (Or.inl (Ne.symm ne_a0_w_clauses_a0))
  have Y4_31 := Y4_27.wr W31
  have V_b4_21_31 := V_b4_21_27.other W31 (Ne.symm ne_a0_b4)
  have x25_0_31 := x25_0_27.wr W31
  have V_b4_31 := V_b4_27.other W31 (Ne.symm ne_a0_b25)
  have K31 : Keep h0 h31 [w_clauses_a0, a0] := K27.wr W31 (Or.inl (by simp))
  have N31 := Fr.snoc X31 N27 g_a0
  have Z31 : n0 ≤ h31.size := (Nat.le_trans Z27 (Nat.le_of_eq W31.size.symm))
  obtain ⟨fs, hr, hrun, hended, hW, hsame⟩ := X31.leave (v := none) (fun _ => rfl)
  refine ⟨_, _, pre30 _ ?_, hrun, hended, _, _, rfl, ?_, ⟨_, rfl⟩, hW, hsame.mono (by decide) (by decide)⟩
  · show Steps p.tables e below (T29.setTop (mkF m 87 #[.val (.ref a0), .val (.ref a1), .val (.ref b4), .val (.int (2 : Int32)), .val (.ref a1), .val (.int (2 : Int32)), .val (.int (2 : Int32)), .val (.int v16)] [(.int (w_literals_a0 + (2 : Int32))), (.ref a0)])) _
    refine st31 _ ?_
    show Steps p.tables e below (T31.setTop (mkF m 90 #[.val (.ref a0), .val (.ref a1), .val (.ref b4), .val (.int (2 : Int32)), .val (.ref a1), .val (.int (2 : Int32)), .val (.int (2 : Int32)), .val (.int v16)] [])) _
    exact X31.returnOut hx Bd.returns (hb hby d11_90) hr
  · show Q11 Z a0 a1 n ka_a1 w_literals_a0 w_clauses_a0 w_DEFAULTCAPACITY_EMPTY_ELEMENTDATA ka_D w_modCount_w_clauses_a0 h0 n0 _ T31.heap _
    rw [e31]
    have hF_w_clauses_a0_size : (1 : Int32) = f11_w_clauses_a0_size n w_literals_a0 w_clauses_a0 := (by subst hv16; rfl)
    have hF_a0_variables : n = f11_a0_variables n w_literals_a0 w_clauses_a0 := (by subst hv16; rfl)
    have hF_a0_literals : (w_literals_a0 + (2 : Int32)) = f11_a0_literals n w_literals_a0 w_clauses_a0 := (by subst hv16; rfl)
    have hF_a0_clauses : w_clauses_a0 = f11_a0_clauses n w_literals_a0 w_clauses_a0 := (by subst hv16; rfl)
    exact ⟨rfl, N31, K31, E_w_clauses_a0_31, E_a0_31, (hF_w_clauses_a0_size ▸ F27_a0_size'_31), (hF_a0_variables ▸ F_variables_a0_31), (hF_a0_literals ▸ F_literals_a0_31), (hF_a0_clauses ▸ F_clauses_a0_31)⟩
theorem own_empty {s : State} {args : Array Value} {t : Term} {a : Addr} (ev : t.eval args s none [] s = some (.ref a)) (w1 : (Cond.arrayOf t (.object "java/lang/Object")).value args s none s [] = some true) (w2 : (Cond.eq (.length t) (.int 0)).value args s none s [] = some true) :
    ∃ k, Arv s s.heap a k (.object "java/lang/Object") (0 : Int32) [] .null := by
  obtain ⟨c, A⟩ := Arr.start ev w1
  have h := own_eq_int w2
  have ha : s.arrayAt? a = some c := IntBox.arrayAt_of A.1 A.2.1 A.2.2
  have sz : c.slots.size = 0 := by
    by_cases hl : c.slots.size < 2 ^ 31
    · rw [len_f ev ha hl] at h
      have e : c.slots.size.toInt32 = 0 := Value.int.inj (Option.some.inj h)
      have f := congrArg Int32.toInt e
      have k0 : (0 : Int32).toInt = 0 := by decide
      have g : (Int32.ofNat c.slots.size).toInt = c.slots.size := Int32.toInt_ofNat_of_lt hl
      have g' : c.slots.size.toInt32.toInt = c.slots.size := g
      rw [g', k0] at f
      omega
    · simp [Term.eval, ev, ha, hl] at h
  exact ⟨c.cls, c, A, rfl, by rw [sz]; rfl, by decide, fun k hk => absurd hk (by rw [sz]; omega), fun i hi => absurd hi (by rw [sz]; omega)⟩
theorem pn_1 : plainName "com/example/prune_to_fit/prunetofit/sat/CnfNewVariablePinLaw" = true := by first | (simp [plainName, overriddenIn]; done) | decide +kernel
theorem pd_2 : parseMethodDescriptor "([I)V" = some ⟨[(.array .int)], none⟩ := by decide +kernel
theorem ef_0 (m : MethodId) (x0 : Int32) : entryFrame m #[(.int x0)] maxLocals = mkF m 0 #[.val (.int x0), .unset, .unset, .unset, .unset, .unset, .unset, .unset] [] := by first | (simp [entryFrame, mkF, argsToLocals, Value.category, maxLocals]; done) | rfl
def f0 (p0 : Int32) : Int32 := (let j6 : Int32 := (if (p0 &&& (1 : Int32)) = (0 : Int32) then (0 : Int32) else (1 : Int32)); (let j10 : Int32 := (if (p0 &&& (2 : Int32)) = (0 : Int32) then (0 : Int32) else (1 : Int32)); (if j6 = (0 : Int32) then (if j10 = (0 : Int32) then (let j26 : Int32 := (if (f8 (0 : Int32)) = (0 : Int32) then (1 : Int32) else (0 : Int32)); (if j26 = (0 : Int32) then (0 : Int32) else (let j47 : Int32 := (if (f8 (1 : Int32)) = (1 : Int32) then (1 : Int32) else (0 : Int32)); (nar .boolean j47)))) else (let j60 : Int32 := (if (f8 (0 : Int32)) = (0 : Int32) then (1 : Int32) else (0 : Int32)); (if j60 = (0 : Int32) then (0 : Int32) else (let j81 : Int32 := (if (f8 (1 : Int32)) = (1 : Int32) then (1 : Int32) else (0 : Int32)); (nar .boolean j81))))) else (if j10 = (0 : Int32) then (let j96 : Int32 := (if (f8 (0 : Int32)) = (0 : Int32) then (1 : Int32) else (0 : Int32)); (if j96 = (0 : Int32) then (0 : Int32) else (let j117 : Int32 := (if (f8 (1 : Int32)) = (1 : Int32) then (1 : Int32) else (0 : Int32)); (nar .boolean j117)))) else (let j130 : Int32 := (if (f8 (0 : Int32)) = (0 : Int32) then (1 : Int32) else (0 : Int32)); (if j130 = (0 : Int32) then (0 : Int32) else (let j151 : Int32 := (if (f8 (1 : Int32)) = (1 : Int32) then (1 : Int32) else (0 : Int32)); (nar .boolean j151))))))))
def Q0 (Z : State) (p0 : Int32) (w_DEFAULTCAPACITY_EMPTY_ELEMENTDATA : Addr) (ka_D : ClassId) (h0 : Heap) (n0 : Nat) (v : Option Value) (h : Heap) (L : List Loc) : Prop := v = some (.int (1 : Int32)) ∧ Fr n0 L
set_option maxRecDepth 65536 in
set_option maxHeartbeats 40000000 in
theorem rm0 (l : Launch) (Z : State) (aw : Array Value) (hw : ∀ d ∈ tables_1, d.before aw Z = true) (ws : List Jvm.Cond) (p0 : Int32) (w_DEFAULTCAPACITY_EMPTY_ELEMENTDATA : Addr) (ka_D : ClassId) (h0 : Heap) (n0 : Nat) (Z0 : n0 ≤ h0.size) (S_DEFAULTCAPACITY_EMPTY_ELEMENTDATA : Sta Z h0 "java/util/ArrayList" "DEFAULTCAPACITY_EMPTY_ELEMENTDATA" "[Ljava/lang/Object;" (.ref w_DEFAULTCAPACITY_EMPTY_ELEMENTDATA)) (V_w_DEFAULTCAPACITY_EMPTY_ELEMENTDATA : Arv Z h0 w_DEFAULTCAPACITY_EMPTY_ELEMENTDATA ka_D (.object "java/lang/Object") (0 : Int32) [] .null) (hlaw : f0 p0 = 1) :
    MetFree l x (head1 (Jvm.Cond.code x code maxLocals ret :: ws) room_1) (fun a U => a = #[(.int p0)] ∧ Z.Warmed39 U.vm ∧ U.heap = h0) (fun _ _ _ _ _ => True) (fun _ U o U' => ∃ v L, o = .returned v ∧ Q0 Z p0 w_DEFAULTCAPACITY_EMPTY_ELEMENTDATA ka_D h0 n0 v U'.heap L ∧ FrameEnd U o U' L room_1.cells room_1.slots) := by
  refine MetFree.of_bodySF (plainFor_of_name pn_1) hisR ?_
  intro p e s m args below meth c s₁ Bd hml0 hP hK
  obtain ⟨rfl, hZ, hh⟩ := hP
  have hx := Bd.exec
  have hby := Bd.bytes
  have hml : c.maxLocals = 8 := hml0
  have hown : s.vm.findClass "com/example/prune_to_fit/prunetofit/sat/CnfNewVariablePinLaw" = some m.cls := findClass_of_methodNamed Bd.named
  have hnm := (name_of_methodNamed Bd.named Bd.method).1
  have X0 : Stand p l e room_1 s m #[(.int p0)] below meth c s₁ [] 0 0 := Stand.of_body Bd
  have e0 : s₁.heap = h0 := by rw [← hh, Bd.state]; rfl
  have N0 := Fr.nil n0
  have pre0 : ∀ t, Steps p.tables e below (s₁.setTop (mkF m 0 #[.val (.int p0), .unset, .unset, .unset, .unset, .unset, .unset, .unset] [])) t → Steps p.tables e below (s₁.setTop (entryFrame m #[(.int p0)] maxLocals)) t := fun t k => castTop (ef_0 m p0) k
  obtain ⟨T1, h1, X1, e1, E1, A1, D1, -, st1⟩ := newO X0 hx hZ hown (hw _ (List.mem_of_getElem? (i := 0) rfl)) (hw _ (List.mem_of_getElem? (i := 1) rfl)) (hw _ (List.mem_of_getElem? (i := 2) rfl)) e0 (g := (mkF m 0 #[.val (.int p0), .unset, .unset, .unset, .unset, .unset, .unset, .unset] [])) rfl (hb hby at_0) (by decide) (by decide)
  obtain ⟨b1, g1⟩ : ∃ z, z = h0.size := ⟨_, rfl⟩
  have ne_w_DEFAULTCAPACITY_EMPTY_ELEMENTDATA_b1 : w_DEFAULTCAPACITY_EMPTY_ELEMENTDATA ≠ b1 := Nat.ne_of_lt (Nat.lt_of_lt_of_le V_w_DEFAULTCAPACITY_EMPTY_ELEMENTDATA.lt (Nat.le_of_eq g1.symm))
  have g_b1 : n0 ≤ b1 := Nat.le_trans Z0 (Nat.le_of_eq g1.symm)
  have sz_b1 : h0.size ≤ b1 := Nat.le_trans (Keep.refl h0 []).1 (Nat.le_of_eq g1.symm)
  rw [← g1] at A1 D1 st1
  have S_DEFAULTCAPACITY_EMPTY_ELEMENTDATA_1 := S_DEFAULTCAPACITY_EMPTY_ELEMENTDATA.ext E1
  have V_w_DEFAULTCAPACITY_EMPTY_ELEMENTDATA_1 := V_w_DEFAULTCAPACITY_EMPTY_ELEMENTDATA.ext E1
  have K1 : Keep h0 h1 [] := (Keep.refl h0 []).ext E1
  have Z1 : n0 ≤ h1.size := Nat.le_trans Z0 E1.1
  have F_clauses_b1 : Fld Z h1 b1 "com/example/prune_to_fit/prunetofit/sat/Cnf" "clauses" "Ljava/util/List;" .null := D1 (Or.inr (hw _ (List.mem_of_getElem? (i := 34) rfl))) (ty := (.object "java/util/List")) (by decide)
  have F_variables_b1 : Fld Z h1 b1 "com/example/prune_to_fit/prunetofit/sat/Cnf" "variables" "I" (.int (0 : Int32)) := D1 (Or.inl (hw _ (List.mem_of_getElem? (i := 41) rfl))) (ty := .int) (by decide)
  have F_literals_b1 : Fld Z h1 b1 "com/example/prune_to_fit/prunetofit/sat/Cnf" "literals" "I" (.int (0 : Int32)) := D1 (Or.inl (hw _ (List.mem_of_getElem? (i := 69) rfl))) (ty := .int) (by decide)
  have pre2 : ∀ t, Steps p.tables e below (T1.setTop (mkF m 4 #[.val (.int p0), .unset, .unset, .unset, .unset, .unset, .unset, .unset] [(.ref b1), (.ref b1)])) t → Steps p.tables e below (s₁.setTop (entryFrame m #[(.int p0)] maxLocals)) t := fun t k => pre0 t (by
    show Steps p.tables e below (s₁.setTop (mkF m 0 #[.val (.int p0), .unset, .unset, .unset, .unset, .unset, .unset, .unset] [])) _
    refine st1 _ ?_
    show Steps p.tables e below (T1.setTop (mkF m 3 #[.val (.int p0), .unset, .unset, .unset, .unset, .unset, .unset, .unset] [(.ref b1)])) _
    refine XS.dup X1.here hx rfl (hb hby at_3) rfl rfl ?_
    exact k)
  obtain ⟨_, _, ⟨T3, L3, k3, n3⟩, -, X3, ⟨Lc3, hQ3, l3, y3, z3⟩, st3⟩ := X1.specialBack hx (y := (⟨"com/example/prune_to_fit/prunetofit/sat/Cnf", "<init>", "()V"⟩ : MethodName)) rfl hown (mvT hZ (hw _ (List.mem_of_getElem? (i := 3) rfl))) (mvT hZ (hw _ (List.mem_of_getElem? (i := 4) rfl))) (mvT hZ (hw _ (List.mem_of_getElem? (i := 5) rfl))) (by decide) (backOf (W := 1) (rm1 l Z aw hw [] b1 (0 : Int32) (0 : Int32) w_DEFAULTCAPACITY_EMPTY_ELEMENTDATA .null h1 n0 Z1 A1 F_variables_b1 F_literals_b1 S_DEFAULTCAPACITY_EMPTY_ELEMENTDATA_1 F_clauses_b1 g_b1) hZ (hw _ (List.mem_of_getElem? (i := 5) rfl)) (hw _ (List.mem_of_getElem? (i := 2) rfl)) (by decide) (by decide)) (g := (mkF m 4 #[.val (.int p0), .unset, .unset, .unset, .unset, .unset, .unset, .unset] [(.ref b1), (.ref b1)])) rfl (by rw [hml]; rfl) (Steps.refl _) (a := b1) (argsL := []) (rest := [(.ref b1)]) (lenOf pd_0 rfl) rfl (by show 2 * 0 + _ ≤ _; exact Nat.le_of_eq rfl) (hb hby at_4) (fun _ _ => ⟨rfl, e1, (by decide : 1 + 1 ≤ _), (by decide : 3 + 3 ≤ _)⟩)
  dsimp only [Pt.U, Pt.locs, Pt.cells, Pt.slots] at X3 l3 y3 z3 st3 hQ3
  subst l3 y3 z3
  obtain ⟨rfl, N3q, K3q, E3_a0, F3_a0_variables, F3_a0_literals, F3_a0_clauses, x3_0, x3_1, x3_2, x3_3⟩ := hQ3
  have N3 := Fr.app N0 N3q
  obtain ⟨b3, g3⟩ : ∃ z, z = h1.size := ⟨_, rfl⟩
  have ne_b1_b3 : b1 ≠ b3 := Nat.ne_of_lt (Nat.lt_of_lt_of_le A1.lt (Nat.le_of_eq g3.symm))
  have ne_w_DEFAULTCAPACITY_EMPTY_ELEMENTDATA_b3 : w_DEFAULTCAPACITY_EMPTY_ELEMENTDATA ≠ b3 := Nat.ne_of_lt (Nat.lt_of_lt_of_le V_w_DEFAULTCAPACITY_EMPTY_ELEMENTDATA_1.lt (Nat.le_of_eq g3.symm))
  have g_b3 : n0 ≤ b3 := Nat.le_trans Z1 (Nat.le_of_eq g3.symm)
  have sz_b3 : h0.size ≤ b3 := Nat.le_trans K1.1 (Nat.le_of_eq g3.symm)
  rw [← g3] at x3_0 x3_1 x3_2 x3_3 F3_a0_clauses
  have S_DEFAULTCAPACITY_EMPTY_ELEMENTDATA_3 := own_sta_keep S_DEFAULTCAPACITY_EMPTY_ELEMENTDATA_1 K3q (allS (own_exa_plain A1) all0)
  have V_w_DEFAULTCAPACITY_EMPTY_ELEMENTDATA_3 := V_w_DEFAULTCAPACITY_EMPTY_ELEMENTDATA_1.keep K3q (ninS ne_w_DEFAULTCAPACITY_EMPTY_ELEMENTDATA_b1 nin0)
  have A1_3 := A1.keep K3q
  have F3_a0_variables' : Fld Z T3.heap b1 "com/example/prune_to_fit/prunetofit/sat/Cnf" "variables" "I" (.int (0 : Int32)) := F3_a0_variables
  have F3_a0_literals' : Fld Z T3.heap b1 "com/example/prune_to_fit/prunetofit/sat/Cnf" "literals" "I" (.int (0 : Int32)) := F3_a0_literals
  have F3_a0_clauses' : Fld Z T3.heap b1 "com/example/prune_to_fit/prunetofit/sat/Cnf" "clauses" "Ljava/util/List;" (.ref b3) := F3_a0_clauses
  have K3 : Keep h0 T3.heap [] := K1.trans K3q (allS (Or.inr sz_b1) all0)
  have Z3 : n0 ≤ T3.heap.size := Nat.le_trans Z1 K3q.1
  have pre4 : ∀ t, Steps p.tables e below (T3.setTop (mkF m 11 #[.val (.int p0), .val (.ref b1), .unset, .unset, .unset, .unset, .unset, .unset] [(.int (p0 &&& (1 : Int32)))])) t → Steps p.tables e below (s₁.setTop (entryFrame m #[(.int p0)] maxLocals)) t := fun t k => pre2 t (by
    show Steps p.tables e below (T1.setTop (mkF m 4 #[.val (.int p0), .unset, .unset, .unset, .unset, .unset, .unset, .unset] [(.ref b1), (.ref b1)])) _
    refine st3.trans ?_
    show Steps p.tables e below (T3.setTop (mkF m 7 #[.val (.int p0), .unset, .unset, .unset, .unset, .unset, .unset, .unset] [(.ref b1)])) _
    refine XS.astoreN X3.here hx rfl (hb hby at_7) rfl rfl (l' := #[.val (.int p0), .val (.ref b1), .unset, .unset, .unset, .unset, .unset, .unset]) rfl ?_
    show Steps p.tables e below (T3.setTop (mkF m 8 #[.val (.int p0), .val (.ref b1), .unset, .unset, .unset, .unset, .unset, .unset] [])) _
    refine XS.iloadN X3.here hx rfl (hb hby at_8) rfl ?_
    show Steps p.tables e below (T3.setTop (mkF m 9 #[.val (.int p0), .val (.ref b1), .unset, .unset, .unset, .unset, .unset, .unset] [(.int p0)])) _
    refine XS.iconst X3.here hx rfl (hb hby at_9) ?_
    show Steps p.tables e below (T3.setTop (mkF m 10 #[.val (.int p0), .val (.ref b1), .unset, .unset, .unset, .unset, .unset, .unset] [(.int (1 : Int32)), (.int p0)])) _
    refine XS.iand X3.here hx rfl (hb hby at_10) rfl ?_
    exact k)
  obtain ⟨j6, hj6, pre7⟩ : ∃ (j6 : Int32), j6 = (if (p0 &&& (1 : Int32)) = (0 : Int32) then (0 : Int32) else (1 : Int32)) ∧ ∀ t, Steps p.tables e below (T3.setTop (mkF m 19 #[.val (.int p0), .val (.ref b1), .unset, .unset, .unset, .unset, .unset, .unset] [(.int j6)])) t → Steps p.tables e below (s₁.setTop (entryFrame m #[(.int p0)] maxLocals)) t := by
    by_cases hc5 : (p0 &&& (1 : Int32)) = (0 : Int32)
    · exact ⟨(0 : Int32), (by rw [if_pos hc5]), fun t k => pre4 t (by
        show Steps p.tables e below (T3.setTop (mkF m 11 #[.val (.int p0), .val (.ref b1), .unset, .unset, .unset, .unset, .unset, .unset] [(.int (p0 &&& (1 : Int32)))])) _
        refine XS.ifYes X3.here hx rfl (pc0 := 11) (pc' := 18) rfl (hb hby at_11) rfl ((if0 _ _).trans (teq hc5).1) (by decide) (by decide) ?_
        show Steps p.tables e below (T3.setTop (mkF m 18 #[.val (.int p0), .val (.ref b1), .unset, .unset, .unset, .unset, .unset, .unset] [])) _
        refine XS.iconst X3.here hx rfl (hb hby at_18) ?_
        exact k)⟩
    · exact ⟨(1 : Int32), (by rw [if_neg hc5]), fun t k => pre4 t (by
        show Steps p.tables e below (T3.setTop (mkF m 11 #[.val (.int p0), .val (.ref b1), .unset, .unset, .unset, .unset, .unset, .unset] [(.int (p0 &&& (1 : Int32)))])) _
        refine XS.ifNo X3.here hx rfl (hb hby at_11) rfl ((if0 _ _).trans (feq hc5).1) ?_
        show Steps p.tables e below (T3.setTop (mkF m 14 #[.val (.int p0), .val (.ref b1), .unset, .unset, .unset, .unset, .unset, .unset] [])) _
        refine XS.iconst X3.here hx rfl (hb hby at_14) ?_
        show Steps p.tables e below (T3.setTop (mkF m 15 #[.val (.int p0), .val (.ref b1), .unset, .unset, .unset, .unset, .unset, .unset] [(.int (1 : Int32))])) _
        refine XS.goto X3.here hx rfl (pc0 := 15) (pc' := 19) rfl (hb hby at_15) (by decide) (by decide) ?_
        exact k)⟩
  have pre8 : ∀ t, Steps p.tables e below (T3.setTop (mkF m 23 #[.val (.int p0), .val (.ref b1), .val (.int j6), .unset, .unset, .unset, .unset, .unset] [(.int (p0 &&& (2 : Int32)))])) t → Steps p.tables e below (s₁.setTop (entryFrame m #[(.int p0)] maxLocals)) t := fun t k => pre7 t (by
    show Steps p.tables e below (T3.setTop (mkF m 19 #[.val (.int p0), .val (.ref b1), .unset, .unset, .unset, .unset, .unset, .unset] [(.int j6)])) _
    refine XS.istoreN X3.here hx rfl (hb hby at_19) rfl (l' := #[.val (.int p0), .val (.ref b1), .val (.int j6), .unset, .unset, .unset, .unset, .unset]) rfl ?_
    show Steps p.tables e below (T3.setTop (mkF m 20 #[.val (.int p0), .val (.ref b1), .val (.int j6), .unset, .unset, .unset, .unset, .unset] [])) _
    refine XS.iloadN X3.here hx rfl (hb hby at_20) rfl ?_
    show Steps p.tables e below (T3.setTop (mkF m 21 #[.val (.int p0), .val (.ref b1), .val (.int j6), .unset, .unset, .unset, .unset, .unset] [(.int p0)])) _
    refine XS.iconst X3.here hx rfl (hb hby at_21) ?_
    show Steps p.tables e below (T3.setTop (mkF m 22 #[.val (.int p0), .val (.ref b1), .val (.int j6), .unset, .unset, .unset, .unset, .unset] [(.int (2 : Int32)), (.int p0)])) _
    refine XS.iand X3.here hx rfl (hb hby at_22) rfl ?_
    exact k)
  obtain ⟨j10, hj10, pre11⟩ : ∃ (j10 : Int32), j10 = (if (p0 &&& (2 : Int32)) = (0 : Int32) then (0 : Int32) else (1 : Int32)) ∧ ∀ t, Steps p.tables e below (T3.setTop (mkF m 31 #[.val (.int p0), .val (.ref b1), .val (.int j6), .unset, .unset, .unset, .unset, .unset] [(.int j10)])) t → Steps p.tables e below (s₁.setTop (entryFrame m #[(.int p0)] maxLocals)) t := by
    by_cases hc9 : (p0 &&& (2 : Int32)) = (0 : Int32)
    · exact ⟨(0 : Int32), (by rw [if_pos hc9]), fun t k => pre8 t (by
        show Steps p.tables e below (T3.setTop (mkF m 23 #[.val (.int p0), .val (.ref b1), .val (.int j6), .unset, .unset, .unset, .unset, .unset] [(.int (p0 &&& (2 : Int32)))])) _
        refine XS.ifYes X3.here hx rfl (pc0 := 23) (pc' := 30) rfl (hb hby at_23) rfl ((if0 _ _).trans (teq hc9).1) (by decide) (by decide) ?_
        show Steps p.tables e below (T3.setTop (mkF m 30 #[.val (.int p0), .val (.ref b1), .val (.int j6), .unset, .unset, .unset, .unset, .unset] [])) _
        refine XS.iconst X3.here hx rfl (hb hby at_30) ?_
        exact k)⟩
    · exact ⟨(1 : Int32), (by rw [if_neg hc9]), fun t k => pre8 t (by
        show Steps p.tables e below (T3.setTop (mkF m 23 #[.val (.int p0), .val (.ref b1), .val (.int j6), .unset, .unset, .unset, .unset, .unset] [(.int (p0 &&& (2 : Int32)))])) _
        refine XS.ifNo X3.here hx rfl (hb hby at_23) rfl ((if0 _ _).trans (feq hc9).1) ?_
        show Steps p.tables e below (T3.setTop (mkF m 26 #[.val (.int p0), .val (.ref b1), .val (.int j6), .unset, .unset, .unset, .unset, .unset] [])) _
        refine XS.iconst X3.here hx rfl (hb hby at_26) ?_
        show Steps p.tables e below (T3.setTop (mkF m 27 #[.val (.int p0), .val (.ref b1), .val (.int j6), .unset, .unset, .unset, .unset, .unset] [(.int (1 : Int32))])) _
        refine XS.goto X3.here hx rfl (pc0 := 27) (pc' := 31) rfl (hb hby at_27) (by decide) (by decide) ?_
        exact k)⟩
  have pre12 : ∀ t, Steps p.tables e below (T3.setTop (mkF m 33 #[.val (.int p0), .val (.ref b1), .val (.int j6), .val (.int j10), .unset, .unset, .unset, .unset] [(.ref b1)])) t → Steps p.tables e below (s₁.setTop (entryFrame m #[(.int p0)] maxLocals)) t := fun t k => pre11 t (by
    show Steps p.tables e below (T3.setTop (mkF m 31 #[.val (.int p0), .val (.ref b1), .val (.int j6), .unset, .unset, .unset, .unset, .unset] [(.int j10)])) _
    refine XS.istoreN X3.here hx rfl (hb hby at_31) rfl (l' := #[.val (.int p0), .val (.ref b1), .val (.int j6), .val (.int j10), .unset, .unset, .unset, .unset]) rfl ?_
    show Steps p.tables e below (T3.setTop (mkF m 32 #[.val (.int p0), .val (.ref b1), .val (.int j6), .val (.int j10), .unset, .unset, .unset, .unset] [])) _
    refine XS.aloadN X3.here hx rfl (hb hby at_32) rfl rfl ?_
    exact k)
  obtain ⟨cq13, kq13, q13a, q13b, q13c⟩ := isOf hZ rfl A1_3
  obtain ⟨_, _, ⟨T13, L13, k13, n13⟩, -, X13, ⟨Lc13, hQ13, l13, y13, z13⟩, st13⟩ := X3.virtualBack hx (y := (⟨"com/example/prune_to_fit/prunetofit/sat/Cnf", "newVariable", "()I"⟩ : MethodName)) (z := (⟨"com/example/prune_to_fit/prunetofit/sat/Cnf", "newVariable", "()I"⟩ : MethodName)) hown (mvT hZ (hw _ (List.mem_of_getElem? (i := 35) rfl))) (mvT hZ (hw _ (List.mem_of_getElem? (i := 36) rfl))) (notFace_of_selects (args := #[]) (mvT hZ (hw _ (List.mem_of_getElem? (i := 38) rfl)))) (mvT hZ (hw _ (List.mem_of_getElem? (i := 38) rfl))) (mvT hZ (hw _ (List.mem_of_getElem? (i := 37) rfl))) (by decide) (backOf (W := 0) (rm6 l Z aw hw [] b1 (0 : Int32) (0 : Int32) b3 T3.heap n0 Z3 A1_3 F3_a0_variables' F3_a0_literals' F3_a0_clauses' g_b1) hZ (hw _ (List.mem_of_getElem? (i := 39) rfl)) (hw _ (List.mem_of_getElem? (i := 2) rfl)) (by decide) (by decide)) q13a q13c (g := (mkF m 33 #[.val (.int p0), .val (.ref b1), .val (.int j6), .val (.int j10), .unset, .unset, .unset, .unset] [(.ref b1)])) rfl (by rw [hml]; rfl) (Steps.refl _) (argsL := []) (rest := []) (lenOf pd_1 rfl) rfl (by show 2 * 0 + _ ≤ _; exact Nat.le_of_eq rfl) (hb hby at_33) (fun _ _ => ⟨rfl, rfl, (by decide : 2 + 0 ≤ _), (by decide : 6 + 0 ≤ _)⟩)
  dsimp only [Pt.U, Pt.locs, Pt.cells, Pt.slots] at X13 l13 y13 z13 st13 hQ13
  subst l13 y13 z13
  obtain ⟨rfl, N13q, K13q, E13_a0, F13_a0_variables, F13_a0_literals, F13_a0_clauses⟩ := hQ13
  have N13 := Fr.app N3 N13q
  have S_DEFAULTCAPACITY_EMPTY_ELEMENTDATA_13 := own_sta_keep S_DEFAULTCAPACITY_EMPTY_ELEMENTDATA_3 K13q (allS (own_exa_plain A1_3) all0)
  have V_w_DEFAULTCAPACITY_EMPTY_ELEMENTDATA_13 := V_w_DEFAULTCAPACITY_EMPTY_ELEMENTDATA_3.keep K13q (ninS ne_w_DEFAULTCAPACITY_EMPTY_ELEMENTDATA_b1 nin0)
  have A1_13 := A1_3.keep K13q
  have x3_0_13 := x3_0.keep K13q
  have x3_1_13 := x3_1.keep K13q (ninS (Ne.symm ne_b1_b3) nin0)
  have x3_2_13 := x3_2.keep K13q (ninS (Ne.symm ne_b1_b3) nin0)
  have x3_3_13 := x3_3.keep K13q (ninS (Ne.symm ne_b1_b3) nin0)
  have F13_a0_variables' : Fld Z T13.heap b1 "com/example/prune_to_fit/prunetofit/sat/Cnf" "variables" "I" (.int (1 : Int32)) := F13_a0_variables
  have F13_a0_literals' : Fld Z T13.heap b1 "com/example/prune_to_fit/prunetofit/sat/Cnf" "literals" "I" (.int (0 : Int32)) := F13_a0_literals
  have F13_a0_clauses' : Fld Z T13.heap b1 "com/example/prune_to_fit/prunetofit/sat/Cnf" "clauses" "Ljava/util/List;" (.ref b3) := F13_a0_clauses
  have K13 : Keep h0 T13.heap [] := K3.trans K13q (allS (Or.inr sz_b1) all0)
  have Z13 : n0 ≤ T13.heap.size := Nat.le_trans Z3 K13q.1
  have pre14 : ∀ t, Steps p.tables e below (T13.setTop (mkF m 55 #[.val (.int p0), .val (.ref b1), .val (.int j6), .val (.int j10), .val (.int (1 : Int32)), .val (.int (1 : Int32)), .val (.int (1 : Int32)), .unset] [(.int j6)])) t → Steps p.tables e below (s₁.setTop (entryFrame m #[(.int p0)] maxLocals)) t := fun t k => pre12 t (by
    show Steps p.tables e below (T3.setTop (mkF m 33 #[.val (.int p0), .val (.ref b1), .val (.int j6), .val (.int j10), .unset, .unset, .unset, .unset] [(.ref b1)])) _
    refine st13.trans ?_
    show Steps p.tables e below (T13.setTop (mkF m 36 #[.val (.int p0), .val (.ref b1), .val (.int j6), .val (.int j10), .unset, .unset, .unset, .unset] [(.int (1 : Int32))])) _
    refine XS.istore X13.here hx rfl (hb hby at_36) rfl (l' := #[.val (.int p0), .val (.ref b1), .val (.int j6), .val (.int j10), .val (.int (1 : Int32)), .unset, .unset, .unset]) rfl ?_
    show Steps p.tables e below (T13.setTop (mkF m 38 #[.val (.int p0), .val (.ref b1), .val (.int j6), .val (.int j10), .val (.int (1 : Int32)), .unset, .unset, .unset] [])) _
    refine XS.iload X13.here hx rfl (hb hby at_38) rfl ?_
    show Steps p.tables e below (T13.setTop (mkF m 40 #[.val (.int p0), .val (.ref b1), .val (.int j6), .val (.int j10), .val (.int (1 : Int32)), .unset, .unset, .unset] [(.int (1 : Int32))])) _
    refine XS.iconst X13.here hx rfl (hb hby at_40) ?_
    show Steps p.tables e below (T13.setTop (mkF m 41 #[.val (.int p0), .val (.ref b1), .val (.int j6), .val (.int j10), .val (.int (1 : Int32)), .unset, .unset, .unset] [(.int (1 : Int32)), (.int (1 : Int32))])) _
    refine XS.icmpNo X13.here hx rfl (hb hby at_41) rfl (teq ((by decide) : (1 : Int32) = (1 : Int32))).2 ?_
    show Steps p.tables e below (T13.setTop (mkF m 44 #[.val (.int p0), .val (.ref b1), .val (.int j6), .val (.int j10), .val (.int (1 : Int32)), .unset, .unset, .unset] [])) _
    refine XS.iconst X13.here hx rfl (hb hby at_44) ?_
    show Steps p.tables e below (T13.setTop (mkF m 45 #[.val (.int p0), .val (.ref b1), .val (.int j6), .val (.int j10), .val (.int (1 : Int32)), .unset, .unset, .unset] [(.int (1 : Int32))])) _
    refine XS.goto X13.here hx rfl (pc0 := 45) (pc' := 49) rfl (hb hby at_45) (by decide) (by decide) ?_
    show Steps p.tables e below (T13.setTop (mkF m 49 #[.val (.int p0), .val (.ref b1), .val (.int j6), .val (.int j10), .val (.int (1 : Int32)), .unset, .unset, .unset] [(.int (1 : Int32))])) _
    refine XS.istore X13.here hx rfl (hb hby at_49) rfl (l' := #[.val (.int p0), .val (.ref b1), .val (.int j6), .val (.int j10), .val (.int (1 : Int32)), .val (.int (1 : Int32)), .unset, .unset]) rfl ?_
    show Steps p.tables e below (T13.setTop (mkF m 51 #[.val (.int p0), .val (.ref b1), .val (.int j6), .val (.int j10), .val (.int (1 : Int32)), .val (.int (1 : Int32)), .unset, .unset] [])) _
    refine XS.iconst X13.here hx rfl (hb hby at_51) ?_
    show Steps p.tables e below (T13.setTop (mkF m 52 #[.val (.int p0), .val (.ref b1), .val (.int j6), .val (.int j10), .val (.int (1 : Int32)), .val (.int (1 : Int32)), .unset, .unset] [(.int (1 : Int32))])) _
    refine XS.istore X13.here hx rfl (hb hby at_52) rfl (l' := #[.val (.int p0), .val (.ref b1), .val (.int j6), .val (.int j10), .val (.int (1 : Int32)), .val (.int (1 : Int32)), .val (.int (1 : Int32)), .unset]) rfl ?_
    show Steps p.tables e below (T13.setTop (mkF m 54 #[.val (.int p0), .val (.ref b1), .val (.int j6), .val (.int j10), .val (.int (1 : Int32)), .val (.int (1 : Int32)), .val (.int (1 : Int32)), .unset] [])) _
    refine XS.iloadN X13.here hx rfl (hb hby at_54) rfl ?_
    exact k)
  by_cases hc15 : j6 = (0 : Int32)
  · have pre16 : ∀ t, Steps p.tables e below (T13.setTop (mkF m 86 #[.val (.int p0), .val (.ref b1), .val (.int j6), .val (.int j10), .val (.int (1 : Int32)), .val (.int (1 : Int32)), .val (.int (1 : Int32)), .unset] [(.int j10)])) t → Steps p.tables e below (s₁.setTop (entryFrame m #[(.int p0)] maxLocals)) t := fun t k => pre14 t (by
      show Steps p.tables e below (T13.setTop (mkF m 55 #[.val (.int p0), .val (.ref b1), .val (.int j6), .val (.int j10), .val (.int (1 : Int32)), .val (.int (1 : Int32)), .val (.int (1 : Int32)), .unset] [(.int j6)])) _
      refine XS.ifYes X13.here hx rfl (pc0 := 55) (pc' := 85) rfl (hb hby at_55) rfl ((if0 _ _).trans (teq hc15).1) (by decide) (by decide) ?_
      show Steps p.tables e below (T13.setTop (mkF m 85 #[.val (.int p0), .val (.ref b1), .val (.int j6), .val (.int j10), .val (.int (1 : Int32)), .val (.int (1 : Int32)), .val (.int (1 : Int32)), .unset] [])) _
      refine XS.iloadN X13.here hx rfl (hb hby at_85) rfl ?_
      exact k)
    by_cases hc17 : j10 = (0 : Int32)
    · have pre18 : ∀ t, Steps p.tables e below (T13.setTop (mkF m 121 #[.val (.int p0), .val (.ref b1), .val (.int j6), .val (.int j10), .val (.int (1 : Int32)), .val (.int (1 : Int32)), .val (.int (1 : Int32)), .unset] [(.ref b1)])) t → Steps p.tables e below (s₁.setTop (entryFrame m #[(.int p0)] maxLocals)) t := fun t k => pre16 t (by
        show Steps p.tables e below (T13.setTop (mkF m 86 #[.val (.int p0), .val (.ref b1), .val (.int j6), .val (.int j10), .val (.int (1 : Int32)), .val (.int (1 : Int32)), .val (.int (1 : Int32)), .unset] [(.int j10)])) _
        refine XS.ifYes X13.here hx rfl (pc0 := 86) (pc' := 120) rfl (hb hby at_86) rfl ((if0 _ _).trans (teq hc17).1) (by decide) (by decide) ?_
        show Steps p.tables e below (T13.setTop (mkF m 120 #[.val (.int p0), .val (.ref b1), .val (.int j6), .val (.int j10), .val (.int (1 : Int32)), .val (.int (1 : Int32)), .val (.int (1 : Int32)), .unset] [])) _
        refine XS.aloadN X13.here hx rfl (hb hby at_120) rfl rfl ?_
        exact k)
      obtain ⟨cq19, kq19, q19a, q19b, q19c⟩ := isOf hZ rfl A1_13
      obtain ⟨_, _, ⟨T19, L19, k19, n19⟩, -, X19, ⟨Lc19, hQ19, l19, y19, z19⟩, st19⟩ := X13.virtualBack hx (y := (⟨"com/example/prune_to_fit/prunetofit/sat/Cnf", "variables", "()I"⟩ : MethodName)) (z := (⟨"com/example/prune_to_fit/prunetofit/sat/Cnf", "variables", "()I"⟩ : MethodName)) hown (mvT hZ (hw _ (List.mem_of_getElem? (i := 42) rfl))) (mvT hZ (hw _ (List.mem_of_getElem? (i := 43) rfl))) (notFace_of_selects (args := #[]) (mvT hZ (hw _ (List.mem_of_getElem? (i := 45) rfl)))) (mvT hZ (hw _ (List.mem_of_getElem? (i := 45) rfl))) (mvT hZ (hw _ (List.mem_of_getElem? (i := 44) rfl))) (by decide) (backOf (W := 0) (rm7 l Z aw hw [] b1 (1 : Int32) T13.heap n0 Z13 F13_a0_variables') hZ (hw _ (List.mem_of_getElem? (i := 46) rfl)) (hw _ (List.mem_of_getElem? (i := 2) rfl)) (by decide) (by decide)) q19a q19c (g := (mkF m 121 #[.val (.int p0), .val (.ref b1), .val (.int j6), .val (.int j10), .val (.int (1 : Int32)), .val (.int (1 : Int32)), .val (.int (1 : Int32)), .unset] [(.ref b1)])) rfl (by rw [hml]; rfl) (Steps.refl _) (argsL := []) (rest := []) (lenOf pd_1 rfl) rfl (by show 2 * 0 + _ ≤ _; exact Nat.le_of_eq rfl) (hb hby at_121) (fun _ _ => ⟨rfl, rfl, (by decide : 2 + 0 ≤ _), (by decide : 6 + 0 ≤ _)⟩)
      dsimp only [Pt.U, Pt.locs, Pt.cells, Pt.slots] at X19 l19 y19 z19 st19 hQ19
      subst l19 y19 z19
      obtain ⟨rfl, N19q, e19⟩ := hQ19
      have N19 := Fr.app N13 N19q
      have pre20 : ∀ t, Steps p.tables e below (T19.setTop (mkF m 151 #[.val (.int p0), .val (.ref b1), .val (.int j6), .val (.int j10), .val (.int (1 : Int32)), .val (.int (1 : Int32)), .val (.int (1 : Int32)), .val (.int (1 : Int32))] [(.ref b1)])) t → Steps p.tables e below (s₁.setTop (entryFrame m #[(.int p0)] maxLocals)) t := fun t k => pre18 t (by
        show Steps p.tables e below (T13.setTop (mkF m 121 #[.val (.int p0), .val (.ref b1), .val (.int j6), .val (.int j10), .val (.int (1 : Int32)), .val (.int (1 : Int32)), .val (.int (1 : Int32)), .unset] [(.ref b1)])) _
        refine st19.trans ?_
        show Steps p.tables e below (T19.setTop (mkF m 124 #[.val (.int p0), .val (.ref b1), .val (.int j6), .val (.int j10), .val (.int (1 : Int32)), .val (.int (1 : Int32)), .val (.int (1 : Int32)), .unset] [(.int (1 : Int32))])) _
        refine XS.istore X19.here hx rfl (hb hby at_124) rfl (l' := #[.val (.int p0), .val (.ref b1), .val (.int j6), .val (.int j10), .val (.int (1 : Int32)), .val (.int (1 : Int32)), .val (.int (1 : Int32)), .val (.int (1 : Int32))]) rfl ?_
        show Steps p.tables e below (T19.setTop (mkF m 126 #[.val (.int p0), .val (.ref b1), .val (.int j6), .val (.int j10), .val (.int (1 : Int32)), .val (.int (1 : Int32)), .val (.int (1 : Int32)), .val (.int (1 : Int32))] [])) _
        refine XS.iload X19.here hx rfl (hb hby at_126) rfl ?_
        show Steps p.tables e below (T19.setTop (mkF m 128 #[.val (.int p0), .val (.ref b1), .val (.int j6), .val (.int j10), .val (.int (1 : Int32)), .val (.int (1 : Int32)), .val (.int (1 : Int32)), .val (.int (1 : Int32))] [(.int (1 : Int32))])) _
        refine XS.ifNo X19.here hx rfl (hb hby at_128) rfl ((if0 _ _).trans (feq ((by decide) : ¬ ((1 : Int32) = (0 : Int32)))).1) ?_
        show Steps p.tables e below (T19.setTop (mkF m 131 #[.val (.int p0), .val (.ref b1), .val (.int j6), .val (.int j10), .val (.int (1 : Int32)), .val (.int (1 : Int32)), .val (.int (1 : Int32)), .val (.int (1 : Int32))] [])) _
        refine XS.iload X19.here hx rfl (hb hby at_131) rfl ?_
        show Steps p.tables e below (T19.setTop (mkF m 133 #[.val (.int p0), .val (.ref b1), .val (.int j6), .val (.int j10), .val (.int (1 : Int32)), .val (.int (1 : Int32)), .val (.int (1 : Int32)), .val (.int (1 : Int32))] [(.int (1 : Int32))])) _
        refine XS.iload X19.here hx rfl (hb hby at_133) rfl ?_
        show Steps p.tables e below (T19.setTop (mkF m 135 #[.val (.int p0), .val (.ref b1), .val (.int j6), .val (.int j10), .val (.int (1 : Int32)), .val (.int (1 : Int32)), .val (.int (1 : Int32)), .val (.int (1 : Int32))] [(.int (1 : Int32)), (.int (1 : Int32))])) _
        refine XS.icmpNo X19.here hx rfl (hb hby at_135) rfl (teq ((by decide) : (1 : Int32) = (1 : Int32))).2 ?_
        show Steps p.tables e below (T19.setTop (mkF m 138 #[.val (.int p0), .val (.ref b1), .val (.int j6), .val (.int j10), .val (.int (1 : Int32)), .val (.int (1 : Int32)), .val (.int (1 : Int32)), .val (.int (1 : Int32))] [])) _
        refine XS.iconst X19.here hx rfl (hb hby at_138) ?_
        show Steps p.tables e below (T19.setTop (mkF m 139 #[.val (.int p0), .val (.ref b1), .val (.int j6), .val (.int j10), .val (.int (1 : Int32)), .val (.int (1 : Int32)), .val (.int (1 : Int32)), .val (.int (1 : Int32))] [(.int (1 : Int32))])) _
        refine XS.goto X19.here hx rfl (pc0 := 139) (pc' := 143) rfl (hb hby at_139) (by decide) (by decide) ?_
        show Steps p.tables e below (T19.setTop (mkF m 143 #[.val (.int p0), .val (.ref b1), .val (.int j6), .val (.int j10), .val (.int (1 : Int32)), .val (.int (1 : Int32)), .val (.int (1 : Int32)), .val (.int (1 : Int32))] [(.int (1 : Int32))])) _
        refine XS.istore X19.here hx rfl (hb hby at_143) rfl (l' := #[.val (.int p0), .val (.ref b1), .val (.int j6), .val (.int j10), .val (.int (1 : Int32)), .val (.int (1 : Int32)), .val (.int (1 : Int32)), .val (.int (1 : Int32))]) rfl ?_
        show Steps p.tables e below (T19.setTop (mkF m 145 #[.val (.int p0), .val (.ref b1), .val (.int j6), .val (.int j10), .val (.int (1 : Int32)), .val (.int (1 : Int32)), .val (.int (1 : Int32)), .val (.int (1 : Int32))] [])) _
        refine XS.iload X19.here hx rfl (hb hby at_145) rfl ?_
        show Steps p.tables e below (T19.setTop (mkF m 147 #[.val (.int p0), .val (.ref b1), .val (.int j6), .val (.int j10), .val (.int (1 : Int32)), .val (.int (1 : Int32)), .val (.int (1 : Int32)), .val (.int (1 : Int32))] [(.int (1 : Int32))])) _
        refine XS.ifNo X19.here hx rfl (hb hby at_147) rfl ((if0 _ _).trans (feq ((by decide) : ¬ ((1 : Int32) = (0 : Int32)))).1) ?_
        show Steps p.tables e below (T19.setTop (mkF m 150 #[.val (.int p0), .val (.ref b1), .val (.int j6), .val (.int j10), .val (.int (1 : Int32)), .val (.int (1 : Int32)), .val (.int (1 : Int32)), .val (.int (1 : Int32))] [])) _
        refine XS.aloadN X19.here hx rfl (hb hby at_150) rfl rfl ?_
        exact k)
      obtain ⟨cq21, kq21, q21a, q21b, q21c⟩ := isOf hZ e19 A1_13
      obtain ⟨_, _, ⟨T21, L21, k21, n21⟩, -, X21, ⟨Lc21, hQ21, l21, y21, z21⟩, st21⟩ := X19.virtualBack hx (y := (⟨"com/example/prune_to_fit/prunetofit/sat/Cnf", "clauseCount", "()I"⟩ : MethodName)) (z := (⟨"com/example/prune_to_fit/prunetofit/sat/Cnf", "clauseCount", "()I"⟩ : MethodName)) hown (mvT hZ (hw _ (List.mem_of_getElem? (i := 47) rfl))) (mvT hZ (hw _ (List.mem_of_getElem? (i := 48) rfl))) (notFace_of_selects (args := #[]) (mvT hZ (hw _ (List.mem_of_getElem? (i := 50) rfl)))) (mvT hZ (hw _ (List.mem_of_getElem? (i := 50) rfl))) (mvT hZ (hw _ (List.mem_of_getElem? (i := 49) rfl))) (by decide) (backOf (W := 0) (rm8 l Z aw hw [] b1 b3 (0 : Int32) T13.heap n0 Z13 F13_a0_clauses' x3_3_13 x3_0_13) hZ (hw _ (List.mem_of_getElem? (i := 51) rfl)) (hw _ (List.mem_of_getElem? (i := 2) rfl)) (by decide) (by decide)) q21a q21c (g := (mkF m 151 #[.val (.int p0), .val (.ref b1), .val (.int j6), .val (.int j10), .val (.int (1 : Int32)), .val (.int (1 : Int32)), .val (.int (1 : Int32)), .val (.int (1 : Int32))] [(.ref b1)])) rfl (by rw [hml]; rfl) (Steps.refl _) (argsL := []) (rest := []) (lenOf pd_1 rfl) rfl (by show 2 * 0 + _ ≤ _; exact Nat.le_of_eq rfl) (hb hby at_151) (fun _ _ => ⟨rfl, e19, (by decide : 2 + 0 ≤ _), (by decide : 6 + 0 ≤ _)⟩)
      dsimp only [Pt.U, Pt.locs, Pt.cells, Pt.slots] at X21 l21 y21 z21 st21 hQ21
      subst l21 y21 z21
      obtain ⟨rfl, N21q, e21⟩ := hQ21
      have N21 := Fr.app N19 N21q
      have pre22 : ∀ t, Steps p.tables e below (T21.setTop (mkF m 154 #[.val (.int p0), .val (.ref b1), .val (.int j6), .val (.int j10), .val (.int (1 : Int32)), .val (.int (1 : Int32)), .val (.int (1 : Int32)), .val (.int (1 : Int32))] [(.int (f8 (0 : Int32)))])) t → Steps p.tables e below (s₁.setTop (entryFrame m #[(.int p0)] maxLocals)) t := fun t k => pre20 t (by
        show Steps p.tables e below (T19.setTop (mkF m 151 #[.val (.int p0), .val (.ref b1), .val (.int j6), .val (.int j10), .val (.int (1 : Int32)), .val (.int (1 : Int32)), .val (.int (1 : Int32)), .val (.int (1 : Int32))] [(.ref b1)])) _
        refine st21.trans ?_
        exact k)
      obtain ⟨T28, LjT28, j26, X28, N28, e28, hj26, pre27⟩ : ∃ (T28 : State) (LjT28 : List Loc) (j26 : Int32), Stand p l e room_1 s m #[(.int p0)] below meth c T28 LjT28 2 6 ∧ Fr n0 LjT28 ∧ T28.heap = T13.heap ∧ j26 = (if (f8 (0 : Int32)) = (0 : Int32) then (1 : Int32) else (0 : Int32)) ∧ ∀ t, Steps p.tables e below (T28.setTop (mkF m 169 #[.val (.int p0), .val (.ref b1), .val (.int j6), .val (.int j10), .val (.int (1 : Int32)), .val (.int (1 : Int32)), .val (.int (1 : Int32)), .val (.int (1 : Int32))] [(.int j26)])) t → Steps p.tables e below (s₁.setTop (entryFrame m #[(.int p0)] maxLocals)) t := by
        by_cases hc23 : (f8 (0 : Int32)) = (0 : Int32)
        · have pre24 : ∀ t, Steps p.tables e below (T21.setTop (mkF m 158 #[.val (.int p0), .val (.ref b1), .val (.int j6), .val (.int j10), .val (.int (1 : Int32)), .val (.int (1 : Int32)), .val (.int (1 : Int32)), .val (.int (1 : Int32))] [(.ref b1)])) t → Steps p.tables e below (s₁.setTop (entryFrame m #[(.int p0)] maxLocals)) t := fun t k => pre22 t (by
            show Steps p.tables e below (T21.setTop (mkF m 154 #[.val (.int p0), .val (.ref b1), .val (.int j6), .val (.int j10), .val (.int (1 : Int32)), .val (.int (1 : Int32)), .val (.int (1 : Int32)), .val (.int (1 : Int32))] [(.int (f8 (0 : Int32)))])) _
            refine XS.ifNo X21.here hx rfl (hb hby at_154) rfl ((if0 _ _).trans (teq hc23).2) ?_
            show Steps p.tables e below (T21.setTop (mkF m 157 #[.val (.int p0), .val (.ref b1), .val (.int j6), .val (.int j10), .val (.int (1 : Int32)), .val (.int (1 : Int32)), .val (.int (1 : Int32)), .val (.int (1 : Int32))] [])) _
            refine XS.aloadN X21.here hx rfl (hb hby at_157) rfl rfl ?_
            exact k)
          obtain ⟨cq25, kq25, q25a, q25b, q25c⟩ := isOf hZ e21 A1_13
          obtain ⟨_, _, ⟨T25, L25, k25, n25⟩, -, X25, ⟨Lc25, hQ25, l25, y25, z25⟩, st25⟩ := X21.virtualBack hx (y := (⟨"com/example/prune_to_fit/prunetofit/sat/Cnf", "literalCount", "()I"⟩ : MethodName)) (z := (⟨"com/example/prune_to_fit/prunetofit/sat/Cnf", "literalCount", "()I"⟩ : MethodName)) hown (mvT hZ (hw _ (List.mem_of_getElem? (i := 63) rfl))) (mvT hZ (hw _ (List.mem_of_getElem? (i := 64) rfl))) (notFace_of_selects (args := #[]) (mvT hZ (hw _ (List.mem_of_getElem? (i := 66) rfl)))) (mvT hZ (hw _ (List.mem_of_getElem? (i := 66) rfl))) (mvT hZ (hw _ (List.mem_of_getElem? (i := 65) rfl))) (by decide) (backOf (W := 0) (rm10 l Z aw hw [] b1 (0 : Int32) T13.heap n0 Z13 F13_a0_literals') hZ (hw _ (List.mem_of_getElem? (i := 67) rfl)) (hw _ (List.mem_of_getElem? (i := 2) rfl)) (by decide) (by decide)) q25a q25c (g := (mkF m 158 #[.val (.int p0), .val (.ref b1), .val (.int j6), .val (.int j10), .val (.int (1 : Int32)), .val (.int (1 : Int32)), .val (.int (1 : Int32)), .val (.int (1 : Int32))] [(.ref b1)])) rfl (by rw [hml]; rfl) (Steps.refl _) (argsL := []) (rest := []) (lenOf pd_1 rfl) rfl (by show 2 * 0 + _ ≤ _; exact Nat.le_of_eq rfl) (hb hby at_158) (fun _ _ => ⟨rfl, e21, (by decide : 2 + 0 ≤ _), (by decide : 6 + 0 ≤ _)⟩)
          dsimp only [Pt.U, Pt.locs, Pt.cells, Pt.slots] at X25 l25 y25 z25 st25 hQ25
          subst l25 y25 z25
          obtain ⟨rfl, N25q, e25⟩ := hQ25
          have N25 := Fr.app N21 N25q
          exact ⟨_, _, (1 : Int32), X25, N25, e25, (by rw [if_pos hc23]), fun t k => pre24 t (by
            show Steps p.tables e below (T21.setTop (mkF m 158 #[.val (.int p0), .val (.ref b1), .val (.int j6), .val (.int j10), .val (.int (1 : Int32)), .val (.int (1 : Int32)), .val (.int (1 : Int32)), .val (.int (1 : Int32))] [(.ref b1)])) _
            refine st25.trans ?_
            show Steps p.tables e below (T25.setTop (mkF m 161 #[.val (.int p0), .val (.ref b1), .val (.int j6), .val (.int j10), .val (.int (1 : Int32)), .val (.int (1 : Int32)), .val (.int (1 : Int32)), .val (.int (1 : Int32))] [(.int (0 : Int32))])) _
            refine XS.ifNo X25.here hx rfl (hb hby at_161) rfl ((if0 _ _).trans (teq ((by decide) : (0 : Int32) = (0 : Int32))).2) ?_
            show Steps p.tables e below (T25.setTop (mkF m 164 #[.val (.int p0), .val (.ref b1), .val (.int j6), .val (.int j10), .val (.int (1 : Int32)), .val (.int (1 : Int32)), .val (.int (1 : Int32)), .val (.int (1 : Int32))] [])) _
            refine XS.iconst X25.here hx rfl (hb hby at_164) ?_
            show Steps p.tables e below (T25.setTop (mkF m 165 #[.val (.int p0), .val (.ref b1), .val (.int j6), .val (.int j10), .val (.int (1 : Int32)), .val (.int (1 : Int32)), .val (.int (1 : Int32)), .val (.int (1 : Int32))] [(.int (1 : Int32))])) _
            refine XS.goto X25.here hx rfl (pc0 := 165) (pc' := 169) rfl (hb hby at_165) (by decide) (by decide) ?_
            exact k)⟩
        · exact ⟨_, _, (0 : Int32), X21, N21, e21, (by rw [if_neg hc23]), fun t k => pre22 t (by
            show Steps p.tables e below (T21.setTop (mkF m 154 #[.val (.int p0), .val (.ref b1), .val (.int j6), .val (.int j10), .val (.int (1 : Int32)), .val (.int (1 : Int32)), .val (.int (1 : Int32)), .val (.int (1 : Int32))] [(.int (f8 (0 : Int32)))])) _
            refine XS.ifYes X21.here hx rfl (pc0 := 154) (pc' := 168) rfl (hb hby at_154) rfl ((if0 _ _).trans (feq hc23).2) (by decide) (by decide) ?_
            show Steps p.tables e below (T21.setTop (mkF m 168 #[.val (.int p0), .val (.ref b1), .val (.int j6), .val (.int j10), .val (.int (1 : Int32)), .val (.int (1 : Int32)), .val (.int (1 : Int32)), .val (.int (1 : Int32))] [])) _
            refine XS.iconst X21.here hx rfl (hb hby at_168) ?_
            exact k)⟩
      have pre29 : ∀ t, Steps p.tables e below (T28.setTop (mkF m 173 #[.val (.int p0), .val (.ref b1), .val (.int j6), .val (.int j10), .val (.int (1 : Int32)), .val (.int j26), .val (.int (1 : Int32)), .val (.int (1 : Int32))] [(.int j26)])) t → Steps p.tables e below (s₁.setTop (entryFrame m #[(.int p0)] maxLocals)) t := fun t k => pre27 t (by
        show Steps p.tables e below (T28.setTop (mkF m 169 #[.val (.int p0), .val (.ref b1), .val (.int j6), .val (.int j10), .val (.int (1 : Int32)), .val (.int (1 : Int32)), .val (.int (1 : Int32)), .val (.int (1 : Int32))] [(.int j26)])) _
        refine XS.istore X28.here hx rfl (hb hby at_169) rfl (l' := #[.val (.int p0), .val (.ref b1), .val (.int j6), .val (.int j10), .val (.int (1 : Int32)), .val (.int j26), .val (.int (1 : Int32)), .val (.int (1 : Int32))]) rfl ?_
        show Steps p.tables e below (T28.setTop (mkF m 171 #[.val (.int p0), .val (.ref b1), .val (.int j6), .val (.int j10), .val (.int (1 : Int32)), .val (.int j26), .val (.int (1 : Int32)), .val (.int (1 : Int32))] [])) _
        refine XS.iload X28.here hx rfl (hb hby at_171) rfl ?_
        exact k)
      by_cases hc30 : j26 = (0 : Int32)
      · obtain ⟨fs, hr, hrun, hended, hW, hsame⟩ := X28.leave (v := some (.int (0 : Int32))) (fun h => by rw [Bd.returns] at h; cases h)
        refine ⟨_, _, pre29 _ ?_, hrun, hended, _, _, rfl, ?_, ⟨_, rfl⟩, hW, hsame.mono (by decide) (by decide)⟩
        · show Steps p.tables e below (T28.setTop (mkF m 173 #[.val (.int p0), .val (.ref b1), .val (.int j6), .val (.int j10), .val (.int (1 : Int32)), .val (.int j26), .val (.int (1 : Int32)), .val (.int (1 : Int32))] [(.int j26)])) _
          refine XS.ifNo X28.here hx rfl (hb hby at_173) rfl ((if0 _ _).trans (teq hc30).2) ?_
          show Steps p.tables e below (T28.setTop (mkF m 176 #[.val (.int p0), .val (.ref b1), .val (.int j6), .val (.int j10), .val (.int (1 : Int32)), .val (.int j26), .val (.int (1 : Int32)), .val (.int (1 : Int32))] [])) _
          refine XS.iconst X28.here hx rfl (hb hby at_176) ?_
          show Steps p.tables e below (T28.setTop (mkF m 177 #[.val (.int p0), .val (.ref b1), .val (.int j6), .val (.int j10), .val (.int (1 : Int32)), .val (.int j26), .val (.int (1 : Int32)), .val (.int (1 : Int32))] [(.int (0 : Int32))])) _
          exact retN X28 hx (t := .boolean) Bd.returns (by simp) (hb hby at_177) hr
        · show Q0 Z p0 w_DEFAULTCAPACITY_EMPTY_ELEMENTDATA ka_D h0 n0 _ T28.heap _
          rw [e28]
          have hv : (0 : Int32) = f0 p0 := (by subst hj26 hj10 hj6; simp only [f0, if_pos hc15, if_pos hc17, if_pos hc30])
          exact ⟨congrArg (fun z => some (Value.int z)) (hv.trans hlaw), N28⟩
      · have pre31 : ∀ t, Steps p.tables e below (T28.setTop (mkF m 180 #[.val (.int p0), .val (.ref b1), .val (.int j6), .val (.int j10), .val (.int (1 : Int32)), .val (.int j26), .val (.int (1 : Int32)), .val (.int (1 : Int32))] [(.int (2 : Int32)), (.ref b1)])) t → Steps p.tables e below (s₁.setTop (entryFrame m #[(.int p0)] maxLocals)) t := fun t k => pre29 t (by
          show Steps p.tables e below (T28.setTop (mkF m 173 #[.val (.int p0), .val (.ref b1), .val (.int j6), .val (.int j10), .val (.int (1 : Int32)), .val (.int j26), .val (.int (1 : Int32)), .val (.int (1 : Int32))] [(.int j26)])) _
          refine XS.ifYes X28.here hx rfl (pc0 := 173) (pc' := 178) rfl (hb hby at_173) rfl ((if0 _ _).trans (feq hc30).2) (by decide) (by decide) ?_
          show Steps p.tables e below (T28.setTop (mkF m 178 #[.val (.int p0), .val (.ref b1), .val (.int j6), .val (.int j10), .val (.int (1 : Int32)), .val (.int j26), .val (.int (1 : Int32)), .val (.int (1 : Int32))] [])) _
          refine XS.aloadN X28.here hx rfl (hb hby at_178) rfl rfl ?_
          show Steps p.tables e below (T28.setTop (mkF m 179 #[.val (.int p0), .val (.ref b1), .val (.int j6), .val (.int j10), .val (.int (1 : Int32)), .val (.int j26), .val (.int (1 : Int32)), .val (.int (1 : Int32))] [(.ref b1)])) _
          refine XS.iconst X28.here hx rfl (hb hby at_179) ?_
          exact k)
        obtain ⟨T32, h32, k32, X32, e32, E32, A32, Y32, st32⟩ := newPE X28 hx hZ (hw _ (List.mem_of_getElem? (i := 70) rfl)) e28 (g := (mkF m 180 #[.val (.int p0), .val (.ref b1), .val (.int j6), .val (.int j10), .val (.int (1 : Int32)), .val (.int j26), .val (.int (1 : Int32)), .val (.int (1 : Int32))] [(.int (2 : Int32)), (.ref b1)])) rfl (hb hby at_180) rfl (by decide) (cap := 2) (by decide) (by decide) (by decide) (by decide) (ad := "[I") (by decide)
        obtain ⟨b32, g32⟩ : ∃ z, z = T13.heap.size := ⟨_, rfl⟩
        have ne_b1_b32 : b1 ≠ b32 := Nat.ne_of_lt (Nat.lt_of_lt_of_le A1_13.lt (Nat.le_of_eq g32.symm))
        have ne_b3_b32 : b3 ≠ b32 := Nat.ne_of_lt (Nat.lt_of_lt_of_le x3_0_13.lt (Nat.le_of_eq g32.symm))
        have ne_w_DEFAULTCAPACITY_EMPTY_ELEMENTDATA_b32 : w_DEFAULTCAPACITY_EMPTY_ELEMENTDATA ≠ b32 := Nat.ne_of_lt (Nat.lt_of_lt_of_le V_w_DEFAULTCAPACITY_EMPTY_ELEMENTDATA_13.lt (Nat.le_of_eq g32.symm))
        have g_b32 : n0 ≤ b32 := Nat.le_trans Z13 (Nat.le_of_eq g32.symm)
        have sz_b32 : h0.size ≤ b32 := Nat.le_trans K13.1 (Nat.le_of_eq g32.symm)
        rw [← g32] at A32 st32 Y32
        have S_DEFAULTCAPACITY_EMPTY_ELEMENTDATA_32 := S_DEFAULTCAPACITY_EMPTY_ELEMENTDATA_13.ext E32
        have V_w_DEFAULTCAPACITY_EMPTY_ELEMENTDATA_32 := V_w_DEFAULTCAPACITY_EMPTY_ELEMENTDATA_13.ext E32
        have A1_32 := A1_13.ext E32
        have F13_a0_clauses'_32 := F13_a0_clauses'.ext E32
        have F13_a0_variables'_32 := F13_a0_variables'.ext E32
        have F13_a0_literals'_32 := F13_a0_literals'.ext E32
        have x3_0_32 := x3_0_13.ext E32
        have x3_1_32 := x3_1_13.ext E32
        have x3_2_32 := x3_2_13.ext E32
        have x3_3_32 := x3_3_13.ext E32
        have K32 : Keep h0 h32 [] := K13.ext E32
        have Z32 : n0 ≤ h32.size := Nat.le_trans Z13 E32.1
        have V_b32 : Arv Z h32 b32 k32 .int (2 : Int32) [(.int (0 : Int32)), (.int (0 : Int32))] (.int (0 : Int32)) := (Arv.new A32 (by decide)).pad (pad_rep [] (.int (0 : Int32)) 2)
        have pre33 : ∀ t, Steps p.tables e below (T32.setTop (mkF m 186 #[.val (.int p0), .val (.ref b1), .val (.int j6), .val (.int j10), .val (.int (1 : Int32)), .val (.int j26), .val (.int (1 : Int32)), .val (.int (1 : Int32))] [(.int (1 : Int32)), (.int (0 : Int32)), (.ref b32), (.ref b32), (.ref b1)])) t → Steps p.tables e below (s₁.setTop (entryFrame m #[(.int p0)] maxLocals)) t := fun t k => pre31 t (by
          show Steps p.tables e below (T28.setTop (mkF m 180 #[.val (.int p0), .val (.ref b1), .val (.int j6), .val (.int j10), .val (.int (1 : Int32)), .val (.int j26), .val (.int (1 : Int32)), .val (.int (1 : Int32))] [(.int (2 : Int32)), (.ref b1)])) _
          refine st32 _ ?_
          show Steps p.tables e below (T32.setTop (mkF m 182 #[.val (.int p0), .val (.ref b1), .val (.int j6), .val (.int j10), .val (.int (1 : Int32)), .val (.int j26), .val (.int (1 : Int32)), .val (.int (1 : Int32))] [(.ref b32), (.ref b1)])) _
          refine XS.dup X32.here hx rfl (hb hby at_182) rfl rfl ?_
          show Steps p.tables e below (T32.setTop (mkF m 183 #[.val (.int p0), .val (.ref b1), .val (.int j6), .val (.int j10), .val (.int (1 : Int32)), .val (.int j26), .val (.int (1 : Int32)), .val (.int (1 : Int32))] [(.ref b32), (.ref b32), (.ref b1)])) _
          refine XS.iconst X32.here hx rfl (hb hby at_183) ?_
          show Steps p.tables e below (T32.setTop (mkF m 184 #[.val (.int p0), .val (.ref b1), .val (.int j6), .val (.int j10), .val (.int (1 : Int32)), .val (.int j26), .val (.int (1 : Int32)), .val (.int (1 : Int32))] [(.int (0 : Int32)), (.ref b32), (.ref b32), (.ref b1)])) _
          refine XS.iload X32.here hx rfl (hb hby at_184) rfl ?_
          exact k)
        obtain ⟨cl34, Ar34, q34, S34, M34, H34, G34⟩ := id V_b32
        have hin34 : ¬ ((0 : Int32) < 0 ∨ cl34.slots.size ≤ ((0 : Int32)).toNatClampNeg) := inb_of S34 ⟨by decide, by decide⟩
        obtain ⟨T34, h34, X34, e34, W34, st34⟩ := stI X32 hx hZ e32 Ar34 (j := (0 : Int32)) hin34 (g := (mkF m 186 #[.val (.int p0), .val (.ref b1), .val (.int j6), .val (.int j10), .val (.int (1 : Int32)), .val (.int j26), .val (.int (1 : Int32)), .val (.int (1 : Int32))] [(.int (1 : Int32)), (.int (0 : Int32)), (.ref b32), (.ref b32), (.ref b1)])) rfl rfl (hb hby at_186)
        have V_b32_34 : Arv Z h34 b32 k32 .int (2 : Int32) [(.int (1 : Int32)), (.int (0 : Int32))] (.int (0 : Int32)) := Arv.set Ar34 q34 S34 M34 H34 G34 rfl W34 0 rfl (Nat.le_of_ble_eq_true rfl)
        have S_DEFAULTCAPACITY_EMPTY_ELEMENTDATA_34 := S_DEFAULTCAPACITY_EMPTY_ELEMENTDATA_32.wr W34
        have V_w_DEFAULTCAPACITY_EMPTY_ELEMENTDATA_34 := V_w_DEFAULTCAPACITY_EMPTY_ELEMENTDATA_32.other W34 ne_w_DEFAULTCAPACITY_EMPTY_ELEMENTDATA_b32
        have A1_34 := A1_32.wr W34
        have F13_a0_clauses'_34 := F13_a0_clauses'_32.other W34 (Or.inl ne_b1_b32)
        have F13_a0_variables'_34 := F13_a0_variables'_32.other W34 (Or.inl ne_b1_b32)
        have F13_a0_literals'_34 := F13_a0_literals'_32.other W34 (Or.inl ne_b1_b32)
        have x3_0_34 := x3_0_32.wr W34
        have x3_1_34 := x3_1_32.other W34 (Or.inl ne_b3_b32)
        have x3_2_34 := x3_2_32.other W34 (Or.inl ne_b3_b32)
        have x3_3_34 := x3_3_32.other W34 (Or.inl ne_b3_b32)
        have Y32_34 := Y32.wr W34
        have K34 : Keep h0 h34 [] := K32.wr W34 (Or.inr sz_b32)
        have N34 := Fr.snoc X34 N28 g_b32
        have Z34 : n0 ≤ h34.size := Nat.le_trans Z32 (Nat.le_of_eq W34.size.symm)
        have pre35 : ∀ t, Steps p.tables e below (T34.setTop (mkF m 192 #[.val (.int p0), .val (.ref b1), .val (.int j6), .val (.int j10), .val (.int (1 : Int32)), .val (.int j26), .val (.int (1 : Int32)), .val (.int (1 : Int32))] [(.int (-1 : Int32)), (.int (1 : Int32)), (.ref b32), (.ref b32), (.ref b1)])) t → Steps p.tables e below (s₁.setTop (entryFrame m #[(.int p0)] maxLocals)) t := fun t k => pre33 t (by
          show Steps p.tables e below (T32.setTop (mkF m 186 #[.val (.int p0), .val (.ref b1), .val (.int j6), .val (.int j10), .val (.int (1 : Int32)), .val (.int j26), .val (.int (1 : Int32)), .val (.int (1 : Int32))] [(.int (1 : Int32)), (.int (0 : Int32)), (.ref b32), (.ref b32), (.ref b1)])) _
          refine st34 _ ?_
          show Steps p.tables e below (T34.setTop (mkF m 187 #[.val (.int p0), .val (.ref b1), .val (.int j6), .val (.int j10), .val (.int (1 : Int32)), .val (.int j26), .val (.int (1 : Int32)), .val (.int (1 : Int32))] [(.ref b32), (.ref b1)])) _
          refine XS.dup X34.here hx rfl (hb hby at_187) rfl rfl ?_
          show Steps p.tables e below (T34.setTop (mkF m 188 #[.val (.int p0), .val (.ref b1), .val (.int j6), .val (.int j10), .val (.int (1 : Int32)), .val (.int j26), .val (.int (1 : Int32)), .val (.int (1 : Int32))] [(.ref b32), (.ref b32), (.ref b1)])) _
          refine XS.iconst X34.here hx rfl (hb hby at_188) ?_
          show Steps p.tables e below (T34.setTop (mkF m 189 #[.val (.int p0), .val (.ref b1), .val (.int j6), .val (.int j10), .val (.int (1 : Int32)), .val (.int j26), .val (.int (1 : Int32)), .val (.int (1 : Int32))] [(.int (1 : Int32)), (.ref b32), (.ref b32), (.ref b1)])) _
          refine XS.iload X34.here hx rfl (hb hby at_189) rfl ?_
          show Steps p.tables e below (T34.setTop (mkF m 191 #[.val (.int p0), .val (.ref b1), .val (.int j6), .val (.int j10), .val (.int (1 : Int32)), .val (.int j26), .val (.int (1 : Int32)), .val (.int (1 : Int32))] [(.int (1 : Int32)), (.int (1 : Int32)), (.ref b32), (.ref b32), (.ref b1)])) _
          refine XS.ineg X34.here hx rfl (hb hby at_191) rfl ?_
          exact k)
        obtain ⟨cl36, Ar36, q36, S36, M36, H36, G36⟩ := id V_b32_34
        have hin36 : ¬ ((1 : Int32) < 0 ∨ cl36.slots.size ≤ ((1 : Int32)).toNatClampNeg) := inb_of S36 ⟨by decide, by decide⟩
        obtain ⟨T36, h36, X36, e36, W36, st36⟩ := stI X34 hx hZ e34 Ar36 (j := (1 : Int32)) hin36 (g := (mkF m 192 #[.val (.int p0), .val (.ref b1), .val (.int j6), .val (.int j10), .val (.int (1 : Int32)), .val (.int j26), .val (.int (1 : Int32)), .val (.int (1 : Int32))] [(.int (-1 : Int32)), (.int (1 : Int32)), (.ref b32), (.ref b32), (.ref b1)])) rfl rfl (hb hby at_192)
        have V_b32_36 : Arv Z h36 b32 k32 .int (2 : Int32) [(.int (1 : Int32)), (.int (-1 : Int32))] (.int (0 : Int32)) := Arv.set Ar36 q36 S36 M36 H36 G36 rfl W36 1 rfl (Nat.le_of_ble_eq_true rfl)
        have S_DEFAULTCAPACITY_EMPTY_ELEMENTDATA_36 := S_DEFAULTCAPACITY_EMPTY_ELEMENTDATA_34.wr W36
        have V_w_DEFAULTCAPACITY_EMPTY_ELEMENTDATA_36 := V_w_DEFAULTCAPACITY_EMPTY_ELEMENTDATA_34.other W36 ne_w_DEFAULTCAPACITY_EMPTY_ELEMENTDATA_b32
        have A1_36 := A1_34.wr W36
        have F13_a0_clauses'_36 := F13_a0_clauses'_34.other W36 (Or.inl ne_b1_b32)
        have F13_a0_variables'_36 := F13_a0_variables'_34.other W36 (Or.inl ne_b1_b32)
        have F13_a0_literals'_36 := F13_a0_literals'_34.other W36 (Or.inl ne_b1_b32)
        have x3_0_36 := x3_0_34.wr W36
        have x3_1_36 := x3_1_34.other W36 (Or.inl ne_b3_b32)
        have x3_2_36 := x3_2_34.other W36 (Or.inl ne_b3_b32)
        have x3_3_36 := x3_3_34.other W36 (Or.inl ne_b3_b32)
        have Y32_36 := Y32_34.wr W36
        have K36 : Keep h0 h36 [] := K34.wr W36 (Or.inr sz_b32)
        have N36 := Fr.snoc X36 N34 g_b32
        have Z36 : n0 ≤ h36.size := Nat.le_trans Z34 (Nat.le_of_eq W36.size.symm)
        have pre37 : ∀ t, Steps p.tables e below (T36.setTop (mkF m 193 #[.val (.int p0), .val (.ref b1), .val (.int j6), .val (.int j10), .val (.int (1 : Int32)), .val (.int j26), .val (.int (1 : Int32)), .val (.int (1 : Int32))] [(.ref b32), (.ref b1)])) t → Steps p.tables e below (s₁.setTop (entryFrame m #[(.int p0)] maxLocals)) t := fun t k => pre35 t (by
          show Steps p.tables e below (T34.setTop (mkF m 192 #[.val (.int p0), .val (.ref b1), .val (.int j6), .val (.int j10), .val (.int (1 : Int32)), .val (.int j26), .val (.int (1 : Int32)), .val (.int (1 : Int32))] [(.int (-1 : Int32)), (.int (1 : Int32)), (.ref b32), (.ref b32), (.ref b1)])) _
          refine st36 _ ?_
          exact k)
        obtain ⟨cq38, kq38, q38a, q38b, q38c⟩ := isOf hZ e36 A1_36
        obtain ⟨_, _, ⟨T38, L38, k38, n38⟩, -, X38, ⟨Lc38, hQ38, l38, y38, z38⟩, st38⟩ := X36.virtualBack hx (y := (⟨"com/example/prune_to_fit/prunetofit/sat/Cnf", "add", "([I)V"⟩ : MethodName)) (z := (⟨"com/example/prune_to_fit/prunetofit/sat/Cnf", "add", "([I)V"⟩ : MethodName)) hown (mvT hZ (hw _ (List.mem_of_getElem? (i := 71) rfl))) (mvT hZ (hw _ (List.mem_of_getElem? (i := 72) rfl))) (notFace_of_selects (args := #[]) (mvT hZ (hw _ (List.mem_of_getElem? (i := 74) rfl)))) (mvT hZ (hw _ (List.mem_of_getElem? (i := 74) rfl))) (mvT hZ (hw _ (List.mem_of_getElem? (i := 73) rfl))) (by decide) (backOf (W := 0) (rm11 l Z aw hw [] b1 b32 (1 : Int32) k32 (0 : Int32) b3 w_DEFAULTCAPACITY_EMPTY_ELEMENTDATA ka_D (0 : Int32) h36 n0 Z36 (by decide) F13_a0_variables'_36 V_b32_36 A1_36 F13_a0_literals'_36 F13_a0_clauses'_36 S_DEFAULTCAPACITY_EMPTY_ELEMENTDATA_36 V_w_DEFAULTCAPACITY_EMPTY_ELEMENTDATA_36 x3_0_36 x3_2_36 x3_3_36 x3_1_36 g_b3 ne_w_DEFAULTCAPACITY_EMPTY_ELEMENTDATA_b3 ne_b1_b3 (Ne.symm ne_b3_b32) g_b1 (Ne.symm ne_b1_b32) ne_w_DEFAULTCAPACITY_EMPTY_ELEMENTDATA_b1) hZ (hw _ (List.mem_of_getElem? (i := 75) rfl)) (hw _ (List.mem_of_getElem? (i := 2) rfl)) (by decide) (by decide)) q38a q38c (g := (mkF m 193 #[.val (.int p0), .val (.ref b1), .val (.int j6), .val (.int j10), .val (.int (1 : Int32)), .val (.int j26), .val (.int (1 : Int32)), .val (.int (1 : Int32))] [(.ref b32), (.ref b1)])) rfl (by rw [hml]; rfl) (Steps.refl _) (argsL := [(.ref b32)]) (rest := []) (lenOf pd_2 rfl) rfl (by show 2 * 0 + _ ≤ _; exact Nat.le_of_eq rfl) (hb hby at_193) (fun _ _ => ⟨rfl, e36, (by decide : 3 + 3 ≤ _), (by decide : 8 + 14 ≤ _)⟩)
        dsimp only [Pt.U, Pt.locs, Pt.cells, Pt.slots] at X38 l38 y38 z38 st38 hQ38
        subst l38 y38 z38
        obtain ⟨rfl, N38q, K38q, E38_w_clauses_a0, E38_a0, F38_w_clauses_a0_size, F38_a0_variables, F38_a0_literals, F38_a0_clauses⟩ := hQ38
        have N38 := Fr.app N36 N38q
        have S_DEFAULTCAPACITY_EMPTY_ELEMENTDATA_38 := own_sta_keep S_DEFAULTCAPACITY_EMPTY_ELEMENTDATA_36 K38q (allS (own_exa_plain x3_0_36) (allS (own_exa_plain A1_36) all0))
        have V_w_DEFAULTCAPACITY_EMPTY_ELEMENTDATA_38 := V_w_DEFAULTCAPACITY_EMPTY_ELEMENTDATA_36.keep K38q (ninS ne_w_DEFAULTCAPACITY_EMPTY_ELEMENTDATA_b3 (ninS ne_w_DEFAULTCAPACITY_EMPTY_ELEMENTDATA_b1 nin0))
        have A1_38 := A1_36.keep K38q
        have x3_0_38 := x3_0_36.keep K38q
        have Y32_38 := Y32_36.keep K38q
        have V_b32_36_38 := V_b32_36.keep K38q (ninS (Ne.symm ne_b3_b32) (ninS (Ne.symm ne_b1_b32) nin0))
        have F38_w_clauses_a0_size' : Fld Z T38.heap b3 "java/util/ArrayList" "size" "I" (.int (1 : Int32)) := F38_w_clauses_a0_size
        have F38_a0_variables' : Fld Z T38.heap b1 "com/example/prune_to_fit/prunetofit/sat/Cnf" "variables" "I" (.int (1 : Int32)) := F38_a0_variables
        have F38_a0_literals' : Fld Z T38.heap b1 "com/example/prune_to_fit/prunetofit/sat/Cnf" "literals" "I" (.int (2 : Int32)) := F38_a0_literals
        have F38_a0_clauses' : Fld Z T38.heap b1 "com/example/prune_to_fit/prunetofit/sat/Cnf" "clauses" "Ljava/util/List;" (.ref b3) := F38_a0_clauses
        have K38 : Keep h0 T38.heap [] := K36.trans K38q (allS (Or.inr sz_b3) (allS (Or.inr sz_b1) all0))
        have Z38 : n0 ≤ T38.heap.size := Nat.le_trans Z36 K38q.1
        have pre39 : ∀ t, Steps p.tables e below (T38.setTop (mkF m 197 #[.val (.int p0), .val (.ref b1), .val (.int j6), .val (.int j10), .val (.int (1 : Int32)), .val (.int j26), .val (.int (1 : Int32)), .val (.int (1 : Int32))] [(.ref b1)])) t → Steps p.tables e below (s₁.setTop (entryFrame m #[(.int p0)] maxLocals)) t := fun t k => pre37 t (by
          show Steps p.tables e below (T36.setTop (mkF m 193 #[.val (.int p0), .val (.ref b1), .val (.int j6), .val (.int j10), .val (.int (1 : Int32)), .val (.int j26), .val (.int (1 : Int32)), .val (.int (1 : Int32))] [(.ref b32), (.ref b1)])) _
          refine st38.trans ?_
          show Steps p.tables e below (T38.setTop (mkF m 196 #[.val (.int p0), .val (.ref b1), .val (.int j6), .val (.int j10), .val (.int (1 : Int32)), .val (.int j26), .val (.int (1 : Int32)), .val (.int (1 : Int32))] [])) _
          refine XS.aloadN X38.here hx rfl (hb hby at_196) rfl rfl ?_
          exact k)
        obtain ⟨cq40, kq40, q40a, q40b, q40c⟩ := isOf hZ rfl A1_38
        obtain ⟨_, _, ⟨T40, L40, k40, n40⟩, -, X40, ⟨Lc40, hQ40, l40, y40, z40⟩, st40⟩ := X38.virtualBack hx (y := (⟨"com/example/prune_to_fit/prunetofit/sat/Cnf", "clauseCount", "()I"⟩ : MethodName)) (z := (⟨"com/example/prune_to_fit/prunetofit/sat/Cnf", "clauseCount", "()I"⟩ : MethodName)) hown (mvT hZ (hw _ (List.mem_of_getElem? (i := 47) rfl))) (mvT hZ (hw _ (List.mem_of_getElem? (i := 48) rfl))) (notFace_of_selects (args := #[]) (mvT hZ (hw _ (List.mem_of_getElem? (i := 50) rfl)))) (mvT hZ (hw _ (List.mem_of_getElem? (i := 50) rfl))) (mvT hZ (hw _ (List.mem_of_getElem? (i := 49) rfl))) (by decide) (backOf (W := 0) (rm8 l Z aw hw [] b1 b3 (1 : Int32) T38.heap n0 Z38 F38_a0_clauses' F38_w_clauses_a0_size' x3_0_38) hZ (hw _ (List.mem_of_getElem? (i := 51) rfl)) (hw _ (List.mem_of_getElem? (i := 2) rfl)) (by decide) (by decide)) q40a q40c (g := (mkF m 197 #[.val (.int p0), .val (.ref b1), .val (.int j6), .val (.int j10), .val (.int (1 : Int32)), .val (.int j26), .val (.int (1 : Int32)), .val (.int (1 : Int32))] [(.ref b1)])) rfl (by rw [hml]; rfl) (Steps.refl _) (argsL := []) (rest := []) (lenOf pd_1 rfl) rfl (by show 2 * 0 + _ ≤ _; exact Nat.le_of_eq rfl) (hb hby at_197) (fun _ _ => ⟨rfl, rfl, (by decide : 6 + 0 ≤ _), (by decide : 22 + 0 ≤ _)⟩)
        dsimp only [Pt.U, Pt.locs, Pt.cells, Pt.slots] at X40 l40 y40 z40 st40 hQ40
        subst l40 y40 z40
        obtain ⟨rfl, N40q, e40⟩ := hQ40
        have N40 := Fr.app N38 N40q
        have pre41 : ∀ t, Steps p.tables e below (T40.setTop (mkF m 201 #[.val (.int p0), .val (.ref b1), .val (.int j6), .val (.int j10), .val (.int (1 : Int32)), .val (.int j26), .val (.int (1 : Int32)), .val (.int (1 : Int32))] [(.int (1 : Int32)), (.int (f8 (1 : Int32)))])) t → Steps p.tables e below (s₁.setTop (entryFrame m #[(.int p0)] maxLocals)) t := fun t k => pre39 t (by
          show Steps p.tables e below (T38.setTop (mkF m 197 #[.val (.int p0), .val (.ref b1), .val (.int j6), .val (.int j10), .val (.int (1 : Int32)), .val (.int j26), .val (.int (1 : Int32)), .val (.int (1 : Int32))] [(.ref b1)])) _
          refine st40.trans ?_
          show Steps p.tables e below (T40.setTop (mkF m 200 #[.val (.int p0), .val (.ref b1), .val (.int j6), .val (.int j10), .val (.int (1 : Int32)), .val (.int j26), .val (.int (1 : Int32)), .val (.int (1 : Int32))] [(.int (f8 (1 : Int32)))])) _
          refine XS.iconst X40.here hx rfl (hb hby at_200) ?_
          exact k)
        obtain ⟨T49, LjT49, j47, X49, N49, e49, hj47, pre48⟩ : ∃ (T49 : State) (LjT49 : List Loc) (j47 : Int32), Stand p l e room_1 s m #[(.int p0)] below meth c T49 LjT49 6 22 ∧ Fr n0 LjT49 ∧ T49.heap = T38.heap ∧ j47 = (if (f8 (1 : Int32)) = (1 : Int32) then (1 : Int32) else (0 : Int32)) ∧ ∀ t, Steps p.tables e below (T49.setTop (mkF m 226 #[.val (.int p0), .val (.ref b1), .val (.int j6), .val (.int j10), .val (.int (1 : Int32)), .val (.int j26), .val (.int (1 : Int32)), .val (.int (1 : Int32))] [(.int j47)])) t → Steps p.tables e below (s₁.setTop (entryFrame m #[(.int p0)] maxLocals)) t := by
          by_cases hc42 : (f8 (1 : Int32)) = (1 : Int32)
          · have pre43 : ∀ t, Steps p.tables e below (T40.setTop (mkF m 205 #[.val (.int p0), .val (.ref b1), .val (.int j6), .val (.int j10), .val (.int (1 : Int32)), .val (.int j26), .val (.int (1 : Int32)), .val (.int (1 : Int32))] [(.ref b1)])) t → Steps p.tables e below (s₁.setTop (entryFrame m #[(.int p0)] maxLocals)) t := fun t k => pre41 t (by
              show Steps p.tables e below (T40.setTop (mkF m 201 #[.val (.int p0), .val (.ref b1), .val (.int j6), .val (.int j10), .val (.int (1 : Int32)), .val (.int j26), .val (.int (1 : Int32)), .val (.int (1 : Int32))] [(.int (1 : Int32)), (.int (f8 (1 : Int32)))])) _
              refine XS.icmpNo X40.here hx rfl (hb hby at_201) rfl (teq hc42).2 ?_
              show Steps p.tables e below (T40.setTop (mkF m 204 #[.val (.int p0), .val (.ref b1), .val (.int j6), .val (.int j10), .val (.int (1 : Int32)), .val (.int j26), .val (.int (1 : Int32)), .val (.int (1 : Int32))] [])) _
              refine XS.aloadN X40.here hx rfl (hb hby at_204) rfl rfl ?_
              exact k)
            obtain ⟨cq44, kq44, q44a, q44b, q44c⟩ := isOf hZ e40 A1_38
            obtain ⟨_, _, ⟨T44, L44, k44, n44⟩, -, X44, ⟨Lc44, hQ44, l44, y44, z44⟩, st44⟩ := X40.virtualBack hx (y := (⟨"com/example/prune_to_fit/prunetofit/sat/Cnf", "literalCount", "()I"⟩ : MethodName)) (z := (⟨"com/example/prune_to_fit/prunetofit/sat/Cnf", "literalCount", "()I"⟩ : MethodName)) hown (mvT hZ (hw _ (List.mem_of_getElem? (i := 63) rfl))) (mvT hZ (hw _ (List.mem_of_getElem? (i := 64) rfl))) (notFace_of_selects (args := #[]) (mvT hZ (hw _ (List.mem_of_getElem? (i := 66) rfl)))) (mvT hZ (hw _ (List.mem_of_getElem? (i := 66) rfl))) (mvT hZ (hw _ (List.mem_of_getElem? (i := 65) rfl))) (by decide) (backOf (W := 0) (rm10 l Z aw hw [] b1 (2 : Int32) T38.heap n0 Z38 F38_a0_literals') hZ (hw _ (List.mem_of_getElem? (i := 67) rfl)) (hw _ (List.mem_of_getElem? (i := 2) rfl)) (by decide) (by decide)) q44a q44c (g := (mkF m 205 #[.val (.int p0), .val (.ref b1), .val (.int j6), .val (.int j10), .val (.int (1 : Int32)), .val (.int j26), .val (.int (1 : Int32)), .val (.int (1 : Int32))] [(.ref b1)])) rfl (by rw [hml]; rfl) (Steps.refl _) (argsL := []) (rest := []) (lenOf pd_1 rfl) rfl (by show 2 * 0 + _ ≤ _; exact Nat.le_of_eq rfl) (hb hby at_205) (fun _ _ => ⟨rfl, e40, (by decide : 6 + 0 ≤ _), (by decide : 22 + 0 ≤ _)⟩)
            dsimp only [Pt.U, Pt.locs, Pt.cells, Pt.slots] at X44 l44 y44 z44 st44 hQ44
            subst l44 y44 z44
            obtain ⟨rfl, N44q, e44⟩ := hQ44
            have N44 := Fr.app N40 N44q
            have pre45 : ∀ t, Steps p.tables e below (T44.setTop (mkF m 213 #[.val (.int p0), .val (.ref b1), .val (.int j6), .val (.int j10), .val (.int (1 : Int32)), .val (.int j26), .val (.int (1 : Int32)), .val (.int (1 : Int32))] [(.ref b1)])) t → Steps p.tables e below (s₁.setTop (entryFrame m #[(.int p0)] maxLocals)) t := fun t k => pre43 t (by
              show Steps p.tables e below (T40.setTop (mkF m 205 #[.val (.int p0), .val (.ref b1), .val (.int j6), .val (.int j10), .val (.int (1 : Int32)), .val (.int j26), .val (.int (1 : Int32)), .val (.int (1 : Int32))] [(.ref b1)])) _
              refine st44.trans ?_
              show Steps p.tables e below (T44.setTop (mkF m 208 #[.val (.int p0), .val (.ref b1), .val (.int j6), .val (.int j10), .val (.int (1 : Int32)), .val (.int j26), .val (.int (1 : Int32)), .val (.int (1 : Int32))] [(.int (2 : Int32))])) _
              refine XS.iconst X44.here hx rfl (hb hby at_208) ?_
              show Steps p.tables e below (T44.setTop (mkF m 209 #[.val (.int p0), .val (.ref b1), .val (.int j6), .val (.int j10), .val (.int (1 : Int32)), .val (.int j26), .val (.int (1 : Int32)), .val (.int (1 : Int32))] [(.int (2 : Int32)), (.int (2 : Int32))])) _
              refine XS.icmpNo X44.here hx rfl (hb hby at_209) rfl (teq ((by decide) : (2 : Int32) = (2 : Int32))).2 ?_
              show Steps p.tables e below (T44.setTop (mkF m 212 #[.val (.int p0), .val (.ref b1), .val (.int j6), .val (.int j10), .val (.int (1 : Int32)), .val (.int j26), .val (.int (1 : Int32)), .val (.int (1 : Int32))] [])) _
              refine XS.aloadN X44.here hx rfl (hb hby at_212) rfl rfl ?_
              exact k)
            obtain ⟨cq46, kq46, q46a, q46b, q46c⟩ := isOf hZ e44 A1_38
            obtain ⟨_, _, ⟨T46, L46, k46, n46⟩, -, X46, ⟨Lc46, hQ46, l46, y46, z46⟩, st46⟩ := X44.virtualBack hx (y := (⟨"com/example/prune_to_fit/prunetofit/sat/Cnf", "variables", "()I"⟩ : MethodName)) (z := (⟨"com/example/prune_to_fit/prunetofit/sat/Cnf", "variables", "()I"⟩ : MethodName)) hown (mvT hZ (hw _ (List.mem_of_getElem? (i := 42) rfl))) (mvT hZ (hw _ (List.mem_of_getElem? (i := 43) rfl))) (notFace_of_selects (args := #[]) (mvT hZ (hw _ (List.mem_of_getElem? (i := 45) rfl)))) (mvT hZ (hw _ (List.mem_of_getElem? (i := 45) rfl))) (mvT hZ (hw _ (List.mem_of_getElem? (i := 44) rfl))) (by decide) (backOf (W := 0) (rm7 l Z aw hw [] b1 (1 : Int32) T38.heap n0 Z38 F38_a0_variables') hZ (hw _ (List.mem_of_getElem? (i := 46) rfl)) (hw _ (List.mem_of_getElem? (i := 2) rfl)) (by decide) (by decide)) q46a q46c (g := (mkF m 213 #[.val (.int p0), .val (.ref b1), .val (.int j6), .val (.int j10), .val (.int (1 : Int32)), .val (.int j26), .val (.int (1 : Int32)), .val (.int (1 : Int32))] [(.ref b1)])) rfl (by rw [hml]; rfl) (Steps.refl _) (argsL := []) (rest := []) (lenOf pd_1 rfl) rfl (by show 2 * 0 + _ ≤ _; exact Nat.le_of_eq rfl) (hb hby at_213) (fun _ _ => ⟨rfl, e44, (by decide : 6 + 0 ≤ _), (by decide : 22 + 0 ≤ _)⟩)
            dsimp only [Pt.U, Pt.locs, Pt.cells, Pt.slots] at X46 l46 y46 z46 st46 hQ46
            subst l46 y46 z46
            obtain ⟨rfl, N46q, e46⟩ := hQ46
            have N46 := Fr.app N44 N46q
            exact ⟨_, _, (1 : Int32), X46, N46, e46, (by rw [if_pos hc42]), fun t k => pre45 t (by
              show Steps p.tables e below (T44.setTop (mkF m 213 #[.val (.int p0), .val (.ref b1), .val (.int j6), .val (.int j10), .val (.int (1 : Int32)), .val (.int j26), .val (.int (1 : Int32)), .val (.int (1 : Int32))] [(.ref b1)])) _
              refine st46.trans ?_
              show Steps p.tables e below (T46.setTop (mkF m 216 #[.val (.int p0), .val (.ref b1), .val (.int j6), .val (.int j10), .val (.int (1 : Int32)), .val (.int j26), .val (.int (1 : Int32)), .val (.int (1 : Int32))] [(.int (1 : Int32))])) _
              refine XS.iload X46.here hx rfl (hb hby at_216) rfl ?_
              show Steps p.tables e below (T46.setTop (mkF m 218 #[.val (.int p0), .val (.ref b1), .val (.int j6), .val (.int j10), .val (.int (1 : Int32)), .val (.int j26), .val (.int (1 : Int32)), .val (.int (1 : Int32))] [(.int (1 : Int32)), (.int (1 : Int32))])) _
              refine XS.icmpNo X46.here hx rfl (hb hby at_218) rfl (teq ((by decide) : (1 : Int32) = (1 : Int32))).2 ?_
              show Steps p.tables e below (T46.setTop (mkF m 221 #[.val (.int p0), .val (.ref b1), .val (.int j6), .val (.int j10), .val (.int (1 : Int32)), .val (.int j26), .val (.int (1 : Int32)), .val (.int (1 : Int32))] [])) _
              refine XS.iconst X46.here hx rfl (hb hby at_221) ?_
              show Steps p.tables e below (T46.setTop (mkF m 222 #[.val (.int p0), .val (.ref b1), .val (.int j6), .val (.int j10), .val (.int (1 : Int32)), .val (.int j26), .val (.int (1 : Int32)), .val (.int (1 : Int32))] [(.int (1 : Int32))])) _
              refine XS.goto X46.here hx rfl (pc0 := 222) (pc' := 226) rfl (hb hby at_222) (by decide) (by decide) ?_
              exact k)⟩
          · exact ⟨_, _, (0 : Int32), X40, N40, e40, (by rw [if_neg hc42]), fun t k => pre41 t (by
              show Steps p.tables e below (T40.setTop (mkF m 201 #[.val (.int p0), .val (.ref b1), .val (.int j6), .val (.int j10), .val (.int (1 : Int32)), .val (.int j26), .val (.int (1 : Int32)), .val (.int (1 : Int32))] [(.int (1 : Int32)), (.int (f8 (1 : Int32)))])) _
              refine XS.icmpYes X40.here hx rfl (pc0 := 201) (pc' := 225) rfl (hb hby at_201) rfl (feq hc42).2 (by decide) (by decide) ?_
              show Steps p.tables e below (T40.setTop (mkF m 225 #[.val (.int p0), .val (.ref b1), .val (.int j6), .val (.int j10), .val (.int (1 : Int32)), .val (.int j26), .val (.int (1 : Int32)), .val (.int (1 : Int32))] [])) _
              refine XS.iconst X40.here hx rfl (hb hby at_225) ?_
              exact k)⟩
        obtain ⟨fs, hr, hrun, hended, hW, hsame⟩ := X49.leave (v := some (.int (nar .boolean j47))) (fun h => by rw [Bd.returns] at h; cases h)
        refine ⟨_, _, pre48 _ ?_, hrun, hended, _, _, rfl, ?_, ⟨_, rfl⟩, hW, hsame.mono (by decide) (by decide)⟩
        · show Steps p.tables e below (T49.setTop (mkF m 226 #[.val (.int p0), .val (.ref b1), .val (.int j6), .val (.int j10), .val (.int (1 : Int32)), .val (.int j26), .val (.int (1 : Int32)), .val (.int (1 : Int32))] [(.int j47)])) _
          exact retN X49 hx (t := .boolean) Bd.returns (by simp) (hb hby at_226) hr
        · show Q0 Z p0 w_DEFAULTCAPACITY_EMPTY_ELEMENTDATA ka_D h0 n0 _ T49.heap _
          rw [e49]
          have hv : (nar .boolean j47) = f0 p0 := (by subst hj47 hj26 hj10 hj6; simp only [f0, if_pos hc15, if_pos hc17, if_neg hc30])
          exact ⟨congrArg (fun z => some (Value.int z)) (hv.trans hlaw), N49⟩
    · have pre50 : ∀ t, Steps p.tables e below (T13.setTop (mkF m 90 #[.val (.int p0), .val (.ref b1), .val (.int j6), .val (.int j10), .val (.int (1 : Int32)), .val (.int (1 : Int32)), .val (.int (1 : Int32)), .unset] [(.ref b1)])) t → Steps p.tables e below (s₁.setTop (entryFrame m #[(.int p0)] maxLocals)) t := fun t k => pre16 t (by
        show Steps p.tables e below (T13.setTop (mkF m 86 #[.val (.int p0), .val (.ref b1), .val (.int j6), .val (.int j10), .val (.int (1 : Int32)), .val (.int (1 : Int32)), .val (.int (1 : Int32)), .unset] [(.int j10)])) _
        refine XS.ifNo X13.here hx rfl (hb hby at_86) rfl ((if0 _ _).trans (feq hc17).1) ?_
        show Steps p.tables e below (T13.setTop (mkF m 89 #[.val (.int p0), .val (.ref b1), .val (.int j6), .val (.int j10), .val (.int (1 : Int32)), .val (.int (1 : Int32)), .val (.int (1 : Int32)), .unset] [])) _
        refine XS.aloadN X13.here hx rfl (hb hby at_89) rfl rfl ?_
        exact k)
      obtain ⟨cq51, kq51, q51a, q51b, q51c⟩ := isOf hZ rfl A1_13
      obtain ⟨_, _, ⟨T51, L51, k51, n51⟩, -, X51, ⟨Lc51, hQ51, l51, y51, z51⟩, st51⟩ := X13.virtualBack hx (y := (⟨"com/example/prune_to_fit/prunetofit/sat/Cnf", "newVariable", "()I"⟩ : MethodName)) (z := (⟨"com/example/prune_to_fit/prunetofit/sat/Cnf", "newVariable", "()I"⟩ : MethodName)) hown (mvT hZ (hw _ (List.mem_of_getElem? (i := 35) rfl))) (mvT hZ (hw _ (List.mem_of_getElem? (i := 36) rfl))) (notFace_of_selects (args := #[]) (mvT hZ (hw _ (List.mem_of_getElem? (i := 38) rfl)))) (mvT hZ (hw _ (List.mem_of_getElem? (i := 38) rfl))) (mvT hZ (hw _ (List.mem_of_getElem? (i := 37) rfl))) (by decide) (backOf (W := 0) (rm6 l Z aw hw [] b1 (1 : Int32) (0 : Int32) b3 T13.heap n0 Z13 A1_13 F13_a0_variables' F13_a0_literals' F13_a0_clauses' g_b1) hZ (hw _ (List.mem_of_getElem? (i := 39) rfl)) (hw _ (List.mem_of_getElem? (i := 2) rfl)) (by decide) (by decide)) q51a q51c (g := (mkF m 90 #[.val (.int p0), .val (.ref b1), .val (.int j6), .val (.int j10), .val (.int (1 : Int32)), .val (.int (1 : Int32)), .val (.int (1 : Int32)), .unset] [(.ref b1)])) rfl (by rw [hml]; rfl) (Steps.refl _) (argsL := []) (rest := []) (lenOf pd_1 rfl) rfl (by show 2 * 0 + _ ≤ _; exact Nat.le_of_eq rfl) (hb hby at_90) (fun _ _ => ⟨rfl, rfl, (by decide : 2 + 0 ≤ _), (by decide : 6 + 0 ≤ _)⟩)
      dsimp only [Pt.U, Pt.locs, Pt.cells, Pt.slots] at X51 l51 y51 z51 st51 hQ51
      subst l51 y51 z51
      obtain ⟨rfl, N51q, K51q, E51_a0, F51_a0_variables, F51_a0_literals, F51_a0_clauses⟩ := hQ51
      have N51 := Fr.app N13 N51q
      have S_DEFAULTCAPACITY_EMPTY_ELEMENTDATA_51 := own_sta_keep S_DEFAULTCAPACITY_EMPTY_ELEMENTDATA_13 K51q (allS (own_exa_plain A1_13) all0)
      have V_w_DEFAULTCAPACITY_EMPTY_ELEMENTDATA_51 := V_w_DEFAULTCAPACITY_EMPTY_ELEMENTDATA_13.keep K51q (ninS ne_w_DEFAULTCAPACITY_EMPTY_ELEMENTDATA_b1 nin0)
      have A1_51 := A1_13.keep K51q
      have x3_0_51 := x3_0_13.keep K51q
      have x3_1_51 := x3_1_13.keep K51q (ninS (Ne.symm ne_b1_b3) nin0)
      have x3_2_51 := x3_2_13.keep K51q (ninS (Ne.symm ne_b1_b3) nin0)
      have x3_3_51 := x3_3_13.keep K51q (ninS (Ne.symm ne_b1_b3) nin0)
      have F51_a0_variables' : Fld Z T51.heap b1 "com/example/prune_to_fit/prunetofit/sat/Cnf" "variables" "I" (.int (2 : Int32)) := F51_a0_variables
      have F51_a0_literals' : Fld Z T51.heap b1 "com/example/prune_to_fit/prunetofit/sat/Cnf" "literals" "I" (.int (0 : Int32)) := F51_a0_literals
      have F51_a0_clauses' : Fld Z T51.heap b1 "com/example/prune_to_fit/prunetofit/sat/Cnf" "clauses" "Ljava/util/List;" (.ref b3) := F51_a0_clauses
      have K51 : Keep h0 T51.heap [] := K13.trans K51q (allS (Or.inr sz_b1) all0)
      have Z51 : n0 ≤ T51.heap.size := Nat.le_trans Z13 K51q.1
      have pre52 : ∀ t, Steps p.tables e below (T51.setTop (mkF m 121 #[.val (.int p0), .val (.ref b1), .val (.int j6), .val (.int j10), .val (.int (1 : Int32)), .val (.int (1 : Int32)), .val (.int (2 : Int32)), .val (.int (2 : Int32))] [(.ref b1)])) t → Steps p.tables e below (s₁.setTop (entryFrame m #[(.int p0)] maxLocals)) t := fun t k => pre50 t (by
        show Steps p.tables e below (T13.setTop (mkF m 90 #[.val (.int p0), .val (.ref b1), .val (.int j6), .val (.int j10), .val (.int (1 : Int32)), .val (.int (1 : Int32)), .val (.int (1 : Int32)), .unset] [(.ref b1)])) _
        refine st51.trans ?_
        show Steps p.tables e below (T51.setTop (mkF m 93 #[.val (.int p0), .val (.ref b1), .val (.int j6), .val (.int j10), .val (.int (1 : Int32)), .val (.int (1 : Int32)), .val (.int (1 : Int32)), .unset] [(.int (2 : Int32))])) _
        refine XS.istore X51.here hx rfl (hb hby at_93) rfl (l' := #[.val (.int p0), .val (.ref b1), .val (.int j6), .val (.int j10), .val (.int (1 : Int32)), .val (.int (1 : Int32)), .val (.int (1 : Int32)), .val (.int (2 : Int32))]) rfl ?_
        show Steps p.tables e below (T51.setTop (mkF m 95 #[.val (.int p0), .val (.ref b1), .val (.int j6), .val (.int j10), .val (.int (1 : Int32)), .val (.int (1 : Int32)), .val (.int (1 : Int32)), .val (.int (2 : Int32))] [])) _
        refine XS.iload X51.here hx rfl (hb hby at_95) rfl ?_
        show Steps p.tables e below (T51.setTop (mkF m 97 #[.val (.int p0), .val (.ref b1), .val (.int j6), .val (.int j10), .val (.int (1 : Int32)), .val (.int (1 : Int32)), .val (.int (1 : Int32)), .val (.int (2 : Int32))] [(.int (1 : Int32))])) _
        refine XS.iconst X51.here hx rfl (hb hby at_97) ?_
        show Steps p.tables e below (T51.setTop (mkF m 98 #[.val (.int p0), .val (.ref b1), .val (.int j6), .val (.int j10), .val (.int (1 : Int32)), .val (.int (1 : Int32)), .val (.int (1 : Int32)), .val (.int (2 : Int32))] [(.int (1 : Int32)), (.int (1 : Int32))])) _
        refine XS.iadd X51.here hx rfl (hb hby at_98) rfl ?_
        show Steps p.tables e below (T51.setTop (mkF m 99 #[.val (.int p0), .val (.ref b1), .val (.int j6), .val (.int j10), .val (.int (1 : Int32)), .val (.int (1 : Int32)), .val (.int (1 : Int32)), .val (.int (2 : Int32))] [(.int (2 : Int32))])) _
        refine XS.istore X51.here hx rfl (hb hby at_99) rfl (l' := #[.val (.int p0), .val (.ref b1), .val (.int j6), .val (.int j10), .val (.int (1 : Int32)), .val (.int (1 : Int32)), .val (.int (2 : Int32)), .val (.int (2 : Int32))]) rfl ?_
        show Steps p.tables e below (T51.setTop (mkF m 101 #[.val (.int p0), .val (.ref b1), .val (.int j6), .val (.int j10), .val (.int (1 : Int32)), .val (.int (1 : Int32)), .val (.int (2 : Int32)), .val (.int (2 : Int32))] [])) _
        refine XS.iload X51.here hx rfl (hb hby at_101) rfl ?_
        show Steps p.tables e below (T51.setTop (mkF m 103 #[.val (.int p0), .val (.ref b1), .val (.int j6), .val (.int j10), .val (.int (1 : Int32)), .val (.int (1 : Int32)), .val (.int (2 : Int32)), .val (.int (2 : Int32))] [(.int (1 : Int32))])) _
        refine XS.ifNo X51.here hx rfl (hb hby at_103) rfl ((if0 _ _).trans (feq ((by decide) : ¬ ((1 : Int32) = (0 : Int32)))).1) ?_
        show Steps p.tables e below (T51.setTop (mkF m 106 #[.val (.int p0), .val (.ref b1), .val (.int j6), .val (.int j10), .val (.int (1 : Int32)), .val (.int (1 : Int32)), .val (.int (2 : Int32)), .val (.int (2 : Int32))] [])) _
        refine XS.iload X51.here hx rfl (hb hby at_106) rfl ?_
        show Steps p.tables e below (T51.setTop (mkF m 108 #[.val (.int p0), .val (.ref b1), .val (.int j6), .val (.int j10), .val (.int (1 : Int32)), .val (.int (1 : Int32)), .val (.int (2 : Int32)), .val (.int (2 : Int32))] [(.int (2 : Int32))])) _
        refine XS.iload X51.here hx rfl (hb hby at_108) rfl ?_
        show Steps p.tables e below (T51.setTop (mkF m 110 #[.val (.int p0), .val (.ref b1), .val (.int j6), .val (.int j10), .val (.int (1 : Int32)), .val (.int (1 : Int32)), .val (.int (2 : Int32)), .val (.int (2 : Int32))] [(.int (2 : Int32)), (.int (2 : Int32))])) _
        refine XS.icmpNo X51.here hx rfl (hb hby at_110) rfl (teq ((by decide) : (2 : Int32) = (2 : Int32))).2 ?_
        show Steps p.tables e below (T51.setTop (mkF m 113 #[.val (.int p0), .val (.ref b1), .val (.int j6), .val (.int j10), .val (.int (1 : Int32)), .val (.int (1 : Int32)), .val (.int (2 : Int32)), .val (.int (2 : Int32))] [])) _
        refine XS.iconst X51.here hx rfl (hb hby at_113) ?_
        show Steps p.tables e below (T51.setTop (mkF m 114 #[.val (.int p0), .val (.ref b1), .val (.int j6), .val (.int j10), .val (.int (1 : Int32)), .val (.int (1 : Int32)), .val (.int (2 : Int32)), .val (.int (2 : Int32))] [(.int (1 : Int32))])) _
        refine XS.goto X51.here hx rfl (pc0 := 114) (pc' := 118) rfl (hb hby at_114) (by decide) (by decide) ?_
        show Steps p.tables e below (T51.setTop (mkF m 118 #[.val (.int p0), .val (.ref b1), .val (.int j6), .val (.int j10), .val (.int (1 : Int32)), .val (.int (1 : Int32)), .val (.int (2 : Int32)), .val (.int (2 : Int32))] [(.int (1 : Int32))])) _
        refine XS.istore X51.here hx rfl (hb hby at_118) rfl (l' := #[.val (.int p0), .val (.ref b1), .val (.int j6), .val (.int j10), .val (.int (1 : Int32)), .val (.int (1 : Int32)), .val (.int (2 : Int32)), .val (.int (2 : Int32))]) rfl ?_
        show Steps p.tables e below (T51.setTop (mkF m 120 #[.val (.int p0), .val (.ref b1), .val (.int j6), .val (.int j10), .val (.int (1 : Int32)), .val (.int (1 : Int32)), .val (.int (2 : Int32)), .val (.int (2 : Int32))] [])) _
        refine XS.aloadN X51.here hx rfl (hb hby at_120) rfl rfl ?_
        exact k)
      obtain ⟨cq53, kq53, q53a, q53b, q53c⟩ := isOf hZ rfl A1_51
      obtain ⟨_, _, ⟨T53, L53, k53, n53⟩, -, X53, ⟨Lc53, hQ53, l53, y53, z53⟩, st53⟩ := X51.virtualBack hx (y := (⟨"com/example/prune_to_fit/prunetofit/sat/Cnf", "variables", "()I"⟩ : MethodName)) (z := (⟨"com/example/prune_to_fit/prunetofit/sat/Cnf", "variables", "()I"⟩ : MethodName)) hown (mvT hZ (hw _ (List.mem_of_getElem? (i := 42) rfl))) (mvT hZ (hw _ (List.mem_of_getElem? (i := 43) rfl))) (notFace_of_selects (args := #[]) (mvT hZ (hw _ (List.mem_of_getElem? (i := 45) rfl)))) (mvT hZ (hw _ (List.mem_of_getElem? (i := 45) rfl))) (mvT hZ (hw _ (List.mem_of_getElem? (i := 44) rfl))) (by decide) (backOf (W := 0) (rm7 l Z aw hw [] b1 (2 : Int32) T51.heap n0 Z51 F51_a0_variables') hZ (hw _ (List.mem_of_getElem? (i := 46) rfl)) (hw _ (List.mem_of_getElem? (i := 2) rfl)) (by decide) (by decide)) q53a q53c (g := (mkF m 121 #[.val (.int p0), .val (.ref b1), .val (.int j6), .val (.int j10), .val (.int (1 : Int32)), .val (.int (1 : Int32)), .val (.int (2 : Int32)), .val (.int (2 : Int32))] [(.ref b1)])) rfl (by rw [hml]; rfl) (Steps.refl _) (argsL := []) (rest := []) (lenOf pd_1 rfl) rfl (by show 2 * 0 + _ ≤ _; exact Nat.le_of_eq rfl) (hb hby at_121) (fun _ _ => ⟨rfl, rfl, (by decide : 2 + 0 ≤ _), (by decide : 6 + 0 ≤ _)⟩)
      dsimp only [Pt.U, Pt.locs, Pt.cells, Pt.slots] at X53 l53 y53 z53 st53 hQ53
      subst l53 y53 z53
      obtain ⟨rfl, N53q, e53⟩ := hQ53
      have N53 := Fr.app N51 N53q
      have pre54 : ∀ t, Steps p.tables e below (T53.setTop (mkF m 151 #[.val (.int p0), .val (.ref b1), .val (.int j6), .val (.int j10), .val (.int (1 : Int32)), .val (.int (1 : Int32)), .val (.int (2 : Int32)), .val (.int (2 : Int32))] [(.ref b1)])) t → Steps p.tables e below (s₁.setTop (entryFrame m #[(.int p0)] maxLocals)) t := fun t k => pre52 t (by
        show Steps p.tables e below (T51.setTop (mkF m 121 #[.val (.int p0), .val (.ref b1), .val (.int j6), .val (.int j10), .val (.int (1 : Int32)), .val (.int (1 : Int32)), .val (.int (2 : Int32)), .val (.int (2 : Int32))] [(.ref b1)])) _
        refine st53.trans ?_
        show Steps p.tables e below (T53.setTop (mkF m 124 #[.val (.int p0), .val (.ref b1), .val (.int j6), .val (.int j10), .val (.int (1 : Int32)), .val (.int (1 : Int32)), .val (.int (2 : Int32)), .val (.int (2 : Int32))] [(.int (2 : Int32))])) _
        refine XS.istore X53.here hx rfl (hb hby at_124) rfl (l' := #[.val (.int p0), .val (.ref b1), .val (.int j6), .val (.int j10), .val (.int (1 : Int32)), .val (.int (1 : Int32)), .val (.int (2 : Int32)), .val (.int (2 : Int32))]) rfl ?_
        show Steps p.tables e below (T53.setTop (mkF m 126 #[.val (.int p0), .val (.ref b1), .val (.int j6), .val (.int j10), .val (.int (1 : Int32)), .val (.int (1 : Int32)), .val (.int (2 : Int32)), .val (.int (2 : Int32))] [])) _
        refine XS.iload X53.here hx rfl (hb hby at_126) rfl ?_
        show Steps p.tables e below (T53.setTop (mkF m 128 #[.val (.int p0), .val (.ref b1), .val (.int j6), .val (.int j10), .val (.int (1 : Int32)), .val (.int (1 : Int32)), .val (.int (2 : Int32)), .val (.int (2 : Int32))] [(.int (1 : Int32))])) _
        refine XS.ifNo X53.here hx rfl (hb hby at_128) rfl ((if0 _ _).trans (feq ((by decide) : ¬ ((1 : Int32) = (0 : Int32)))).1) ?_
        show Steps p.tables e below (T53.setTop (mkF m 131 #[.val (.int p0), .val (.ref b1), .val (.int j6), .val (.int j10), .val (.int (1 : Int32)), .val (.int (1 : Int32)), .val (.int (2 : Int32)), .val (.int (2 : Int32))] [])) _
        refine XS.iload X53.here hx rfl (hb hby at_131) rfl ?_
        show Steps p.tables e below (T53.setTop (mkF m 133 #[.val (.int p0), .val (.ref b1), .val (.int j6), .val (.int j10), .val (.int (1 : Int32)), .val (.int (1 : Int32)), .val (.int (2 : Int32)), .val (.int (2 : Int32))] [(.int (2 : Int32))])) _
        refine XS.iload X53.here hx rfl (hb hby at_133) rfl ?_
        show Steps p.tables e below (T53.setTop (mkF m 135 #[.val (.int p0), .val (.ref b1), .val (.int j6), .val (.int j10), .val (.int (1 : Int32)), .val (.int (1 : Int32)), .val (.int (2 : Int32)), .val (.int (2 : Int32))] [(.int (2 : Int32)), (.int (2 : Int32))])) _
        refine XS.icmpNo X53.here hx rfl (hb hby at_135) rfl (teq ((by decide) : (2 : Int32) = (2 : Int32))).2 ?_
        show Steps p.tables e below (T53.setTop (mkF m 138 #[.val (.int p0), .val (.ref b1), .val (.int j6), .val (.int j10), .val (.int (1 : Int32)), .val (.int (1 : Int32)), .val (.int (2 : Int32)), .val (.int (2 : Int32))] [])) _
        refine XS.iconst X53.here hx rfl (hb hby at_138) ?_
        show Steps p.tables e below (T53.setTop (mkF m 139 #[.val (.int p0), .val (.ref b1), .val (.int j6), .val (.int j10), .val (.int (1 : Int32)), .val (.int (1 : Int32)), .val (.int (2 : Int32)), .val (.int (2 : Int32))] [(.int (1 : Int32))])) _
        refine XS.goto X53.here hx rfl (pc0 := 139) (pc' := 143) rfl (hb hby at_139) (by decide) (by decide) ?_
        show Steps p.tables e below (T53.setTop (mkF m 143 #[.val (.int p0), .val (.ref b1), .val (.int j6), .val (.int j10), .val (.int (1 : Int32)), .val (.int (1 : Int32)), .val (.int (2 : Int32)), .val (.int (2 : Int32))] [(.int (1 : Int32))])) _
        refine XS.istore X53.here hx rfl (hb hby at_143) rfl (l' := #[.val (.int p0), .val (.ref b1), .val (.int j6), .val (.int j10), .val (.int (1 : Int32)), .val (.int (1 : Int32)), .val (.int (2 : Int32)), .val (.int (2 : Int32))]) rfl ?_
        show Steps p.tables e below (T53.setTop (mkF m 145 #[.val (.int p0), .val (.ref b1), .val (.int j6), .val (.int j10), .val (.int (1 : Int32)), .val (.int (1 : Int32)), .val (.int (2 : Int32)), .val (.int (2 : Int32))] [])) _
        refine XS.iload X53.here hx rfl (hb hby at_145) rfl ?_
        show Steps p.tables e below (T53.setTop (mkF m 147 #[.val (.int p0), .val (.ref b1), .val (.int j6), .val (.int j10), .val (.int (1 : Int32)), .val (.int (1 : Int32)), .val (.int (2 : Int32)), .val (.int (2 : Int32))] [(.int (1 : Int32))])) _
        refine XS.ifNo X53.here hx rfl (hb hby at_147) rfl ((if0 _ _).trans (feq ((by decide) : ¬ ((1 : Int32) = (0 : Int32)))).1) ?_
        show Steps p.tables e below (T53.setTop (mkF m 150 #[.val (.int p0), .val (.ref b1), .val (.int j6), .val (.int j10), .val (.int (1 : Int32)), .val (.int (1 : Int32)), .val (.int (2 : Int32)), .val (.int (2 : Int32))] [])) _
        refine XS.aloadN X53.here hx rfl (hb hby at_150) rfl rfl ?_
        exact k)
      obtain ⟨cq55, kq55, q55a, q55b, q55c⟩ := isOf hZ e53 A1_51
      obtain ⟨_, _, ⟨T55, L55, k55, n55⟩, -, X55, ⟨Lc55, hQ55, l55, y55, z55⟩, st55⟩ := X53.virtualBack hx (y := (⟨"com/example/prune_to_fit/prunetofit/sat/Cnf", "clauseCount", "()I"⟩ : MethodName)) (z := (⟨"com/example/prune_to_fit/prunetofit/sat/Cnf", "clauseCount", "()I"⟩ : MethodName)) hown (mvT hZ (hw _ (List.mem_of_getElem? (i := 47) rfl))) (mvT hZ (hw _ (List.mem_of_getElem? (i := 48) rfl))) (notFace_of_selects (args := #[]) (mvT hZ (hw _ (List.mem_of_getElem? (i := 50) rfl)))) (mvT hZ (hw _ (List.mem_of_getElem? (i := 50) rfl))) (mvT hZ (hw _ (List.mem_of_getElem? (i := 49) rfl))) (by decide) (backOf (W := 0) (rm8 l Z aw hw [] b1 b3 (0 : Int32) T51.heap n0 Z51 F51_a0_clauses' x3_3_51 x3_0_51) hZ (hw _ (List.mem_of_getElem? (i := 51) rfl)) (hw _ (List.mem_of_getElem? (i := 2) rfl)) (by decide) (by decide)) q55a q55c (g := (mkF m 151 #[.val (.int p0), .val (.ref b1), .val (.int j6), .val (.int j10), .val (.int (1 : Int32)), .val (.int (1 : Int32)), .val (.int (2 : Int32)), .val (.int (2 : Int32))] [(.ref b1)])) rfl (by rw [hml]; rfl) (Steps.refl _) (argsL := []) (rest := []) (lenOf pd_1 rfl) rfl (by show 2 * 0 + _ ≤ _; exact Nat.le_of_eq rfl) (hb hby at_151) (fun _ _ => ⟨rfl, e53, (by decide : 2 + 0 ≤ _), (by decide : 6 + 0 ≤ _)⟩)
      dsimp only [Pt.U, Pt.locs, Pt.cells, Pt.slots] at X55 l55 y55 z55 st55 hQ55
      subst l55 y55 z55
      obtain ⟨rfl, N55q, e55⟩ := hQ55
      have N55 := Fr.app N53 N55q
      have pre56 : ∀ t, Steps p.tables e below (T55.setTop (mkF m 154 #[.val (.int p0), .val (.ref b1), .val (.int j6), .val (.int j10), .val (.int (1 : Int32)), .val (.int (1 : Int32)), .val (.int (2 : Int32)), .val (.int (2 : Int32))] [(.int (f8 (0 : Int32)))])) t → Steps p.tables e below (s₁.setTop (entryFrame m #[(.int p0)] maxLocals)) t := fun t k => pre54 t (by
        show Steps p.tables e below (T53.setTop (mkF m 151 #[.val (.int p0), .val (.ref b1), .val (.int j6), .val (.int j10), .val (.int (1 : Int32)), .val (.int (1 : Int32)), .val (.int (2 : Int32)), .val (.int (2 : Int32))] [(.ref b1)])) _
        refine st55.trans ?_
        exact k)
      obtain ⟨T62, LjT62, j60, X62, N62, e62, hj60, pre61⟩ : ∃ (T62 : State) (LjT62 : List Loc) (j60 : Int32), Stand p l e room_1 s m #[(.int p0)] below meth c T62 LjT62 2 6 ∧ Fr n0 LjT62 ∧ T62.heap = T51.heap ∧ j60 = (if (f8 (0 : Int32)) = (0 : Int32) then (1 : Int32) else (0 : Int32)) ∧ ∀ t, Steps p.tables e below (T62.setTop (mkF m 169 #[.val (.int p0), .val (.ref b1), .val (.int j6), .val (.int j10), .val (.int (1 : Int32)), .val (.int (1 : Int32)), .val (.int (2 : Int32)), .val (.int (2 : Int32))] [(.int j60)])) t → Steps p.tables e below (s₁.setTop (entryFrame m #[(.int p0)] maxLocals)) t := by
        by_cases hc57 : (f8 (0 : Int32)) = (0 : Int32)
        · have pre58 : ∀ t, Steps p.tables e below (T55.setTop (mkF m 158 #[.val (.int p0), .val (.ref b1), .val (.int j6), .val (.int j10), .val (.int (1 : Int32)), .val (.int (1 : Int32)), .val (.int (2 : Int32)), .val (.int (2 : Int32))] [(.ref b1)])) t → Steps p.tables e below (s₁.setTop (entryFrame m #[(.int p0)] maxLocals)) t := fun t k => pre56 t (by
            show Steps p.tables e below (T55.setTop (mkF m 154 #[.val (.int p0), .val (.ref b1), .val (.int j6), .val (.int j10), .val (.int (1 : Int32)), .val (.int (1 : Int32)), .val (.int (2 : Int32)), .val (.int (2 : Int32))] [(.int (f8 (0 : Int32)))])) _
            refine XS.ifNo X55.here hx rfl (hb hby at_154) rfl ((if0 _ _).trans (teq hc57).2) ?_
            show Steps p.tables e below (T55.setTop (mkF m 157 #[.val (.int p0), .val (.ref b1), .val (.int j6), .val (.int j10), .val (.int (1 : Int32)), .val (.int (1 : Int32)), .val (.int (2 : Int32)), .val (.int (2 : Int32))] [])) _
            refine XS.aloadN X55.here hx rfl (hb hby at_157) rfl rfl ?_
            exact k)
          obtain ⟨cq59, kq59, q59a, q59b, q59c⟩ := isOf hZ e55 A1_51
          obtain ⟨_, _, ⟨T59, L59, k59, n59⟩, -, X59, ⟨Lc59, hQ59, l59, y59, z59⟩, st59⟩ := X55.virtualBack hx (y := (⟨"com/example/prune_to_fit/prunetofit/sat/Cnf", "literalCount", "()I"⟩ : MethodName)) (z := (⟨"com/example/prune_to_fit/prunetofit/sat/Cnf", "literalCount", "()I"⟩ : MethodName)) hown (mvT hZ (hw _ (List.mem_of_getElem? (i := 63) rfl))) (mvT hZ (hw _ (List.mem_of_getElem? (i := 64) rfl))) (notFace_of_selects (args := #[]) (mvT hZ (hw _ (List.mem_of_getElem? (i := 66) rfl)))) (mvT hZ (hw _ (List.mem_of_getElem? (i := 66) rfl))) (mvT hZ (hw _ (List.mem_of_getElem? (i := 65) rfl))) (by decide) (backOf (W := 0) (rm10 l Z aw hw [] b1 (0 : Int32) T51.heap n0 Z51 F51_a0_literals') hZ (hw _ (List.mem_of_getElem? (i := 67) rfl)) (hw _ (List.mem_of_getElem? (i := 2) rfl)) (by decide) (by decide)) q59a q59c (g := (mkF m 158 #[.val (.int p0), .val (.ref b1), .val (.int j6), .val (.int j10), .val (.int (1 : Int32)), .val (.int (1 : Int32)), .val (.int (2 : Int32)), .val (.int (2 : Int32))] [(.ref b1)])) rfl (by rw [hml]; rfl) (Steps.refl _) (argsL := []) (rest := []) (lenOf pd_1 rfl) rfl (by show 2 * 0 + _ ≤ _; exact Nat.le_of_eq rfl) (hb hby at_158) (fun _ _ => ⟨rfl, e55, (by decide : 2 + 0 ≤ _), (by decide : 6 + 0 ≤ _)⟩)
          dsimp only [Pt.U, Pt.locs, Pt.cells, Pt.slots] at X59 l59 y59 z59 st59 hQ59
          subst l59 y59 z59
          obtain ⟨rfl, N59q, e59⟩ := hQ59
          have N59 := Fr.app N55 N59q
          exact ⟨_, _, (1 : Int32), X59, N59, e59, (by rw [if_pos hc57]), fun t k => pre58 t (by
            show Steps p.tables e below (T55.setTop (mkF m 158 #[.val (.int p0), .val (.ref b1), .val (.int j6), .val (.int j10), .val (.int (1 : Int32)), .val (.int (1 : Int32)), .val (.int (2 : Int32)), .val (.int (2 : Int32))] [(.ref b1)])) _
            refine st59.trans ?_
            show Steps p.tables e below (T59.setTop (mkF m 161 #[.val (.int p0), .val (.ref b1), .val (.int j6), .val (.int j10), .val (.int (1 : Int32)), .val (.int (1 : Int32)), .val (.int (2 : Int32)), .val (.int (2 : Int32))] [(.int (0 : Int32))])) _
            refine XS.ifNo X59.here hx rfl (hb hby at_161) rfl ((if0 _ _).trans (teq ((by decide) : (0 : Int32) = (0 : Int32))).2) ?_
            show Steps p.tables e below (T59.setTop (mkF m 164 #[.val (.int p0), .val (.ref b1), .val (.int j6), .val (.int j10), .val (.int (1 : Int32)), .val (.int (1 : Int32)), .val (.int (2 : Int32)), .val (.int (2 : Int32))] [])) _
            refine XS.iconst X59.here hx rfl (hb hby at_164) ?_
            show Steps p.tables e below (T59.setTop (mkF m 165 #[.val (.int p0), .val (.ref b1), .val (.int j6), .val (.int j10), .val (.int (1 : Int32)), .val (.int (1 : Int32)), .val (.int (2 : Int32)), .val (.int (2 : Int32))] [(.int (1 : Int32))])) _
            refine XS.goto X59.here hx rfl (pc0 := 165) (pc' := 169) rfl (hb hby at_165) (by decide) (by decide) ?_
            exact k)⟩
        · exact ⟨_, _, (0 : Int32), X55, N55, e55, (by rw [if_neg hc57]), fun t k => pre56 t (by
            show Steps p.tables e below (T55.setTop (mkF m 154 #[.val (.int p0), .val (.ref b1), .val (.int j6), .val (.int j10), .val (.int (1 : Int32)), .val (.int (1 : Int32)), .val (.int (2 : Int32)), .val (.int (2 : Int32))] [(.int (f8 (0 : Int32)))])) _
            refine XS.ifYes X55.here hx rfl (pc0 := 154) (pc' := 168) rfl (hb hby at_154) rfl ((if0 _ _).trans (feq hc57).2) (by decide) (by decide) ?_
            show Steps p.tables e below (T55.setTop (mkF m 168 #[.val (.int p0), .val (.ref b1), .val (.int j6), .val (.int j10), .val (.int (1 : Int32)), .val (.int (1 : Int32)), .val (.int (2 : Int32)), .val (.int (2 : Int32))] [])) _
            refine XS.iconst X55.here hx rfl (hb hby at_168) ?_
            exact k)⟩
      have pre63 : ∀ t, Steps p.tables e below (T62.setTop (mkF m 173 #[.val (.int p0), .val (.ref b1), .val (.int j6), .val (.int j10), .val (.int (1 : Int32)), .val (.int j60), .val (.int (2 : Int32)), .val (.int (2 : Int32))] [(.int j60)])) t → Steps p.tables e below (s₁.setTop (entryFrame m #[(.int p0)] maxLocals)) t := fun t k => pre61 t (by
        show Steps p.tables e below (T62.setTop (mkF m 169 #[.val (.int p0), .val (.ref b1), .val (.int j6), .val (.int j10), .val (.int (1 : Int32)), .val (.int (1 : Int32)), .val (.int (2 : Int32)), .val (.int (2 : Int32))] [(.int j60)])) _
        refine XS.istore X62.here hx rfl (hb hby at_169) rfl (l' := #[.val (.int p0), .val (.ref b1), .val (.int j6), .val (.int j10), .val (.int (1 : Int32)), .val (.int j60), .val (.int (2 : Int32)), .val (.int (2 : Int32))]) rfl ?_
        show Steps p.tables e below (T62.setTop (mkF m 171 #[.val (.int p0), .val (.ref b1), .val (.int j6), .val (.int j10), .val (.int (1 : Int32)), .val (.int j60), .val (.int (2 : Int32)), .val (.int (2 : Int32))] [])) _
        refine XS.iload X62.here hx rfl (hb hby at_171) rfl ?_
        exact k)
      by_cases hc64 : j60 = (0 : Int32)
      · obtain ⟨fs, hr, hrun, hended, hW, hsame⟩ := X62.leave (v := some (.int (0 : Int32))) (fun h => by rw [Bd.returns] at h; cases h)
        refine ⟨_, _, pre63 _ ?_, hrun, hended, _, _, rfl, ?_, ⟨_, rfl⟩, hW, hsame.mono (by decide) (by decide)⟩
        · show Steps p.tables e below (T62.setTop (mkF m 173 #[.val (.int p0), .val (.ref b1), .val (.int j6), .val (.int j10), .val (.int (1 : Int32)), .val (.int j60), .val (.int (2 : Int32)), .val (.int (2 : Int32))] [(.int j60)])) _
          refine XS.ifNo X62.here hx rfl (hb hby at_173) rfl ((if0 _ _).trans (teq hc64).2) ?_
          show Steps p.tables e below (T62.setTop (mkF m 176 #[.val (.int p0), .val (.ref b1), .val (.int j6), .val (.int j10), .val (.int (1 : Int32)), .val (.int j60), .val (.int (2 : Int32)), .val (.int (2 : Int32))] [])) _
          refine XS.iconst X62.here hx rfl (hb hby at_176) ?_
          show Steps p.tables e below (T62.setTop (mkF m 177 #[.val (.int p0), .val (.ref b1), .val (.int j6), .val (.int j10), .val (.int (1 : Int32)), .val (.int j60), .val (.int (2 : Int32)), .val (.int (2 : Int32))] [(.int (0 : Int32))])) _
          exact retN X62 hx (t := .boolean) Bd.returns (by simp) (hb hby at_177) hr
        · show Q0 Z p0 w_DEFAULTCAPACITY_EMPTY_ELEMENTDATA ka_D h0 n0 _ T62.heap _
          rw [e62]
          have hv : (0 : Int32) = f0 p0 := (by subst hj60 hj10 hj6; simp only [f0, if_pos hc15, if_neg hc17, if_pos hc64])
          exact ⟨congrArg (fun z => some (Value.int z)) (hv.trans hlaw), N62⟩
      · have pre65 : ∀ t, Steps p.tables e below (T62.setTop (mkF m 180 #[.val (.int p0), .val (.ref b1), .val (.int j6), .val (.int j10), .val (.int (1 : Int32)), .val (.int j60), .val (.int (2 : Int32)), .val (.int (2 : Int32))] [(.int (2 : Int32)), (.ref b1)])) t → Steps p.tables e below (s₁.setTop (entryFrame m #[(.int p0)] maxLocals)) t := fun t k => pre63 t (by
          show Steps p.tables e below (T62.setTop (mkF m 173 #[.val (.int p0), .val (.ref b1), .val (.int j6), .val (.int j10), .val (.int (1 : Int32)), .val (.int j60), .val (.int (2 : Int32)), .val (.int (2 : Int32))] [(.int j60)])) _
          refine XS.ifYes X62.here hx rfl (pc0 := 173) (pc' := 178) rfl (hb hby at_173) rfl ((if0 _ _).trans (feq hc64).2) (by decide) (by decide) ?_
          show Steps p.tables e below (T62.setTop (mkF m 178 #[.val (.int p0), .val (.ref b1), .val (.int j6), .val (.int j10), .val (.int (1 : Int32)), .val (.int j60), .val (.int (2 : Int32)), .val (.int (2 : Int32))] [])) _
          refine XS.aloadN X62.here hx rfl (hb hby at_178) rfl rfl ?_
          show Steps p.tables e below (T62.setTop (mkF m 179 #[.val (.int p0), .val (.ref b1), .val (.int j6), .val (.int j10), .val (.int (1 : Int32)), .val (.int j60), .val (.int (2 : Int32)), .val (.int (2 : Int32))] [(.ref b1)])) _
          refine XS.iconst X62.here hx rfl (hb hby at_179) ?_
          exact k)
        obtain ⟨T66, h66, k66, X66, e66, E66, A66, Y66, st66⟩ := newPE X62 hx hZ (hw _ (List.mem_of_getElem? (i := 70) rfl)) e62 (g := (mkF m 180 #[.val (.int p0), .val (.ref b1), .val (.int j6), .val (.int j10), .val (.int (1 : Int32)), .val (.int j60), .val (.int (2 : Int32)), .val (.int (2 : Int32))] [(.int (2 : Int32)), (.ref b1)])) rfl (hb hby at_180) rfl (by decide) (cap := 2) (by decide) (by decide) (by decide) (by decide) (ad := "[I") (by decide)
        obtain ⟨b66, g66⟩ : ∃ z, z = T51.heap.size := ⟨_, rfl⟩
        have ne_b1_b66 : b1 ≠ b66 := Nat.ne_of_lt (Nat.lt_of_lt_of_le A1_51.lt (Nat.le_of_eq g66.symm))
        have ne_b3_b66 : b3 ≠ b66 := Nat.ne_of_lt (Nat.lt_of_lt_of_le x3_0_51.lt (Nat.le_of_eq g66.symm))
        have ne_w_DEFAULTCAPACITY_EMPTY_ELEMENTDATA_b66 : w_DEFAULTCAPACITY_EMPTY_ELEMENTDATA ≠ b66 := Nat.ne_of_lt (Nat.lt_of_lt_of_le V_w_DEFAULTCAPACITY_EMPTY_ELEMENTDATA_51.lt (Nat.le_of_eq g66.symm))
        have g_b66 : n0 ≤ b66 := Nat.le_trans Z51 (Nat.le_of_eq g66.symm)
        have sz_b66 : h0.size ≤ b66 := Nat.le_trans K51.1 (Nat.le_of_eq g66.symm)
        rw [← g66] at A66 st66 Y66
        have S_DEFAULTCAPACITY_EMPTY_ELEMENTDATA_66 := S_DEFAULTCAPACITY_EMPTY_ELEMENTDATA_51.ext E66
        have V_w_DEFAULTCAPACITY_EMPTY_ELEMENTDATA_66 := V_w_DEFAULTCAPACITY_EMPTY_ELEMENTDATA_51.ext E66
        have A1_66 := A1_51.ext E66
        have F51_a0_clauses'_66 := F51_a0_clauses'.ext E66
        have F51_a0_variables'_66 := F51_a0_variables'.ext E66
        have F51_a0_literals'_66 := F51_a0_literals'.ext E66
        have x3_0_66 := x3_0_51.ext E66
        have x3_1_66 := x3_1_51.ext E66
        have x3_2_66 := x3_2_51.ext E66
        have x3_3_66 := x3_3_51.ext E66
        have K66 : Keep h0 h66 [] := K51.ext E66
        have Z66 : n0 ≤ h66.size := Nat.le_trans Z51 E66.1
        have V_b66 : Arv Z h66 b66 k66 .int (2 : Int32) [(.int (0 : Int32)), (.int (0 : Int32))] (.int (0 : Int32)) := (Arv.new A66 (by decide)).pad (pad_rep [] (.int (0 : Int32)) 2)
        have pre67 : ∀ t, Steps p.tables e below (T66.setTop (mkF m 186 #[.val (.int p0), .val (.ref b1), .val (.int j6), .val (.int j10), .val (.int (1 : Int32)), .val (.int j60), .val (.int (2 : Int32)), .val (.int (2 : Int32))] [(.int (2 : Int32)), (.int (0 : Int32)), (.ref b66), (.ref b66), (.ref b1)])) t → Steps p.tables e below (s₁.setTop (entryFrame m #[(.int p0)] maxLocals)) t := fun t k => pre65 t (by
          show Steps p.tables e below (T62.setTop (mkF m 180 #[.val (.int p0), .val (.ref b1), .val (.int j6), .val (.int j10), .val (.int (1 : Int32)), .val (.int j60), .val (.int (2 : Int32)), .val (.int (2 : Int32))] [(.int (2 : Int32)), (.ref b1)])) _
          refine st66 _ ?_
          show Steps p.tables e below (T66.setTop (mkF m 182 #[.val (.int p0), .val (.ref b1), .val (.int j6), .val (.int j10), .val (.int (1 : Int32)), .val (.int j60), .val (.int (2 : Int32)), .val (.int (2 : Int32))] [(.ref b66), (.ref b1)])) _
          refine XS.dup X66.here hx rfl (hb hby at_182) rfl rfl ?_
          show Steps p.tables e below (T66.setTop (mkF m 183 #[.val (.int p0), .val (.ref b1), .val (.int j6), .val (.int j10), .val (.int (1 : Int32)), .val (.int j60), .val (.int (2 : Int32)), .val (.int (2 : Int32))] [(.ref b66), (.ref b66), (.ref b1)])) _
          refine XS.iconst X66.here hx rfl (hb hby at_183) ?_
          show Steps p.tables e below (T66.setTop (mkF m 184 #[.val (.int p0), .val (.ref b1), .val (.int j6), .val (.int j10), .val (.int (1 : Int32)), .val (.int j60), .val (.int (2 : Int32)), .val (.int (2 : Int32))] [(.int (0 : Int32)), (.ref b66), (.ref b66), (.ref b1)])) _
          refine XS.iload X66.here hx rfl (hb hby at_184) rfl ?_
          exact k)
        obtain ⟨cl68, Ar68, q68, S68, M68, H68, G68⟩ := id V_b66
        have hin68 : ¬ ((0 : Int32) < 0 ∨ cl68.slots.size ≤ ((0 : Int32)).toNatClampNeg) := inb_of S68 ⟨by decide, by decide⟩
        obtain ⟨T68, h68, X68, e68, W68, st68⟩ := stI X66 hx hZ e66 Ar68 (j := (0 : Int32)) hin68 (g := (mkF m 186 #[.val (.int p0), .val (.ref b1), .val (.int j6), .val (.int j10), .val (.int (1 : Int32)), .val (.int j60), .val (.int (2 : Int32)), .val (.int (2 : Int32))] [(.int (2 : Int32)), (.int (0 : Int32)), (.ref b66), (.ref b66), (.ref b1)])) rfl rfl (hb hby at_186)
        have V_b66_68 : Arv Z h68 b66 k66 .int (2 : Int32) [(.int (2 : Int32)), (.int (0 : Int32))] (.int (0 : Int32)) := Arv.set Ar68 q68 S68 M68 H68 G68 rfl W68 0 rfl (Nat.le_of_ble_eq_true rfl)
        have S_DEFAULTCAPACITY_EMPTY_ELEMENTDATA_68 := S_DEFAULTCAPACITY_EMPTY_ELEMENTDATA_66.wr W68
        have V_w_DEFAULTCAPACITY_EMPTY_ELEMENTDATA_68 := V_w_DEFAULTCAPACITY_EMPTY_ELEMENTDATA_66.other W68 ne_w_DEFAULTCAPACITY_EMPTY_ELEMENTDATA_b66
        have A1_68 := A1_66.wr W68
        have F51_a0_clauses'_68 := F51_a0_clauses'_66.other W68 (Or.inl ne_b1_b66)
        have F51_a0_variables'_68 := F51_a0_variables'_66.other W68 (Or.inl ne_b1_b66)
        have F51_a0_literals'_68 := F51_a0_literals'_66.other W68 (Or.inl ne_b1_b66)
        have x3_0_68 := x3_0_66.wr W68
        have x3_1_68 := x3_1_66.other W68 (Or.inl ne_b3_b66)
        have x3_2_68 := x3_2_66.other W68 (Or.inl ne_b3_b66)
        have x3_3_68 := x3_3_66.other W68 (Or.inl ne_b3_b66)
        have Y66_68 := Y66.wr W68
        have K68 : Keep h0 h68 [] := K66.wr W68 (Or.inr sz_b66)
        have N68 := Fr.snoc X68 N62 g_b66
        have Z68 : n0 ≤ h68.size := Nat.le_trans Z66 (Nat.le_of_eq W68.size.symm)
        have pre69 : ∀ t, Steps p.tables e below (T68.setTop (mkF m 192 #[.val (.int p0), .val (.ref b1), .val (.int j6), .val (.int j10), .val (.int (1 : Int32)), .val (.int j60), .val (.int (2 : Int32)), .val (.int (2 : Int32))] [(.int (-2 : Int32)), (.int (1 : Int32)), (.ref b66), (.ref b66), (.ref b1)])) t → Steps p.tables e below (s₁.setTop (entryFrame m #[(.int p0)] maxLocals)) t := fun t k => pre67 t (by
          show Steps p.tables e below (T66.setTop (mkF m 186 #[.val (.int p0), .val (.ref b1), .val (.int j6), .val (.int j10), .val (.int (1 : Int32)), .val (.int j60), .val (.int (2 : Int32)), .val (.int (2 : Int32))] [(.int (2 : Int32)), (.int (0 : Int32)), (.ref b66), (.ref b66), (.ref b1)])) _
          refine st68 _ ?_
          show Steps p.tables e below (T68.setTop (mkF m 187 #[.val (.int p0), .val (.ref b1), .val (.int j6), .val (.int j10), .val (.int (1 : Int32)), .val (.int j60), .val (.int (2 : Int32)), .val (.int (2 : Int32))] [(.ref b66), (.ref b1)])) _
          refine XS.dup X68.here hx rfl (hb hby at_187) rfl rfl ?_
          show Steps p.tables e below (T68.setTop (mkF m 188 #[.val (.int p0), .val (.ref b1), .val (.int j6), .val (.int j10), .val (.int (1 : Int32)), .val (.int j60), .val (.int (2 : Int32)), .val (.int (2 : Int32))] [(.ref b66), (.ref b66), (.ref b1)])) _
          refine XS.iconst X68.here hx rfl (hb hby at_188) ?_
          show Steps p.tables e below (T68.setTop (mkF m 189 #[.val (.int p0), .val (.ref b1), .val (.int j6), .val (.int j10), .val (.int (1 : Int32)), .val (.int j60), .val (.int (2 : Int32)), .val (.int (2 : Int32))] [(.int (1 : Int32)), (.ref b66), (.ref b66), (.ref b1)])) _
          refine XS.iload X68.here hx rfl (hb hby at_189) rfl ?_
          show Steps p.tables e below (T68.setTop (mkF m 191 #[.val (.int p0), .val (.ref b1), .val (.int j6), .val (.int j10), .val (.int (1 : Int32)), .val (.int j60), .val (.int (2 : Int32)), .val (.int (2 : Int32))] [(.int (2 : Int32)), (.int (1 : Int32)), (.ref b66), (.ref b66), (.ref b1)])) _
          refine XS.ineg X68.here hx rfl (hb hby at_191) rfl ?_
          exact k)
        obtain ⟨cl70, Ar70, q70, S70, M70, H70, G70⟩ := id V_b66_68
        have hin70 : ¬ ((1 : Int32) < 0 ∨ cl70.slots.size ≤ ((1 : Int32)).toNatClampNeg) := inb_of S70 ⟨by decide, by decide⟩
        obtain ⟨T70, h70, X70, e70, W70, st70⟩ := stI X68 hx hZ e68 Ar70 (j := (1 : Int32)) hin70 (g := (mkF m 192 #[.val (.int p0), .val (.ref b1), .val (.int j6), .val (.int j10), .val (.int (1 : Int32)), .val (.int j60), .val (.int (2 : Int32)), .val (.int (2 : Int32))] [(.int (-2 : Int32)), (.int (1 : Int32)), (.ref b66), (.ref b66), (.ref b1)])) rfl rfl (hb hby at_192)
        have V_b66_70 : Arv Z h70 b66 k66 .int (2 : Int32) [(.int (2 : Int32)), (.int (-2 : Int32))] (.int (0 : Int32)) := Arv.set Ar70 q70 S70 M70 H70 G70 rfl W70 1 rfl (Nat.le_of_ble_eq_true rfl)
        have S_DEFAULTCAPACITY_EMPTY_ELEMENTDATA_70 := S_DEFAULTCAPACITY_EMPTY_ELEMENTDATA_68.wr W70
        have V_w_DEFAULTCAPACITY_EMPTY_ELEMENTDATA_70 := V_w_DEFAULTCAPACITY_EMPTY_ELEMENTDATA_68.other W70 ne_w_DEFAULTCAPACITY_EMPTY_ELEMENTDATA_b66
        have A1_70 := A1_68.wr W70
        have F51_a0_clauses'_70 := F51_a0_clauses'_68.other W70 (Or.inl ne_b1_b66)
        have F51_a0_variables'_70 := F51_a0_variables'_68.other W70 (Or.inl ne_b1_b66)
        have F51_a0_literals'_70 := F51_a0_literals'_68.other W70 (Or.inl ne_b1_b66)
        have x3_0_70 := x3_0_68.wr W70
        have x3_1_70 := x3_1_68.other W70 (Or.inl ne_b3_b66)
        have x3_2_70 := x3_2_68.other W70 (Or.inl ne_b3_b66)
        have x3_3_70 := x3_3_68.other W70 (Or.inl ne_b3_b66)
        have Y66_70 := Y66_68.wr W70
        have K70 : Keep h0 h70 [] := K68.wr W70 (Or.inr sz_b66)
        have N70 := Fr.snoc X70 N68 g_b66
        have Z70 : n0 ≤ h70.size := Nat.le_trans Z68 (Nat.le_of_eq W70.size.symm)
        have pre71 : ∀ t, Steps p.tables e below (T70.setTop (mkF m 193 #[.val (.int p0), .val (.ref b1), .val (.int j6), .val (.int j10), .val (.int (1 : Int32)), .val (.int j60), .val (.int (2 : Int32)), .val (.int (2 : Int32))] [(.ref b66), (.ref b1)])) t → Steps p.tables e below (s₁.setTop (entryFrame m #[(.int p0)] maxLocals)) t := fun t k => pre69 t (by
          show Steps p.tables e below (T68.setTop (mkF m 192 #[.val (.int p0), .val (.ref b1), .val (.int j6), .val (.int j10), .val (.int (1 : Int32)), .val (.int j60), .val (.int (2 : Int32)), .val (.int (2 : Int32))] [(.int (-2 : Int32)), (.int (1 : Int32)), (.ref b66), (.ref b66), (.ref b1)])) _
          refine st70 _ ?_
          exact k)
        obtain ⟨cq72, kq72, q72a, q72b, q72c⟩ := isOf hZ e70 A1_70
        obtain ⟨_, _, ⟨T72, L72, k72, n72⟩, -, X72, ⟨Lc72, hQ72, l72, y72, z72⟩, st72⟩ := X70.virtualBack hx (y := (⟨"com/example/prune_to_fit/prunetofit/sat/Cnf", "add", "([I)V"⟩ : MethodName)) (z := (⟨"com/example/prune_to_fit/prunetofit/sat/Cnf", "add", "([I)V"⟩ : MethodName)) hown (mvT hZ (hw _ (List.mem_of_getElem? (i := 71) rfl))) (mvT hZ (hw _ (List.mem_of_getElem? (i := 72) rfl))) (notFace_of_selects (args := #[]) (mvT hZ (hw _ (List.mem_of_getElem? (i := 74) rfl)))) (mvT hZ (hw _ (List.mem_of_getElem? (i := 74) rfl))) (mvT hZ (hw _ (List.mem_of_getElem? (i := 73) rfl))) (by decide) (backOf (W := 0) (rm11 l Z aw hw [] b1 b66 (2 : Int32) k66 (0 : Int32) b3 w_DEFAULTCAPACITY_EMPTY_ELEMENTDATA ka_D (0 : Int32) h70 n0 Z70 (by decide) F51_a0_variables'_70 V_b66_70 A1_70 F51_a0_literals'_70 F51_a0_clauses'_70 S_DEFAULTCAPACITY_EMPTY_ELEMENTDATA_70 V_w_DEFAULTCAPACITY_EMPTY_ELEMENTDATA_70 x3_0_70 x3_2_70 x3_3_70 x3_1_70 g_b3 ne_w_DEFAULTCAPACITY_EMPTY_ELEMENTDATA_b3 ne_b1_b3 (Ne.symm ne_b3_b66) g_b1 (Ne.symm ne_b1_b66) ne_w_DEFAULTCAPACITY_EMPTY_ELEMENTDATA_b1) hZ (hw _ (List.mem_of_getElem? (i := 75) rfl)) (hw _ (List.mem_of_getElem? (i := 2) rfl)) (by decide) (by decide)) q72a q72c (g := (mkF m 193 #[.val (.int p0), .val (.ref b1), .val (.int j6), .val (.int j10), .val (.int (1 : Int32)), .val (.int j60), .val (.int (2 : Int32)), .val (.int (2 : Int32))] [(.ref b66), (.ref b1)])) rfl (by rw [hml]; rfl) (Steps.refl _) (argsL := [(.ref b66)]) (rest := []) (lenOf pd_2 rfl) rfl (by show 2 * 0 + _ ≤ _; exact Nat.le_of_eq rfl) (hb hby at_193) (fun _ _ => ⟨rfl, e70, (by decide : 3 + 3 ≤ _), (by decide : 8 + 14 ≤ _)⟩)
        dsimp only [Pt.U, Pt.locs, Pt.cells, Pt.slots] at X72 l72 y72 z72 st72 hQ72
        subst l72 y72 z72
        obtain ⟨rfl, N72q, K72q, E72_w_clauses_a0, E72_a0, F72_w_clauses_a0_size, F72_a0_variables, F72_a0_literals, F72_a0_clauses⟩ := hQ72
        have N72 := Fr.app N70 N72q
        have S_DEFAULTCAPACITY_EMPTY_ELEMENTDATA_72 := own_sta_keep S_DEFAULTCAPACITY_EMPTY_ELEMENTDATA_70 K72q (allS (own_exa_plain x3_0_70) (allS (own_exa_plain A1_70) all0))
        have V_w_DEFAULTCAPACITY_EMPTY_ELEMENTDATA_72 := V_w_DEFAULTCAPACITY_EMPTY_ELEMENTDATA_70.keep K72q (ninS ne_w_DEFAULTCAPACITY_EMPTY_ELEMENTDATA_b3 (ninS ne_w_DEFAULTCAPACITY_EMPTY_ELEMENTDATA_b1 nin0))
        have A1_72 := A1_70.keep K72q
        have x3_0_72 := x3_0_70.keep K72q
        have Y66_72 := Y66_70.keep K72q
        have V_b66_70_72 := V_b66_70.keep K72q (ninS (Ne.symm ne_b3_b66) (ninS (Ne.symm ne_b1_b66) nin0))
        have F72_w_clauses_a0_size' : Fld Z T72.heap b3 "java/util/ArrayList" "size" "I" (.int (1 : Int32)) := F72_w_clauses_a0_size
        have F72_a0_variables' : Fld Z T72.heap b1 "com/example/prune_to_fit/prunetofit/sat/Cnf" "variables" "I" (.int (2 : Int32)) := F72_a0_variables
        have F72_a0_literals' : Fld Z T72.heap b1 "com/example/prune_to_fit/prunetofit/sat/Cnf" "literals" "I" (.int (2 : Int32)) := F72_a0_literals
        have F72_a0_clauses' : Fld Z T72.heap b1 "com/example/prune_to_fit/prunetofit/sat/Cnf" "clauses" "Ljava/util/List;" (.ref b3) := F72_a0_clauses
        have K72 : Keep h0 T72.heap [] := K70.trans K72q (allS (Or.inr sz_b3) (allS (Or.inr sz_b1) all0))
        have Z72 : n0 ≤ T72.heap.size := Nat.le_trans Z70 K72q.1
        have pre73 : ∀ t, Steps p.tables e below (T72.setTop (mkF m 197 #[.val (.int p0), .val (.ref b1), .val (.int j6), .val (.int j10), .val (.int (1 : Int32)), .val (.int j60), .val (.int (2 : Int32)), .val (.int (2 : Int32))] [(.ref b1)])) t → Steps p.tables e below (s₁.setTop (entryFrame m #[(.int p0)] maxLocals)) t := fun t k => pre71 t (by
          show Steps p.tables e below (T70.setTop (mkF m 193 #[.val (.int p0), .val (.ref b1), .val (.int j6), .val (.int j10), .val (.int (1 : Int32)), .val (.int j60), .val (.int (2 : Int32)), .val (.int (2 : Int32))] [(.ref b66), (.ref b1)])) _
          refine st72.trans ?_
          show Steps p.tables e below (T72.setTop (mkF m 196 #[.val (.int p0), .val (.ref b1), .val (.int j6), .val (.int j10), .val (.int (1 : Int32)), .val (.int j60), .val (.int (2 : Int32)), .val (.int (2 : Int32))] [])) _
          refine XS.aloadN X72.here hx rfl (hb hby at_196) rfl rfl ?_
          exact k)
        obtain ⟨cq74, kq74, q74a, q74b, q74c⟩ := isOf hZ rfl A1_72
        obtain ⟨_, _, ⟨T74, L74, k74, n74⟩, -, X74, ⟨Lc74, hQ74, l74, y74, z74⟩, st74⟩ := X72.virtualBack hx (y := (⟨"com/example/prune_to_fit/prunetofit/sat/Cnf", "clauseCount", "()I"⟩ : MethodName)) (z := (⟨"com/example/prune_to_fit/prunetofit/sat/Cnf", "clauseCount", "()I"⟩ : MethodName)) hown (mvT hZ (hw _ (List.mem_of_getElem? (i := 47) rfl))) (mvT hZ (hw _ (List.mem_of_getElem? (i := 48) rfl))) (notFace_of_selects (args := #[]) (mvT hZ (hw _ (List.mem_of_getElem? (i := 50) rfl)))) (mvT hZ (hw _ (List.mem_of_getElem? (i := 50) rfl))) (mvT hZ (hw _ (List.mem_of_getElem? (i := 49) rfl))) (by decide) (backOf (W := 0) (rm8 l Z aw hw [] b1 b3 (1 : Int32) T72.heap n0 Z72 F72_a0_clauses' F72_w_clauses_a0_size' x3_0_72) hZ (hw _ (List.mem_of_getElem? (i := 51) rfl)) (hw _ (List.mem_of_getElem? (i := 2) rfl)) (by decide) (by decide)) q74a q74c (g := (mkF m 197 #[.val (.int p0), .val (.ref b1), .val (.int j6), .val (.int j10), .val (.int (1 : Int32)), .val (.int j60), .val (.int (2 : Int32)), .val (.int (2 : Int32))] [(.ref b1)])) rfl (by rw [hml]; rfl) (Steps.refl _) (argsL := []) (rest := []) (lenOf pd_1 rfl) rfl (by show 2 * 0 + _ ≤ _; exact Nat.le_of_eq rfl) (hb hby at_197) (fun _ _ => ⟨rfl, rfl, (by decide : 6 + 0 ≤ _), (by decide : 22 + 0 ≤ _)⟩)
        dsimp only [Pt.U, Pt.locs, Pt.cells, Pt.slots] at X74 l74 y74 z74 st74 hQ74
        subst l74 y74 z74
        obtain ⟨rfl, N74q, e74⟩ := hQ74
        have N74 := Fr.app N72 N74q
        have pre75 : ∀ t, Steps p.tables e below (T74.setTop (mkF m 201 #[.val (.int p0), .val (.ref b1), .val (.int j6), .val (.int j10), .val (.int (1 : Int32)), .val (.int j60), .val (.int (2 : Int32)), .val (.int (2 : Int32))] [(.int (1 : Int32)), (.int (f8 (1 : Int32)))])) t → Steps p.tables e below (s₁.setTop (entryFrame m #[(.int p0)] maxLocals)) t := fun t k => pre73 t (by
          show Steps p.tables e below (T72.setTop (mkF m 197 #[.val (.int p0), .val (.ref b1), .val (.int j6), .val (.int j10), .val (.int (1 : Int32)), .val (.int j60), .val (.int (2 : Int32)), .val (.int (2 : Int32))] [(.ref b1)])) _
          refine st74.trans ?_
          show Steps p.tables e below (T74.setTop (mkF m 200 #[.val (.int p0), .val (.ref b1), .val (.int j6), .val (.int j10), .val (.int (1 : Int32)), .val (.int j60), .val (.int (2 : Int32)), .val (.int (2 : Int32))] [(.int (f8 (1 : Int32)))])) _
          refine XS.iconst X74.here hx rfl (hb hby at_200) ?_
          exact k)
        obtain ⟨T83, LjT83, j81, X83, N83, e83, hj81, pre82⟩ : ∃ (T83 : State) (LjT83 : List Loc) (j81 : Int32), Stand p l e room_1 s m #[(.int p0)] below meth c T83 LjT83 6 22 ∧ Fr n0 LjT83 ∧ T83.heap = T72.heap ∧ j81 = (if (f8 (1 : Int32)) = (1 : Int32) then (1 : Int32) else (0 : Int32)) ∧ ∀ t, Steps p.tables e below (T83.setTop (mkF m 226 #[.val (.int p0), .val (.ref b1), .val (.int j6), .val (.int j10), .val (.int (1 : Int32)), .val (.int j60), .val (.int (2 : Int32)), .val (.int (2 : Int32))] [(.int j81)])) t → Steps p.tables e below (s₁.setTop (entryFrame m #[(.int p0)] maxLocals)) t := by
          by_cases hc76 : (f8 (1 : Int32)) = (1 : Int32)
          · have pre77 : ∀ t, Steps p.tables e below (T74.setTop (mkF m 205 #[.val (.int p0), .val (.ref b1), .val (.int j6), .val (.int j10), .val (.int (1 : Int32)), .val (.int j60), .val (.int (2 : Int32)), .val (.int (2 : Int32))] [(.ref b1)])) t → Steps p.tables e below (s₁.setTop (entryFrame m #[(.int p0)] maxLocals)) t := fun t k => pre75 t (by
              show Steps p.tables e below (T74.setTop (mkF m 201 #[.val (.int p0), .val (.ref b1), .val (.int j6), .val (.int j10), .val (.int (1 : Int32)), .val (.int j60), .val (.int (2 : Int32)), .val (.int (2 : Int32))] [(.int (1 : Int32)), (.int (f8 (1 : Int32)))])) _
              refine XS.icmpNo X74.here hx rfl (hb hby at_201) rfl (teq hc76).2 ?_
              show Steps p.tables e below (T74.setTop (mkF m 204 #[.val (.int p0), .val (.ref b1), .val (.int j6), .val (.int j10), .val (.int (1 : Int32)), .val (.int j60), .val (.int (2 : Int32)), .val (.int (2 : Int32))] [])) _
              refine XS.aloadN X74.here hx rfl (hb hby at_204) rfl rfl ?_
              exact k)
            obtain ⟨cq78, kq78, q78a, q78b, q78c⟩ := isOf hZ e74 A1_72
            obtain ⟨_, _, ⟨T78, L78, k78, n78⟩, -, X78, ⟨Lc78, hQ78, l78, y78, z78⟩, st78⟩ := X74.virtualBack hx (y := (⟨"com/example/prune_to_fit/prunetofit/sat/Cnf", "literalCount", "()I"⟩ : MethodName)) (z := (⟨"com/example/prune_to_fit/prunetofit/sat/Cnf", "literalCount", "()I"⟩ : MethodName)) hown (mvT hZ (hw _ (List.mem_of_getElem? (i := 63) rfl))) (mvT hZ (hw _ (List.mem_of_getElem? (i := 64) rfl))) (notFace_of_selects (args := #[]) (mvT hZ (hw _ (List.mem_of_getElem? (i := 66) rfl)))) (mvT hZ (hw _ (List.mem_of_getElem? (i := 66) rfl))) (mvT hZ (hw _ (List.mem_of_getElem? (i := 65) rfl))) (by decide) (backOf (W := 0) (rm10 l Z aw hw [] b1 (2 : Int32) T72.heap n0 Z72 F72_a0_literals') hZ (hw _ (List.mem_of_getElem? (i := 67) rfl)) (hw _ (List.mem_of_getElem? (i := 2) rfl)) (by decide) (by decide)) q78a q78c (g := (mkF m 205 #[.val (.int p0), .val (.ref b1), .val (.int j6), .val (.int j10), .val (.int (1 : Int32)), .val (.int j60), .val (.int (2 : Int32)), .val (.int (2 : Int32))] [(.ref b1)])) rfl (by rw [hml]; rfl) (Steps.refl _) (argsL := []) (rest := []) (lenOf pd_1 rfl) rfl (by show 2 * 0 + _ ≤ _; exact Nat.le_of_eq rfl) (hb hby at_205) (fun _ _ => ⟨rfl, e74, (by decide : 6 + 0 ≤ _), (by decide : 22 + 0 ≤ _)⟩)
            dsimp only [Pt.U, Pt.locs, Pt.cells, Pt.slots] at X78 l78 y78 z78 st78 hQ78
            subst l78 y78 z78
            obtain ⟨rfl, N78q, e78⟩ := hQ78
            have N78 := Fr.app N74 N78q
            have pre79 : ∀ t, Steps p.tables e below (T78.setTop (mkF m 213 #[.val (.int p0), .val (.ref b1), .val (.int j6), .val (.int j10), .val (.int (1 : Int32)), .val (.int j60), .val (.int (2 : Int32)), .val (.int (2 : Int32))] [(.ref b1)])) t → Steps p.tables e below (s₁.setTop (entryFrame m #[(.int p0)] maxLocals)) t := fun t k => pre77 t (by
              show Steps p.tables e below (T74.setTop (mkF m 205 #[.val (.int p0), .val (.ref b1), .val (.int j6), .val (.int j10), .val (.int (1 : Int32)), .val (.int j60), .val (.int (2 : Int32)), .val (.int (2 : Int32))] [(.ref b1)])) _
              refine st78.trans ?_
              show Steps p.tables e below (T78.setTop (mkF m 208 #[.val (.int p0), .val (.ref b1), .val (.int j6), .val (.int j10), .val (.int (1 : Int32)), .val (.int j60), .val (.int (2 : Int32)), .val (.int (2 : Int32))] [(.int (2 : Int32))])) _
              refine XS.iconst X78.here hx rfl (hb hby at_208) ?_
              show Steps p.tables e below (T78.setTop (mkF m 209 #[.val (.int p0), .val (.ref b1), .val (.int j6), .val (.int j10), .val (.int (1 : Int32)), .val (.int j60), .val (.int (2 : Int32)), .val (.int (2 : Int32))] [(.int (2 : Int32)), (.int (2 : Int32))])) _
              refine XS.icmpNo X78.here hx rfl (hb hby at_209) rfl (teq ((by decide) : (2 : Int32) = (2 : Int32))).2 ?_
              show Steps p.tables e below (T78.setTop (mkF m 212 #[.val (.int p0), .val (.ref b1), .val (.int j6), .val (.int j10), .val (.int (1 : Int32)), .val (.int j60), .val (.int (2 : Int32)), .val (.int (2 : Int32))] [])) _
              refine XS.aloadN X78.here hx rfl (hb hby at_212) rfl rfl ?_
              exact k)
            obtain ⟨cq80, kq80, q80a, q80b, q80c⟩ := isOf hZ e78 A1_72
            obtain ⟨_, _, ⟨T80, L80, k80, n80⟩, -, X80, ⟨Lc80, hQ80, l80, y80, z80⟩, st80⟩ := X78.virtualBack hx (y := (⟨"com/example/prune_to_fit/prunetofit/sat/Cnf", "variables", "()I"⟩ : MethodName)) (z := (⟨"com/example/prune_to_fit/prunetofit/sat/Cnf", "variables", "()I"⟩ : MethodName)) hown (mvT hZ (hw _ (List.mem_of_getElem? (i := 42) rfl))) (mvT hZ (hw _ (List.mem_of_getElem? (i := 43) rfl))) (notFace_of_selects (args := #[]) (mvT hZ (hw _ (List.mem_of_getElem? (i := 45) rfl)))) (mvT hZ (hw _ (List.mem_of_getElem? (i := 45) rfl))) (mvT hZ (hw _ (List.mem_of_getElem? (i := 44) rfl))) (by decide) (backOf (W := 0) (rm7 l Z aw hw [] b1 (2 : Int32) T72.heap n0 Z72 F72_a0_variables') hZ (hw _ (List.mem_of_getElem? (i := 46) rfl)) (hw _ (List.mem_of_getElem? (i := 2) rfl)) (by decide) (by decide)) q80a q80c (g := (mkF m 213 #[.val (.int p0), .val (.ref b1), .val (.int j6), .val (.int j10), .val (.int (1 : Int32)), .val (.int j60), .val (.int (2 : Int32)), .val (.int (2 : Int32))] [(.ref b1)])) rfl (by rw [hml]; rfl) (Steps.refl _) (argsL := []) (rest := []) (lenOf pd_1 rfl) rfl (by show 2 * 0 + _ ≤ _; exact Nat.le_of_eq rfl) (hb hby at_213) (fun _ _ => ⟨rfl, e78, (by decide : 6 + 0 ≤ _), (by decide : 22 + 0 ≤ _)⟩)
            dsimp only [Pt.U, Pt.locs, Pt.cells, Pt.slots] at X80 l80 y80 z80 st80 hQ80
            subst l80 y80 z80
            obtain ⟨rfl, N80q, e80⟩ := hQ80
            have N80 := Fr.app N78 N80q
            exact ⟨_, _, (1 : Int32), X80, N80, e80, (by rw [if_pos hc76]), fun t k => pre79 t (by
              show Steps p.tables e below (T78.setTop (mkF m 213 #[.val (.int p0), .val (.ref b1), .val (.int j6), .val (.int j10), .val (.int (1 : Int32)), .val (.int j60), .val (.int (2 : Int32)), .val (.int (2 : Int32))] [(.ref b1)])) _
              refine st80.trans ?_
              show Steps p.tables e below (T80.setTop (mkF m 216 #[.val (.int p0), .val (.ref b1), .val (.int j6), .val (.int j10), .val (.int (1 : Int32)), .val (.int j60), .val (.int (2 : Int32)), .val (.int (2 : Int32))] [(.int (2 : Int32))])) _
              refine XS.iload X80.here hx rfl (hb hby at_216) rfl ?_
              show Steps p.tables e below (T80.setTop (mkF m 218 #[.val (.int p0), .val (.ref b1), .val (.int j6), .val (.int j10), .val (.int (1 : Int32)), .val (.int j60), .val (.int (2 : Int32)), .val (.int (2 : Int32))] [(.int (2 : Int32)), (.int (2 : Int32))])) _
              refine XS.icmpNo X80.here hx rfl (hb hby at_218) rfl (teq ((by decide) : (2 : Int32) = (2 : Int32))).2 ?_
              show Steps p.tables e below (T80.setTop (mkF m 221 #[.val (.int p0), .val (.ref b1), .val (.int j6), .val (.int j10), .val (.int (1 : Int32)), .val (.int j60), .val (.int (2 : Int32)), .val (.int (2 : Int32))] [])) _
              refine XS.iconst X80.here hx rfl (hb hby at_221) ?_
              show Steps p.tables e below (T80.setTop (mkF m 222 #[.val (.int p0), .val (.ref b1), .val (.int j6), .val (.int j10), .val (.int (1 : Int32)), .val (.int j60), .val (.int (2 : Int32)), .val (.int (2 : Int32))] [(.int (1 : Int32))])) _
              refine XS.goto X80.here hx rfl (pc0 := 222) (pc' := 226) rfl (hb hby at_222) (by decide) (by decide) ?_
              exact k)⟩
          · exact ⟨_, _, (0 : Int32), X74, N74, e74, (by rw [if_neg hc76]), fun t k => pre75 t (by
              show Steps p.tables e below (T74.setTop (mkF m 201 #[.val (.int p0), .val (.ref b1), .val (.int j6), .val (.int j10), .val (.int (1 : Int32)), .val (.int j60), .val (.int (2 : Int32)), .val (.int (2 : Int32))] [(.int (1 : Int32)), (.int (f8 (1 : Int32)))])) _
              refine XS.icmpYes X74.here hx rfl (pc0 := 201) (pc' := 225) rfl (hb hby at_201) rfl (feq hc76).2 (by decide) (by decide) ?_
              show Steps p.tables e below (T74.setTop (mkF m 225 #[.val (.int p0), .val (.ref b1), .val (.int j6), .val (.int j10), .val (.int (1 : Int32)), .val (.int j60), .val (.int (2 : Int32)), .val (.int (2 : Int32))] [])) _
              refine XS.iconst X74.here hx rfl (hb hby at_225) ?_
              exact k)⟩
        obtain ⟨fs, hr, hrun, hended, hW, hsame⟩ := X83.leave (v := some (.int (nar .boolean j81))) (fun h => by rw [Bd.returns] at h; cases h)
        refine ⟨_, _, pre82 _ ?_, hrun, hended, _, _, rfl, ?_, ⟨_, rfl⟩, hW, hsame.mono (by decide) (by decide)⟩
        · show Steps p.tables e below (T83.setTop (mkF m 226 #[.val (.int p0), .val (.ref b1), .val (.int j6), .val (.int j10), .val (.int (1 : Int32)), .val (.int j60), .val (.int (2 : Int32)), .val (.int (2 : Int32))] [(.int j81)])) _
          exact retN X83 hx (t := .boolean) Bd.returns (by simp) (hb hby at_226) hr
        · show Q0 Z p0 w_DEFAULTCAPACITY_EMPTY_ELEMENTDATA ka_D h0 n0 _ T83.heap _
          rw [e83]
          have hv : (nar .boolean j81) = f0 p0 := (by subst hj81 hj60 hj10 hj6; simp only [f0, if_pos hc15, if_neg hc17, if_neg hc64])
          exact ⟨congrArg (fun z => some (Value.int z)) (hv.trans hlaw), N83⟩
  · have pre84 : ∀ t, Steps p.tables e below (T13.setTop (mkF m 59 #[.val (.int p0), .val (.ref b1), .val (.int j6), .val (.int j10), .val (.int (1 : Int32)), .val (.int (1 : Int32)), .val (.int (1 : Int32)), .unset] [(.ref b1)])) t → Steps p.tables e below (s₁.setTop (entryFrame m #[(.int p0)] maxLocals)) t := fun t k => pre14 t (by
      show Steps p.tables e below (T13.setTop (mkF m 55 #[.val (.int p0), .val (.ref b1), .val (.int j6), .val (.int j10), .val (.int (1 : Int32)), .val (.int (1 : Int32)), .val (.int (1 : Int32)), .unset] [(.int j6)])) _
      refine XS.ifNo X13.here hx rfl (hb hby at_55) rfl ((if0 _ _).trans (feq hc15).1) ?_
      show Steps p.tables e below (T13.setTop (mkF m 58 #[.val (.int p0), .val (.ref b1), .val (.int j6), .val (.int j10), .val (.int (1 : Int32)), .val (.int (1 : Int32)), .val (.int (1 : Int32)), .unset] [])) _
      refine XS.aloadN X13.here hx rfl (hb hby at_58) rfl rfl ?_
      exact k)
    obtain ⟨cq85, kq85, q85a, q85b, q85c⟩ := isOf hZ rfl A1_13
    obtain ⟨_, _, ⟨T85, L85, k85, n85⟩, -, X85, ⟨Lc85, hQ85, l85, y85, z85⟩, st85⟩ := X13.virtualBack hx (y := (⟨"com/example/prune_to_fit/prunetofit/sat/Cnf", "newVariable", "()I"⟩ : MethodName)) (z := (⟨"com/example/prune_to_fit/prunetofit/sat/Cnf", "newVariable", "()I"⟩ : MethodName)) hown (mvT hZ (hw _ (List.mem_of_getElem? (i := 35) rfl))) (mvT hZ (hw _ (List.mem_of_getElem? (i := 36) rfl))) (notFace_of_selects (args := #[]) (mvT hZ (hw _ (List.mem_of_getElem? (i := 38) rfl)))) (mvT hZ (hw _ (List.mem_of_getElem? (i := 38) rfl))) (mvT hZ (hw _ (List.mem_of_getElem? (i := 37) rfl))) (by decide) (backOf (W := 0) (rm6 l Z aw hw [] b1 (1 : Int32) (0 : Int32) b3 T13.heap n0 Z13 A1_13 F13_a0_variables' F13_a0_literals' F13_a0_clauses' g_b1) hZ (hw _ (List.mem_of_getElem? (i := 39) rfl)) (hw _ (List.mem_of_getElem? (i := 2) rfl)) (by decide) (by decide)) q85a q85c (g := (mkF m 59 #[.val (.int p0), .val (.ref b1), .val (.int j6), .val (.int j10), .val (.int (1 : Int32)), .val (.int (1 : Int32)), .val (.int (1 : Int32)), .unset] [(.ref b1)])) rfl (by rw [hml]; rfl) (Steps.refl _) (argsL := []) (rest := []) (lenOf pd_1 rfl) rfl (by show 2 * 0 + _ ≤ _; exact Nat.le_of_eq rfl) (hb hby at_59) (fun _ _ => ⟨rfl, rfl, (by decide : 2 + 0 ≤ _), (by decide : 6 + 0 ≤ _)⟩)
    dsimp only [Pt.U, Pt.locs, Pt.cells, Pt.slots] at X85 l85 y85 z85 st85 hQ85
    subst l85 y85 z85
    obtain ⟨rfl, N85q, K85q, E85_a0, F85_a0_variables, F85_a0_literals, F85_a0_clauses⟩ := hQ85
    have N85 := Fr.app N13 N85q
    have S_DEFAULTCAPACITY_EMPTY_ELEMENTDATA_85 := own_sta_keep S_DEFAULTCAPACITY_EMPTY_ELEMENTDATA_13 K85q (allS (own_exa_plain A1_13) all0)
    have V_w_DEFAULTCAPACITY_EMPTY_ELEMENTDATA_85 := V_w_DEFAULTCAPACITY_EMPTY_ELEMENTDATA_13.keep K85q (ninS ne_w_DEFAULTCAPACITY_EMPTY_ELEMENTDATA_b1 nin0)
    have A1_85 := A1_13.keep K85q
    have x3_0_85 := x3_0_13.keep K85q
    have x3_1_85 := x3_1_13.keep K85q (ninS (Ne.symm ne_b1_b3) nin0)
    have x3_2_85 := x3_2_13.keep K85q (ninS (Ne.symm ne_b1_b3) nin0)
    have x3_3_85 := x3_3_13.keep K85q (ninS (Ne.symm ne_b1_b3) nin0)
    have F85_a0_variables' : Fld Z T85.heap b1 "com/example/prune_to_fit/prunetofit/sat/Cnf" "variables" "I" (.int (2 : Int32)) := F85_a0_variables
    have F85_a0_literals' : Fld Z T85.heap b1 "com/example/prune_to_fit/prunetofit/sat/Cnf" "literals" "I" (.int (0 : Int32)) := F85_a0_literals
    have F85_a0_clauses' : Fld Z T85.heap b1 "com/example/prune_to_fit/prunetofit/sat/Cnf" "clauses" "Ljava/util/List;" (.ref b3) := F85_a0_clauses
    have K85 : Keep h0 T85.heap [] := K13.trans K85q (allS (Or.inr sz_b1) all0)
    have Z85 : n0 ≤ T85.heap.size := Nat.le_trans Z13 K85q.1
    have pre86 : ∀ t, Steps p.tables e below (T85.setTop (mkF m 86 #[.val (.int p0), .val (.ref b1), .val (.int j6), .val (.int j10), .val (.int (1 : Int32)), .val (.int (1 : Int32)), .val (.int (2 : Int32)), .val (.int (2 : Int32))] [(.int j10)])) t → Steps p.tables e below (s₁.setTop (entryFrame m #[(.int p0)] maxLocals)) t := fun t k => pre84 t (by
      show Steps p.tables e below (T13.setTop (mkF m 59 #[.val (.int p0), .val (.ref b1), .val (.int j6), .val (.int j10), .val (.int (1 : Int32)), .val (.int (1 : Int32)), .val (.int (1 : Int32)), .unset] [(.ref b1)])) _
      refine st85.trans ?_
      show Steps p.tables e below (T85.setTop (mkF m 62 #[.val (.int p0), .val (.ref b1), .val (.int j6), .val (.int j10), .val (.int (1 : Int32)), .val (.int (1 : Int32)), .val (.int (1 : Int32)), .unset] [(.int (2 : Int32))])) _
      refine XS.istore X85.here hx rfl (hb hby at_62) rfl (l' := #[.val (.int p0), .val (.ref b1), .val (.int j6), .val (.int j10), .val (.int (1 : Int32)), .val (.int (1 : Int32)), .val (.int (1 : Int32)), .val (.int (2 : Int32))]) rfl ?_
      show Steps p.tables e below (T85.setTop (mkF m 64 #[.val (.int p0), .val (.ref b1), .val (.int j6), .val (.int j10), .val (.int (1 : Int32)), .val (.int (1 : Int32)), .val (.int (1 : Int32)), .val (.int (2 : Int32))] [])) _
      refine XS.iconst X85.here hx rfl (hb hby at_64) ?_
      show Steps p.tables e below (T85.setTop (mkF m 65 #[.val (.int p0), .val (.ref b1), .val (.int j6), .val (.int j10), .val (.int (1 : Int32)), .val (.int (1 : Int32)), .val (.int (1 : Int32)), .val (.int (2 : Int32))] [(.int (2 : Int32))])) _
      refine XS.istore X85.here hx rfl (hb hby at_65) rfl (l' := #[.val (.int p0), .val (.ref b1), .val (.int j6), .val (.int j10), .val (.int (1 : Int32)), .val (.int (1 : Int32)), .val (.int (2 : Int32)), .val (.int (2 : Int32))]) rfl ?_
      show Steps p.tables e below (T85.setTop (mkF m 67 #[.val (.int p0), .val (.ref b1), .val (.int j6), .val (.int j10), .val (.int (1 : Int32)), .val (.int (1 : Int32)), .val (.int (2 : Int32)), .val (.int (2 : Int32))] [])) _
      refine XS.iload X85.here hx rfl (hb hby at_67) rfl ?_
      show Steps p.tables e below (T85.setTop (mkF m 69 #[.val (.int p0), .val (.ref b1), .val (.int j6), .val (.int j10), .val (.int (1 : Int32)), .val (.int (1 : Int32)), .val (.int (2 : Int32)), .val (.int (2 : Int32))] [(.int (1 : Int32))])) _
      refine XS.ifNo X85.here hx rfl (hb hby at_69) rfl ((if0 _ _).trans (feq ((by decide) : ¬ ((1 : Int32) = (0 : Int32)))).1) ?_
      show Steps p.tables e below (T85.setTop (mkF m 72 #[.val (.int p0), .val (.ref b1), .val (.int j6), .val (.int j10), .val (.int (1 : Int32)), .val (.int (1 : Int32)), .val (.int (2 : Int32)), .val (.int (2 : Int32))] [])) _
      refine XS.iload X85.here hx rfl (hb hby at_72) rfl ?_
      show Steps p.tables e below (T85.setTop (mkF m 74 #[.val (.int p0), .val (.ref b1), .val (.int j6), .val (.int j10), .val (.int (1 : Int32)), .val (.int (1 : Int32)), .val (.int (2 : Int32)), .val (.int (2 : Int32))] [(.int (2 : Int32))])) _
      refine XS.iconst X85.here hx rfl (hb hby at_74) ?_
      show Steps p.tables e below (T85.setTop (mkF m 75 #[.val (.int p0), .val (.ref b1), .val (.int j6), .val (.int j10), .val (.int (1 : Int32)), .val (.int (1 : Int32)), .val (.int (2 : Int32)), .val (.int (2 : Int32))] [(.int (2 : Int32)), (.int (2 : Int32))])) _
      refine XS.icmpNo X85.here hx rfl (hb hby at_75) rfl (teq ((by decide) : (2 : Int32) = (2 : Int32))).2 ?_
      show Steps p.tables e below (T85.setTop (mkF m 78 #[.val (.int p0), .val (.ref b1), .val (.int j6), .val (.int j10), .val (.int (1 : Int32)), .val (.int (1 : Int32)), .val (.int (2 : Int32)), .val (.int (2 : Int32))] [])) _
      refine XS.iconst X85.here hx rfl (hb hby at_78) ?_
      show Steps p.tables e below (T85.setTop (mkF m 79 #[.val (.int p0), .val (.ref b1), .val (.int j6), .val (.int j10), .val (.int (1 : Int32)), .val (.int (1 : Int32)), .val (.int (2 : Int32)), .val (.int (2 : Int32))] [(.int (1 : Int32))])) _
      refine XS.goto X85.here hx rfl (pc0 := 79) (pc' := 83) rfl (hb hby at_79) (by decide) (by decide) ?_
      show Steps p.tables e below (T85.setTop (mkF m 83 #[.val (.int p0), .val (.ref b1), .val (.int j6), .val (.int j10), .val (.int (1 : Int32)), .val (.int (1 : Int32)), .val (.int (2 : Int32)), .val (.int (2 : Int32))] [(.int (1 : Int32))])) _
      refine XS.istore X85.here hx rfl (hb hby at_83) rfl (l' := #[.val (.int p0), .val (.ref b1), .val (.int j6), .val (.int j10), .val (.int (1 : Int32)), .val (.int (1 : Int32)), .val (.int (2 : Int32)), .val (.int (2 : Int32))]) rfl ?_
      show Steps p.tables e below (T85.setTop (mkF m 85 #[.val (.int p0), .val (.ref b1), .val (.int j6), .val (.int j10), .val (.int (1 : Int32)), .val (.int (1 : Int32)), .val (.int (2 : Int32)), .val (.int (2 : Int32))] [])) _
      refine XS.iloadN X85.here hx rfl (hb hby at_85) rfl ?_
      exact k)
    by_cases hc87 : j10 = (0 : Int32)
    · have pre88 : ∀ t, Steps p.tables e below (T85.setTop (mkF m 121 #[.val (.int p0), .val (.ref b1), .val (.int j6), .val (.int j10), .val (.int (1 : Int32)), .val (.int (1 : Int32)), .val (.int (2 : Int32)), .val (.int (2 : Int32))] [(.ref b1)])) t → Steps p.tables e below (s₁.setTop (entryFrame m #[(.int p0)] maxLocals)) t := fun t k => pre86 t (by
        show Steps p.tables e below (T85.setTop (mkF m 86 #[.val (.int p0), .val (.ref b1), .val (.int j6), .val (.int j10), .val (.int (1 : Int32)), .val (.int (1 : Int32)), .val (.int (2 : Int32)), .val (.int (2 : Int32))] [(.int j10)])) _
        refine XS.ifYes X85.here hx rfl (pc0 := 86) (pc' := 120) rfl (hb hby at_86) rfl ((if0 _ _).trans (teq hc87).1) (by decide) (by decide) ?_
        show Steps p.tables e below (T85.setTop (mkF m 120 #[.val (.int p0), .val (.ref b1), .val (.int j6), .val (.int j10), .val (.int (1 : Int32)), .val (.int (1 : Int32)), .val (.int (2 : Int32)), .val (.int (2 : Int32))] [])) _
        refine XS.aloadN X85.here hx rfl (hb hby at_120) rfl rfl ?_
        exact k)
      obtain ⟨cq89, kq89, q89a, q89b, q89c⟩ := isOf hZ rfl A1_85
      obtain ⟨_, _, ⟨T89, L89, k89, n89⟩, -, X89, ⟨Lc89, hQ89, l89, y89, z89⟩, st89⟩ := X85.virtualBack hx (y := (⟨"com/example/prune_to_fit/prunetofit/sat/Cnf", "variables", "()I"⟩ : MethodName)) (z := (⟨"com/example/prune_to_fit/prunetofit/sat/Cnf", "variables", "()I"⟩ : MethodName)) hown (mvT hZ (hw _ (List.mem_of_getElem? (i := 42) rfl))) (mvT hZ (hw _ (List.mem_of_getElem? (i := 43) rfl))) (notFace_of_selects (args := #[]) (mvT hZ (hw _ (List.mem_of_getElem? (i := 45) rfl)))) (mvT hZ (hw _ (List.mem_of_getElem? (i := 45) rfl))) (mvT hZ (hw _ (List.mem_of_getElem? (i := 44) rfl))) (by decide) (backOf (W := 0) (rm7 l Z aw hw [] b1 (2 : Int32) T85.heap n0 Z85 F85_a0_variables') hZ (hw _ (List.mem_of_getElem? (i := 46) rfl)) (hw _ (List.mem_of_getElem? (i := 2) rfl)) (by decide) (by decide)) q89a q89c (g := (mkF m 121 #[.val (.int p0), .val (.ref b1), .val (.int j6), .val (.int j10), .val (.int (1 : Int32)), .val (.int (1 : Int32)), .val (.int (2 : Int32)), .val (.int (2 : Int32))] [(.ref b1)])) rfl (by rw [hml]; rfl) (Steps.refl _) (argsL := []) (rest := []) (lenOf pd_1 rfl) rfl (by show 2 * 0 + _ ≤ _; exact Nat.le_of_eq rfl) (hb hby at_121) (fun _ _ => ⟨rfl, rfl, (by decide : 2 + 0 ≤ _), (by decide : 6 + 0 ≤ _)⟩)
      dsimp only [Pt.U, Pt.locs, Pt.cells, Pt.slots] at X89 l89 y89 z89 st89 hQ89
      subst l89 y89 z89
      obtain ⟨rfl, N89q, e89⟩ := hQ89
      have N89 := Fr.app N85 N89q
      have pre90 : ∀ t, Steps p.tables e below (T89.setTop (mkF m 151 #[.val (.int p0), .val (.ref b1), .val (.int j6), .val (.int j10), .val (.int (1 : Int32)), .val (.int (1 : Int32)), .val (.int (2 : Int32)), .val (.int (2 : Int32))] [(.ref b1)])) t → Steps p.tables e below (s₁.setTop (entryFrame m #[(.int p0)] maxLocals)) t := fun t k => pre88 t (by
        show Steps p.tables e below (T85.setTop (mkF m 121 #[.val (.int p0), .val (.ref b1), .val (.int j6), .val (.int j10), .val (.int (1 : Int32)), .val (.int (1 : Int32)), .val (.int (2 : Int32)), .val (.int (2 : Int32))] [(.ref b1)])) _
        refine st89.trans ?_
        show Steps p.tables e below (T89.setTop (mkF m 124 #[.val (.int p0), .val (.ref b1), .val (.int j6), .val (.int j10), .val (.int (1 : Int32)), .val (.int (1 : Int32)), .val (.int (2 : Int32)), .val (.int (2 : Int32))] [(.int (2 : Int32))])) _
        refine XS.istore X89.here hx rfl (hb hby at_124) rfl (l' := #[.val (.int p0), .val (.ref b1), .val (.int j6), .val (.int j10), .val (.int (1 : Int32)), .val (.int (1 : Int32)), .val (.int (2 : Int32)), .val (.int (2 : Int32))]) rfl ?_
        show Steps p.tables e below (T89.setTop (mkF m 126 #[.val (.int p0), .val (.ref b1), .val (.int j6), .val (.int j10), .val (.int (1 : Int32)), .val (.int (1 : Int32)), .val (.int (2 : Int32)), .val (.int (2 : Int32))] [])) _
        refine XS.iload X89.here hx rfl (hb hby at_126) rfl ?_
        show Steps p.tables e below (T89.setTop (mkF m 128 #[.val (.int p0), .val (.ref b1), .val (.int j6), .val (.int j10), .val (.int (1 : Int32)), .val (.int (1 : Int32)), .val (.int (2 : Int32)), .val (.int (2 : Int32))] [(.int (1 : Int32))])) _
        refine XS.ifNo X89.here hx rfl (hb hby at_128) rfl ((if0 _ _).trans (feq ((by decide) : ¬ ((1 : Int32) = (0 : Int32)))).1) ?_
        show Steps p.tables e below (T89.setTop (mkF m 131 #[.val (.int p0), .val (.ref b1), .val (.int j6), .val (.int j10), .val (.int (1 : Int32)), .val (.int (1 : Int32)), .val (.int (2 : Int32)), .val (.int (2 : Int32))] [])) _
        refine XS.iload X89.here hx rfl (hb hby at_131) rfl ?_
        show Steps p.tables e below (T89.setTop (mkF m 133 #[.val (.int p0), .val (.ref b1), .val (.int j6), .val (.int j10), .val (.int (1 : Int32)), .val (.int (1 : Int32)), .val (.int (2 : Int32)), .val (.int (2 : Int32))] [(.int (2 : Int32))])) _
        refine XS.iload X89.here hx rfl (hb hby at_133) rfl ?_
        show Steps p.tables e below (T89.setTop (mkF m 135 #[.val (.int p0), .val (.ref b1), .val (.int j6), .val (.int j10), .val (.int (1 : Int32)), .val (.int (1 : Int32)), .val (.int (2 : Int32)), .val (.int (2 : Int32))] [(.int (2 : Int32)), (.int (2 : Int32))])) _
        refine XS.icmpNo X89.here hx rfl (hb hby at_135) rfl (teq ((by decide) : (2 : Int32) = (2 : Int32))).2 ?_
        show Steps p.tables e below (T89.setTop (mkF m 138 #[.val (.int p0), .val (.ref b1), .val (.int j6), .val (.int j10), .val (.int (1 : Int32)), .val (.int (1 : Int32)), .val (.int (2 : Int32)), .val (.int (2 : Int32))] [])) _
        refine XS.iconst X89.here hx rfl (hb hby at_138) ?_
        show Steps p.tables e below (T89.setTop (mkF m 139 #[.val (.int p0), .val (.ref b1), .val (.int j6), .val (.int j10), .val (.int (1 : Int32)), .val (.int (1 : Int32)), .val (.int (2 : Int32)), .val (.int (2 : Int32))] [(.int (1 : Int32))])) _
        refine XS.goto X89.here hx rfl (pc0 := 139) (pc' := 143) rfl (hb hby at_139) (by decide) (by decide) ?_
        show Steps p.tables e below (T89.setTop (mkF m 143 #[.val (.int p0), .val (.ref b1), .val (.int j6), .val (.int j10), .val (.int (1 : Int32)), .val (.int (1 : Int32)), .val (.int (2 : Int32)), .val (.int (2 : Int32))] [(.int (1 : Int32))])) _
        refine XS.istore X89.here hx rfl (hb hby at_143) rfl (l' := #[.val (.int p0), .val (.ref b1), .val (.int j6), .val (.int j10), .val (.int (1 : Int32)), .val (.int (1 : Int32)), .val (.int (2 : Int32)), .val (.int (2 : Int32))]) rfl ?_
        show Steps p.tables e below (T89.setTop (mkF m 145 #[.val (.int p0), .val (.ref b1), .val (.int j6), .val (.int j10), .val (.int (1 : Int32)), .val (.int (1 : Int32)), .val (.int (2 : Int32)), .val (.int (2 : Int32))] [])) _
        refine XS.iload X89.here hx rfl (hb hby at_145) rfl ?_
        show Steps p.tables e below (T89.setTop (mkF m 147 #[.val (.int p0), .val (.ref b1), .val (.int j6), .val (.int j10), .val (.int (1 : Int32)), .val (.int (1 : Int32)), .val (.int (2 : Int32)), .val (.int (2 : Int32))] [(.int (1 : Int32))])) _
        refine XS.ifNo X89.here hx rfl (hb hby at_147) rfl ((if0 _ _).trans (feq ((by decide) : ¬ ((1 : Int32) = (0 : Int32)))).1) ?_
        show Steps p.tables e below (T89.setTop (mkF m 150 #[.val (.int p0), .val (.ref b1), .val (.int j6), .val (.int j10), .val (.int (1 : Int32)), .val (.int (1 : Int32)), .val (.int (2 : Int32)), .val (.int (2 : Int32))] [])) _
        refine XS.aloadN X89.here hx rfl (hb hby at_150) rfl rfl ?_
        exact k)
      obtain ⟨cq91, kq91, q91a, q91b, q91c⟩ := isOf hZ e89 A1_85
      obtain ⟨_, _, ⟨T91, L91, k91, n91⟩, -, X91, ⟨Lc91, hQ91, l91, y91, z91⟩, st91⟩ := X89.virtualBack hx (y := (⟨"com/example/prune_to_fit/prunetofit/sat/Cnf", "clauseCount", "()I"⟩ : MethodName)) (z := (⟨"com/example/prune_to_fit/prunetofit/sat/Cnf", "clauseCount", "()I"⟩ : MethodName)) hown (mvT hZ (hw _ (List.mem_of_getElem? (i := 47) rfl))) (mvT hZ (hw _ (List.mem_of_getElem? (i := 48) rfl))) (notFace_of_selects (args := #[]) (mvT hZ (hw _ (List.mem_of_getElem? (i := 50) rfl)))) (mvT hZ (hw _ (List.mem_of_getElem? (i := 50) rfl))) (mvT hZ (hw _ (List.mem_of_getElem? (i := 49) rfl))) (by decide) (backOf (W := 0) (rm8 l Z aw hw [] b1 b3 (0 : Int32) T85.heap n0 Z85 F85_a0_clauses' x3_3_85 x3_0_85) hZ (hw _ (List.mem_of_getElem? (i := 51) rfl)) (hw _ (List.mem_of_getElem? (i := 2) rfl)) (by decide) (by decide)) q91a q91c (g := (mkF m 151 #[.val (.int p0), .val (.ref b1), .val (.int j6), .val (.int j10), .val (.int (1 : Int32)), .val (.int (1 : Int32)), .val (.int (2 : Int32)), .val (.int (2 : Int32))] [(.ref b1)])) rfl (by rw [hml]; rfl) (Steps.refl _) (argsL := []) (rest := []) (lenOf pd_1 rfl) rfl (by show 2 * 0 + _ ≤ _; exact Nat.le_of_eq rfl) (hb hby at_151) (fun _ _ => ⟨rfl, e89, (by decide : 2 + 0 ≤ _), (by decide : 6 + 0 ≤ _)⟩)
      dsimp only [Pt.U, Pt.locs, Pt.cells, Pt.slots] at X91 l91 y91 z91 st91 hQ91
      subst l91 y91 z91
      obtain ⟨rfl, N91q, e91⟩ := hQ91
      have N91 := Fr.app N89 N91q
      have pre92 : ∀ t, Steps p.tables e below (T91.setTop (mkF m 154 #[.val (.int p0), .val (.ref b1), .val (.int j6), .val (.int j10), .val (.int (1 : Int32)), .val (.int (1 : Int32)), .val (.int (2 : Int32)), .val (.int (2 : Int32))] [(.int (f8 (0 : Int32)))])) t → Steps p.tables e below (s₁.setTop (entryFrame m #[(.int p0)] maxLocals)) t := fun t k => pre90 t (by
        show Steps p.tables e below (T89.setTop (mkF m 151 #[.val (.int p0), .val (.ref b1), .val (.int j6), .val (.int j10), .val (.int (1 : Int32)), .val (.int (1 : Int32)), .val (.int (2 : Int32)), .val (.int (2 : Int32))] [(.ref b1)])) _
        refine st91.trans ?_
        exact k)
      obtain ⟨T98, LjT98, j96, X98, N98, e98, hj96, pre97⟩ : ∃ (T98 : State) (LjT98 : List Loc) (j96 : Int32), Stand p l e room_1 s m #[(.int p0)] below meth c T98 LjT98 2 6 ∧ Fr n0 LjT98 ∧ T98.heap = T85.heap ∧ j96 = (if (f8 (0 : Int32)) = (0 : Int32) then (1 : Int32) else (0 : Int32)) ∧ ∀ t, Steps p.tables e below (T98.setTop (mkF m 169 #[.val (.int p0), .val (.ref b1), .val (.int j6), .val (.int j10), .val (.int (1 : Int32)), .val (.int (1 : Int32)), .val (.int (2 : Int32)), .val (.int (2 : Int32))] [(.int j96)])) t → Steps p.tables e below (s₁.setTop (entryFrame m #[(.int p0)] maxLocals)) t := by
        by_cases hc93 : (f8 (0 : Int32)) = (0 : Int32)
        · have pre94 : ∀ t, Steps p.tables e below (T91.setTop (mkF m 158 #[.val (.int p0), .val (.ref b1), .val (.int j6), .val (.int j10), .val (.int (1 : Int32)), .val (.int (1 : Int32)), .val (.int (2 : Int32)), .val (.int (2 : Int32))] [(.ref b1)])) t → Steps p.tables e below (s₁.setTop (entryFrame m #[(.int p0)] maxLocals)) t := fun t k => pre92 t (by
            show Steps p.tables e below (T91.setTop (mkF m 154 #[.val (.int p0), .val (.ref b1), .val (.int j6), .val (.int j10), .val (.int (1 : Int32)), .val (.int (1 : Int32)), .val (.int (2 : Int32)), .val (.int (2 : Int32))] [(.int (f8 (0 : Int32)))])) _
            refine XS.ifNo X91.here hx rfl (hb hby at_154) rfl ((if0 _ _).trans (teq hc93).2) ?_
            show Steps p.tables e below (T91.setTop (mkF m 157 #[.val (.int p0), .val (.ref b1), .val (.int j6), .val (.int j10), .val (.int (1 : Int32)), .val (.int (1 : Int32)), .val (.int (2 : Int32)), .val (.int (2 : Int32))] [])) _
            refine XS.aloadN X91.here hx rfl (hb hby at_157) rfl rfl ?_
            exact k)
          obtain ⟨cq95, kq95, q95a, q95b, q95c⟩ := isOf hZ e91 A1_85
          obtain ⟨_, _, ⟨T95, L95, k95, n95⟩, -, X95, ⟨Lc95, hQ95, l95, y95, z95⟩, st95⟩ := X91.virtualBack hx (y := (⟨"com/example/prune_to_fit/prunetofit/sat/Cnf", "literalCount", "()I"⟩ : MethodName)) (z := (⟨"com/example/prune_to_fit/prunetofit/sat/Cnf", "literalCount", "()I"⟩ : MethodName)) hown (mvT hZ (hw _ (List.mem_of_getElem? (i := 63) rfl))) (mvT hZ (hw _ (List.mem_of_getElem? (i := 64) rfl))) (notFace_of_selects (args := #[]) (mvT hZ (hw _ (List.mem_of_getElem? (i := 66) rfl)))) (mvT hZ (hw _ (List.mem_of_getElem? (i := 66) rfl))) (mvT hZ (hw _ (List.mem_of_getElem? (i := 65) rfl))) (by decide) (backOf (W := 0) (rm10 l Z aw hw [] b1 (0 : Int32) T85.heap n0 Z85 F85_a0_literals') hZ (hw _ (List.mem_of_getElem? (i := 67) rfl)) (hw _ (List.mem_of_getElem? (i := 2) rfl)) (by decide) (by decide)) q95a q95c (g := (mkF m 158 #[.val (.int p0), .val (.ref b1), .val (.int j6), .val (.int j10), .val (.int (1 : Int32)), .val (.int (1 : Int32)), .val (.int (2 : Int32)), .val (.int (2 : Int32))] [(.ref b1)])) rfl (by rw [hml]; rfl) (Steps.refl _) (argsL := []) (rest := []) (lenOf pd_1 rfl) rfl (by show 2 * 0 + _ ≤ _; exact Nat.le_of_eq rfl) (hb hby at_158) (fun _ _ => ⟨rfl, e91, (by decide : 2 + 0 ≤ _), (by decide : 6 + 0 ≤ _)⟩)
          dsimp only [Pt.U, Pt.locs, Pt.cells, Pt.slots] at X95 l95 y95 z95 st95 hQ95
          subst l95 y95 z95
          obtain ⟨rfl, N95q, e95⟩ := hQ95
          have N95 := Fr.app N91 N95q
          exact ⟨_, _, (1 : Int32), X95, N95, e95, (by rw [if_pos hc93]), fun t k => pre94 t (by
            show Steps p.tables e below (T91.setTop (mkF m 158 #[.val (.int p0), .val (.ref b1), .val (.int j6), .val (.int j10), .val (.int (1 : Int32)), .val (.int (1 : Int32)), .val (.int (2 : Int32)), .val (.int (2 : Int32))] [(.ref b1)])) _
            refine st95.trans ?_
            show Steps p.tables e below (T95.setTop (mkF m 161 #[.val (.int p0), .val (.ref b1), .val (.int j6), .val (.int j10), .val (.int (1 : Int32)), .val (.int (1 : Int32)), .val (.int (2 : Int32)), .val (.int (2 : Int32))] [(.int (0 : Int32))])) _
            refine XS.ifNo X95.here hx rfl (hb hby at_161) rfl ((if0 _ _).trans (teq ((by decide) : (0 : Int32) = (0 : Int32))).2) ?_
            show Steps p.tables e below (T95.setTop (mkF m 164 #[.val (.int p0), .val (.ref b1), .val (.int j6), .val (.int j10), .val (.int (1 : Int32)), .val (.int (1 : Int32)), .val (.int (2 : Int32)), .val (.int (2 : Int32))] [])) _
            refine XS.iconst X95.here hx rfl (hb hby at_164) ?_
            show Steps p.tables e below (T95.setTop (mkF m 165 #[.val (.int p0), .val (.ref b1), .val (.int j6), .val (.int j10), .val (.int (1 : Int32)), .val (.int (1 : Int32)), .val (.int (2 : Int32)), .val (.int (2 : Int32))] [(.int (1 : Int32))])) _
            refine XS.goto X95.here hx rfl (pc0 := 165) (pc' := 169) rfl (hb hby at_165) (by decide) (by decide) ?_
            exact k)⟩
        · exact ⟨_, _, (0 : Int32), X91, N91, e91, (by rw [if_neg hc93]), fun t k => pre92 t (by
            show Steps p.tables e below (T91.setTop (mkF m 154 #[.val (.int p0), .val (.ref b1), .val (.int j6), .val (.int j10), .val (.int (1 : Int32)), .val (.int (1 : Int32)), .val (.int (2 : Int32)), .val (.int (2 : Int32))] [(.int (f8 (0 : Int32)))])) _
            refine XS.ifYes X91.here hx rfl (pc0 := 154) (pc' := 168) rfl (hb hby at_154) rfl ((if0 _ _).trans (feq hc93).2) (by decide) (by decide) ?_
            show Steps p.tables e below (T91.setTop (mkF m 168 #[.val (.int p0), .val (.ref b1), .val (.int j6), .val (.int j10), .val (.int (1 : Int32)), .val (.int (1 : Int32)), .val (.int (2 : Int32)), .val (.int (2 : Int32))] [])) _
            refine XS.iconst X91.here hx rfl (hb hby at_168) ?_
            exact k)⟩
      have pre99 : ∀ t, Steps p.tables e below (T98.setTop (mkF m 173 #[.val (.int p0), .val (.ref b1), .val (.int j6), .val (.int j10), .val (.int (1 : Int32)), .val (.int j96), .val (.int (2 : Int32)), .val (.int (2 : Int32))] [(.int j96)])) t → Steps p.tables e below (s₁.setTop (entryFrame m #[(.int p0)] maxLocals)) t := fun t k => pre97 t (by
        show Steps p.tables e below (T98.setTop (mkF m 169 #[.val (.int p0), .val (.ref b1), .val (.int j6), .val (.int j10), .val (.int (1 : Int32)), .val (.int (1 : Int32)), .val (.int (2 : Int32)), .val (.int (2 : Int32))] [(.int j96)])) _
        refine XS.istore X98.here hx rfl (hb hby at_169) rfl (l' := #[.val (.int p0), .val (.ref b1), .val (.int j6), .val (.int j10), .val (.int (1 : Int32)), .val (.int j96), .val (.int (2 : Int32)), .val (.int (2 : Int32))]) rfl ?_
        show Steps p.tables e below (T98.setTop (mkF m 171 #[.val (.int p0), .val (.ref b1), .val (.int j6), .val (.int j10), .val (.int (1 : Int32)), .val (.int j96), .val (.int (2 : Int32)), .val (.int (2 : Int32))] [])) _
        refine XS.iload X98.here hx rfl (hb hby at_171) rfl ?_
        exact k)
      by_cases hc100 : j96 = (0 : Int32)
      · obtain ⟨fs, hr, hrun, hended, hW, hsame⟩ := X98.leave (v := some (.int (0 : Int32))) (fun h => by rw [Bd.returns] at h; cases h)
        refine ⟨_, _, pre99 _ ?_, hrun, hended, _, _, rfl, ?_, ⟨_, rfl⟩, hW, hsame.mono (by decide) (by decide)⟩
        · show Steps p.tables e below (T98.setTop (mkF m 173 #[.val (.int p0), .val (.ref b1), .val (.int j6), .val (.int j10), .val (.int (1 : Int32)), .val (.int j96), .val (.int (2 : Int32)), .val (.int (2 : Int32))] [(.int j96)])) _
          refine XS.ifNo X98.here hx rfl (hb hby at_173) rfl ((if0 _ _).trans (teq hc100).2) ?_
          show Steps p.tables e below (T98.setTop (mkF m 176 #[.val (.int p0), .val (.ref b1), .val (.int j6), .val (.int j10), .val (.int (1 : Int32)), .val (.int j96), .val (.int (2 : Int32)), .val (.int (2 : Int32))] [])) _
          refine XS.iconst X98.here hx rfl (hb hby at_176) ?_
          show Steps p.tables e below (T98.setTop (mkF m 177 #[.val (.int p0), .val (.ref b1), .val (.int j6), .val (.int j10), .val (.int (1 : Int32)), .val (.int j96), .val (.int (2 : Int32)), .val (.int (2 : Int32))] [(.int (0 : Int32))])) _
          exact retN X98 hx (t := .boolean) Bd.returns (by simp) (hb hby at_177) hr
        · show Q0 Z p0 w_DEFAULTCAPACITY_EMPTY_ELEMENTDATA ka_D h0 n0 _ T98.heap _
          rw [e98]
          have hv : (0 : Int32) = f0 p0 := (by subst hj96 hj10 hj6; simp only [f0, if_neg hc15, if_pos hc87, if_pos hc100])
          exact ⟨congrArg (fun z => some (Value.int z)) (hv.trans hlaw), N98⟩
      · have pre101 : ∀ t, Steps p.tables e below (T98.setTop (mkF m 180 #[.val (.int p0), .val (.ref b1), .val (.int j6), .val (.int j10), .val (.int (1 : Int32)), .val (.int j96), .val (.int (2 : Int32)), .val (.int (2 : Int32))] [(.int (2 : Int32)), (.ref b1)])) t → Steps p.tables e below (s₁.setTop (entryFrame m #[(.int p0)] maxLocals)) t := fun t k => pre99 t (by
          show Steps p.tables e below (T98.setTop (mkF m 173 #[.val (.int p0), .val (.ref b1), .val (.int j6), .val (.int j10), .val (.int (1 : Int32)), .val (.int j96), .val (.int (2 : Int32)), .val (.int (2 : Int32))] [(.int j96)])) _
          refine XS.ifYes X98.here hx rfl (pc0 := 173) (pc' := 178) rfl (hb hby at_173) rfl ((if0 _ _).trans (feq hc100).2) (by decide) (by decide) ?_
          show Steps p.tables e below (T98.setTop (mkF m 178 #[.val (.int p0), .val (.ref b1), .val (.int j6), .val (.int j10), .val (.int (1 : Int32)), .val (.int j96), .val (.int (2 : Int32)), .val (.int (2 : Int32))] [])) _
          refine XS.aloadN X98.here hx rfl (hb hby at_178) rfl rfl ?_
          show Steps p.tables e below (T98.setTop (mkF m 179 #[.val (.int p0), .val (.ref b1), .val (.int j6), .val (.int j10), .val (.int (1 : Int32)), .val (.int j96), .val (.int (2 : Int32)), .val (.int (2 : Int32))] [(.ref b1)])) _
          refine XS.iconst X98.here hx rfl (hb hby at_179) ?_
          exact k)
        obtain ⟨T102, h102, k102, X102, e102, E102, A102, Y102, st102⟩ := newPE X98 hx hZ (hw _ (List.mem_of_getElem? (i := 70) rfl)) e98 (g := (mkF m 180 #[.val (.int p0), .val (.ref b1), .val (.int j6), .val (.int j10), .val (.int (1 : Int32)), .val (.int j96), .val (.int (2 : Int32)), .val (.int (2 : Int32))] [(.int (2 : Int32)), (.ref b1)])) rfl (hb hby at_180) rfl (by decide) (cap := 2) (by decide) (by decide) (by decide) (by decide) (ad := "[I") (by decide)
        obtain ⟨b102, g102⟩ : ∃ z, z = T85.heap.size := ⟨_, rfl⟩
        have ne_b1_b102 : b1 ≠ b102 := Nat.ne_of_lt (Nat.lt_of_lt_of_le A1_85.lt (Nat.le_of_eq g102.symm))
        have ne_b3_b102 : b3 ≠ b102 := Nat.ne_of_lt (Nat.lt_of_lt_of_le x3_0_85.lt (Nat.le_of_eq g102.symm))
        have ne_w_DEFAULTCAPACITY_EMPTY_ELEMENTDATA_b102 : w_DEFAULTCAPACITY_EMPTY_ELEMENTDATA ≠ b102 := Nat.ne_of_lt (Nat.lt_of_lt_of_le V_w_DEFAULTCAPACITY_EMPTY_ELEMENTDATA_85.lt (Nat.le_of_eq g102.symm))
        have g_b102 : n0 ≤ b102 := Nat.le_trans Z85 (Nat.le_of_eq g102.symm)
        have sz_b102 : h0.size ≤ b102 := Nat.le_trans K85.1 (Nat.le_of_eq g102.symm)
        rw [← g102] at A102 st102 Y102
        have S_DEFAULTCAPACITY_EMPTY_ELEMENTDATA_102 := S_DEFAULTCAPACITY_EMPTY_ELEMENTDATA_85.ext E102
        have V_w_DEFAULTCAPACITY_EMPTY_ELEMENTDATA_102 := V_w_DEFAULTCAPACITY_EMPTY_ELEMENTDATA_85.ext E102
        have A1_102 := A1_85.ext E102
        have F85_a0_clauses'_102 := F85_a0_clauses'.ext E102
        have F85_a0_variables'_102 := F85_a0_variables'.ext E102
        have F85_a0_literals'_102 := F85_a0_literals'.ext E102
        have x3_0_102 := x3_0_85.ext E102
        have x3_1_102 := x3_1_85.ext E102
        have x3_2_102 := x3_2_85.ext E102
        have x3_3_102 := x3_3_85.ext E102
        have K102 : Keep h0 h102 [] := K85.ext E102
        have Z102 : n0 ≤ h102.size := Nat.le_trans Z85 E102.1
        have V_b102 : Arv Z h102 b102 k102 .int (2 : Int32) [(.int (0 : Int32)), (.int (0 : Int32))] (.int (0 : Int32)) := (Arv.new A102 (by decide)).pad (pad_rep [] (.int (0 : Int32)) 2)
        have pre103 : ∀ t, Steps p.tables e below (T102.setTop (mkF m 186 #[.val (.int p0), .val (.ref b1), .val (.int j6), .val (.int j10), .val (.int (1 : Int32)), .val (.int j96), .val (.int (2 : Int32)), .val (.int (2 : Int32))] [(.int (2 : Int32)), (.int (0 : Int32)), (.ref b102), (.ref b102), (.ref b1)])) t → Steps p.tables e below (s₁.setTop (entryFrame m #[(.int p0)] maxLocals)) t := fun t k => pre101 t (by
          show Steps p.tables e below (T98.setTop (mkF m 180 #[.val (.int p0), .val (.ref b1), .val (.int j6), .val (.int j10), .val (.int (1 : Int32)), .val (.int j96), .val (.int (2 : Int32)), .val (.int (2 : Int32))] [(.int (2 : Int32)), (.ref b1)])) _
          refine st102 _ ?_
          show Steps p.tables e below (T102.setTop (mkF m 182 #[.val (.int p0), .val (.ref b1), .val (.int j6), .val (.int j10), .val (.int (1 : Int32)), .val (.int j96), .val (.int (2 : Int32)), .val (.int (2 : Int32))] [(.ref b102), (.ref b1)])) _
          refine XS.dup X102.here hx rfl (hb hby at_182) rfl rfl ?_
          show Steps p.tables e below (T102.setTop (mkF m 183 #[.val (.int p0), .val (.ref b1), .val (.int j6), .val (.int j10), .val (.int (1 : Int32)), .val (.int j96), .val (.int (2 : Int32)), .val (.int (2 : Int32))] [(.ref b102), (.ref b102), (.ref b1)])) _
          refine XS.iconst X102.here hx rfl (hb hby at_183) ?_
          show Steps p.tables e below (T102.setTop (mkF m 184 #[.val (.int p0), .val (.ref b1), .val (.int j6), .val (.int j10), .val (.int (1 : Int32)), .val (.int j96), .val (.int (2 : Int32)), .val (.int (2 : Int32))] [(.int (0 : Int32)), (.ref b102), (.ref b102), (.ref b1)])) _
          refine XS.iload X102.here hx rfl (hb hby at_184) rfl ?_
          exact k)
        obtain ⟨cl104, Ar104, q104, S104, M104, H104, G104⟩ := id V_b102
        have hin104 : ¬ ((0 : Int32) < 0 ∨ cl104.slots.size ≤ ((0 : Int32)).toNatClampNeg) := inb_of S104 ⟨by decide, by decide⟩
        obtain ⟨T104, h104, X104, e104, W104, st104⟩ := stI X102 hx hZ e102 Ar104 (j := (0 : Int32)) hin104 (g := (mkF m 186 #[.val (.int p0), .val (.ref b1), .val (.int j6), .val (.int j10), .val (.int (1 : Int32)), .val (.int j96), .val (.int (2 : Int32)), .val (.int (2 : Int32))] [(.int (2 : Int32)), (.int (0 : Int32)), (.ref b102), (.ref b102), (.ref b1)])) rfl rfl (hb hby at_186)
        have V_b102_104 : Arv Z h104 b102 k102 .int (2 : Int32) [(.int (2 : Int32)), (.int (0 : Int32))] (.int (0 : Int32)) := Arv.set Ar104 q104 S104 M104 H104 G104 rfl W104 0 rfl (Nat.le_of_ble_eq_true rfl)
        have S_DEFAULTCAPACITY_EMPTY_ELEMENTDATA_104 := S_DEFAULTCAPACITY_EMPTY_ELEMENTDATA_102.wr W104
        have V_w_DEFAULTCAPACITY_EMPTY_ELEMENTDATA_104 := V_w_DEFAULTCAPACITY_EMPTY_ELEMENTDATA_102.other W104 ne_w_DEFAULTCAPACITY_EMPTY_ELEMENTDATA_b102
        have A1_104 := A1_102.wr W104
        have F85_a0_clauses'_104 := F85_a0_clauses'_102.other W104 (Or.inl ne_b1_b102)
        have F85_a0_variables'_104 := F85_a0_variables'_102.other W104 (Or.inl ne_b1_b102)
        have F85_a0_literals'_104 := F85_a0_literals'_102.other W104 (Or.inl ne_b1_b102)
        have x3_0_104 := x3_0_102.wr W104
        have x3_1_104 := x3_1_102.other W104 (Or.inl ne_b3_b102)
        have x3_2_104 := x3_2_102.other W104 (Or.inl ne_b3_b102)
        have x3_3_104 := x3_3_102.other W104 (Or.inl ne_b3_b102)
        have Y102_104 := Y102.wr W104
        have K104 : Keep h0 h104 [] := K102.wr W104 (Or.inr sz_b102)
        have N104 := Fr.snoc X104 N98 g_b102
        have Z104 : n0 ≤ h104.size := Nat.le_trans Z102 (Nat.le_of_eq W104.size.symm)
        have pre105 : ∀ t, Steps p.tables e below (T104.setTop (mkF m 192 #[.val (.int p0), .val (.ref b1), .val (.int j6), .val (.int j10), .val (.int (1 : Int32)), .val (.int j96), .val (.int (2 : Int32)), .val (.int (2 : Int32))] [(.int (-2 : Int32)), (.int (1 : Int32)), (.ref b102), (.ref b102), (.ref b1)])) t → Steps p.tables e below (s₁.setTop (entryFrame m #[(.int p0)] maxLocals)) t := fun t k => pre103 t (by
          show Steps p.tables e below (T102.setTop (mkF m 186 #[.val (.int p0), .val (.ref b1), .val (.int j6), .val (.int j10), .val (.int (1 : Int32)), .val (.int j96), .val (.int (2 : Int32)), .val (.int (2 : Int32))] [(.int (2 : Int32)), (.int (0 : Int32)), (.ref b102), (.ref b102), (.ref b1)])) _
          refine st104 _ ?_
          show Steps p.tables e below (T104.setTop (mkF m 187 #[.val (.int p0), .val (.ref b1), .val (.int j6), .val (.int j10), .val (.int (1 : Int32)), .val (.int j96), .val (.int (2 : Int32)), .val (.int (2 : Int32))] [(.ref b102), (.ref b1)])) _
          refine XS.dup X104.here hx rfl (hb hby at_187) rfl rfl ?_
          show Steps p.tables e below (T104.setTop (mkF m 188 #[.val (.int p0), .val (.ref b1), .val (.int j6), .val (.int j10), .val (.int (1 : Int32)), .val (.int j96), .val (.int (2 : Int32)), .val (.int (2 : Int32))] [(.ref b102), (.ref b102), (.ref b1)])) _
          refine XS.iconst X104.here hx rfl (hb hby at_188) ?_
          show Steps p.tables e below (T104.setTop (mkF m 189 #[.val (.int p0), .val (.ref b1), .val (.int j6), .val (.int j10), .val (.int (1 : Int32)), .val (.int j96), .val (.int (2 : Int32)), .val (.int (2 : Int32))] [(.int (1 : Int32)), (.ref b102), (.ref b102), (.ref b1)])) _
          refine XS.iload X104.here hx rfl (hb hby at_189) rfl ?_
          show Steps p.tables e below (T104.setTop (mkF m 191 #[.val (.int p0), .val (.ref b1), .val (.int j6), .val (.int j10), .val (.int (1 : Int32)), .val (.int j96), .val (.int (2 : Int32)), .val (.int (2 : Int32))] [(.int (2 : Int32)), (.int (1 : Int32)), (.ref b102), (.ref b102), (.ref b1)])) _
          refine XS.ineg X104.here hx rfl (hb hby at_191) rfl ?_
          exact k)
        obtain ⟨cl106, Ar106, q106, S106, M106, H106, G106⟩ := id V_b102_104
        have hin106 : ¬ ((1 : Int32) < 0 ∨ cl106.slots.size ≤ ((1 : Int32)).toNatClampNeg) := inb_of S106 ⟨by decide, by decide⟩
        obtain ⟨T106, h106, X106, e106, W106, st106⟩ := stI X104 hx hZ e104 Ar106 (j := (1 : Int32)) hin106 (g := (mkF m 192 #[.val (.int p0), .val (.ref b1), .val (.int j6), .val (.int j10), .val (.int (1 : Int32)), .val (.int j96), .val (.int (2 : Int32)), .val (.int (2 : Int32))] [(.int (-2 : Int32)), (.int (1 : Int32)), (.ref b102), (.ref b102), (.ref b1)])) rfl rfl (hb hby at_192)
        have V_b102_106 : Arv Z h106 b102 k102 .int (2 : Int32) [(.int (2 : Int32)), (.int (-2 : Int32))] (.int (0 : Int32)) := Arv.set Ar106 q106 S106 M106 H106 G106 rfl W106 1 rfl (Nat.le_of_ble_eq_true rfl)
        have S_DEFAULTCAPACITY_EMPTY_ELEMENTDATA_106 := S_DEFAULTCAPACITY_EMPTY_ELEMENTDATA_104.wr W106
        have V_w_DEFAULTCAPACITY_EMPTY_ELEMENTDATA_106 := V_w_DEFAULTCAPACITY_EMPTY_ELEMENTDATA_104.other W106 ne_w_DEFAULTCAPACITY_EMPTY_ELEMENTDATA_b102
        have A1_106 := A1_104.wr W106
        have F85_a0_clauses'_106 := F85_a0_clauses'_104.other W106 (Or.inl ne_b1_b102)
        have F85_a0_variables'_106 := F85_a0_variables'_104.other W106 (Or.inl ne_b1_b102)
        have F85_a0_literals'_106 := F85_a0_literals'_104.other W106 (Or.inl ne_b1_b102)
        have x3_0_106 := x3_0_104.wr W106
        have x3_1_106 := x3_1_104.other W106 (Or.inl ne_b3_b102)
        have x3_2_106 := x3_2_104.other W106 (Or.inl ne_b3_b102)
        have x3_3_106 := x3_3_104.other W106 (Or.inl ne_b3_b102)
        have Y102_106 := Y102_104.wr W106
        have K106 : Keep h0 h106 [] := K104.wr W106 (Or.inr sz_b102)
        have N106 := Fr.snoc X106 N104 g_b102
        have Z106 : n0 ≤ h106.size := Nat.le_trans Z104 (Nat.le_of_eq W106.size.symm)
        have pre107 : ∀ t, Steps p.tables e below (T106.setTop (mkF m 193 #[.val (.int p0), .val (.ref b1), .val (.int j6), .val (.int j10), .val (.int (1 : Int32)), .val (.int j96), .val (.int (2 : Int32)), .val (.int (2 : Int32))] [(.ref b102), (.ref b1)])) t → Steps p.tables e below (s₁.setTop (entryFrame m #[(.int p0)] maxLocals)) t := fun t k => pre105 t (by
          show Steps p.tables e below (T104.setTop (mkF m 192 #[.val (.int p0), .val (.ref b1), .val (.int j6), .val (.int j10), .val (.int (1 : Int32)), .val (.int j96), .val (.int (2 : Int32)), .val (.int (2 : Int32))] [(.int (-2 : Int32)), (.int (1 : Int32)), (.ref b102), (.ref b102), (.ref b1)])) _
          refine st106 _ ?_
          exact k)
        obtain ⟨cq108, kq108, q108a, q108b, q108c⟩ := isOf hZ e106 A1_106
        obtain ⟨_, _, ⟨T108, L108, k108, n108⟩, -, X108, ⟨Lc108, hQ108, l108, y108, z108⟩, st108⟩ := X106.virtualBack hx (y := (⟨"com/example/prune_to_fit/prunetofit/sat/Cnf", "add", "([I)V"⟩ : MethodName)) (z := (⟨"com/example/prune_to_fit/prunetofit/sat/Cnf", "add", "([I)V"⟩ : MethodName)) hown (mvT hZ (hw _ (List.mem_of_getElem? (i := 71) rfl))) (mvT hZ (hw _ (List.mem_of_getElem? (i := 72) rfl))) (notFace_of_selects (args := #[]) (mvT hZ (hw _ (List.mem_of_getElem? (i := 74) rfl)))) (mvT hZ (hw _ (List.mem_of_getElem? (i := 74) rfl))) (mvT hZ (hw _ (List.mem_of_getElem? (i := 73) rfl))) (by decide) (backOf (W := 0) (rm11 l Z aw hw [] b1 b102 (2 : Int32) k102 (0 : Int32) b3 w_DEFAULTCAPACITY_EMPTY_ELEMENTDATA ka_D (0 : Int32) h106 n0 Z106 (by decide) F85_a0_variables'_106 V_b102_106 A1_106 F85_a0_literals'_106 F85_a0_clauses'_106 S_DEFAULTCAPACITY_EMPTY_ELEMENTDATA_106 V_w_DEFAULTCAPACITY_EMPTY_ELEMENTDATA_106 x3_0_106 x3_2_106 x3_3_106 x3_1_106 g_b3 ne_w_DEFAULTCAPACITY_EMPTY_ELEMENTDATA_b3 ne_b1_b3 (Ne.symm ne_b3_b102) g_b1 (Ne.symm ne_b1_b102) ne_w_DEFAULTCAPACITY_EMPTY_ELEMENTDATA_b1) hZ (hw _ (List.mem_of_getElem? (i := 75) rfl)) (hw _ (List.mem_of_getElem? (i := 2) rfl)) (by decide) (by decide)) q108a q108c (g := (mkF m 193 #[.val (.int p0), .val (.ref b1), .val (.int j6), .val (.int j10), .val (.int (1 : Int32)), .val (.int j96), .val (.int (2 : Int32)), .val (.int (2 : Int32))] [(.ref b102), (.ref b1)])) rfl (by rw [hml]; rfl) (Steps.refl _) (argsL := [(.ref b102)]) (rest := []) (lenOf pd_2 rfl) rfl (by show 2 * 0 + _ ≤ _; exact Nat.le_of_eq rfl) (hb hby at_193) (fun _ _ => ⟨rfl, e106, (by decide : 3 + 3 ≤ _), (by decide : 8 + 14 ≤ _)⟩)
        dsimp only [Pt.U, Pt.locs, Pt.cells, Pt.slots] at X108 l108 y108 z108 st108 hQ108
        subst l108 y108 z108
        obtain ⟨rfl, N108q, K108q, E108_w_clauses_a0, E108_a0, F108_w_clauses_a0_size, F108_a0_variables, F108_a0_literals, F108_a0_clauses⟩ := hQ108
        have N108 := Fr.app N106 N108q
        have S_DEFAULTCAPACITY_EMPTY_ELEMENTDATA_108 := own_sta_keep S_DEFAULTCAPACITY_EMPTY_ELEMENTDATA_106 K108q (allS (own_exa_plain x3_0_106) (allS (own_exa_plain A1_106) all0))
        have V_w_DEFAULTCAPACITY_EMPTY_ELEMENTDATA_108 := V_w_DEFAULTCAPACITY_EMPTY_ELEMENTDATA_106.keep K108q (ninS ne_w_DEFAULTCAPACITY_EMPTY_ELEMENTDATA_b3 (ninS ne_w_DEFAULTCAPACITY_EMPTY_ELEMENTDATA_b1 nin0))
        have A1_108 := A1_106.keep K108q
        have x3_0_108 := x3_0_106.keep K108q
        have Y102_108 := Y102_106.keep K108q
        have V_b102_106_108 := V_b102_106.keep K108q (ninS (Ne.symm ne_b3_b102) (ninS (Ne.symm ne_b1_b102) nin0))
        have F108_w_clauses_a0_size' : Fld Z T108.heap b3 "java/util/ArrayList" "size" "I" (.int (1 : Int32)) := F108_w_clauses_a0_size
        have F108_a0_variables' : Fld Z T108.heap b1 "com/example/prune_to_fit/prunetofit/sat/Cnf" "variables" "I" (.int (2 : Int32)) := F108_a0_variables
        have F108_a0_literals' : Fld Z T108.heap b1 "com/example/prune_to_fit/prunetofit/sat/Cnf" "literals" "I" (.int (2 : Int32)) := F108_a0_literals
        have F108_a0_clauses' : Fld Z T108.heap b1 "com/example/prune_to_fit/prunetofit/sat/Cnf" "clauses" "Ljava/util/List;" (.ref b3) := F108_a0_clauses
        have K108 : Keep h0 T108.heap [] := K106.trans K108q (allS (Or.inr sz_b3) (allS (Or.inr sz_b1) all0))
        have Z108 : n0 ≤ T108.heap.size := Nat.le_trans Z106 K108q.1
        have pre109 : ∀ t, Steps p.tables e below (T108.setTop (mkF m 197 #[.val (.int p0), .val (.ref b1), .val (.int j6), .val (.int j10), .val (.int (1 : Int32)), .val (.int j96), .val (.int (2 : Int32)), .val (.int (2 : Int32))] [(.ref b1)])) t → Steps p.tables e below (s₁.setTop (entryFrame m #[(.int p0)] maxLocals)) t := fun t k => pre107 t (by
          show Steps p.tables e below (T106.setTop (mkF m 193 #[.val (.int p0), .val (.ref b1), .val (.int j6), .val (.int j10), .val (.int (1 : Int32)), .val (.int j96), .val (.int (2 : Int32)), .val (.int (2 : Int32))] [(.ref b102), (.ref b1)])) _
          refine st108.trans ?_
          show Steps p.tables e below (T108.setTop (mkF m 196 #[.val (.int p0), .val (.ref b1), .val (.int j6), .val (.int j10), .val (.int (1 : Int32)), .val (.int j96), .val (.int (2 : Int32)), .val (.int (2 : Int32))] [])) _
          refine XS.aloadN X108.here hx rfl (hb hby at_196) rfl rfl ?_
          exact k)
        obtain ⟨cq110, kq110, q110a, q110b, q110c⟩ := isOf hZ rfl A1_108
        obtain ⟨_, _, ⟨T110, L110, k110, n110⟩, -, X110, ⟨Lc110, hQ110, l110, y110, z110⟩, st110⟩ := X108.virtualBack hx (y := (⟨"com/example/prune_to_fit/prunetofit/sat/Cnf", "clauseCount", "()I"⟩ : MethodName)) (z := (⟨"com/example/prune_to_fit/prunetofit/sat/Cnf", "clauseCount", "()I"⟩ : MethodName)) hown (mvT hZ (hw _ (List.mem_of_getElem? (i := 47) rfl))) (mvT hZ (hw _ (List.mem_of_getElem? (i := 48) rfl))) (notFace_of_selects (args := #[]) (mvT hZ (hw _ (List.mem_of_getElem? (i := 50) rfl)))) (mvT hZ (hw _ (List.mem_of_getElem? (i := 50) rfl))) (mvT hZ (hw _ (List.mem_of_getElem? (i := 49) rfl))) (by decide) (backOf (W := 0) (rm8 l Z aw hw [] b1 b3 (1 : Int32) T108.heap n0 Z108 F108_a0_clauses' F108_w_clauses_a0_size' x3_0_108) hZ (hw _ (List.mem_of_getElem? (i := 51) rfl)) (hw _ (List.mem_of_getElem? (i := 2) rfl)) (by decide) (by decide)) q110a q110c (g := (mkF m 197 #[.val (.int p0), .val (.ref b1), .val (.int j6), .val (.int j10), .val (.int (1 : Int32)), .val (.int j96), .val (.int (2 : Int32)), .val (.int (2 : Int32))] [(.ref b1)])) rfl (by rw [hml]; rfl) (Steps.refl _) (argsL := []) (rest := []) (lenOf pd_1 rfl) rfl (by show 2 * 0 + _ ≤ _; exact Nat.le_of_eq rfl) (hb hby at_197) (fun _ _ => ⟨rfl, rfl, (by decide : 6 + 0 ≤ _), (by decide : 22 + 0 ≤ _)⟩)
        dsimp only [Pt.U, Pt.locs, Pt.cells, Pt.slots] at X110 l110 y110 z110 st110 hQ110
        subst l110 y110 z110
        obtain ⟨rfl, N110q, e110⟩ := hQ110
        have N110 := Fr.app N108 N110q
        have pre111 : ∀ t, Steps p.tables e below (T110.setTop (mkF m 201 #[.val (.int p0), .val (.ref b1), .val (.int j6), .val (.int j10), .val (.int (1 : Int32)), .val (.int j96), .val (.int (2 : Int32)), .val (.int (2 : Int32))] [(.int (1 : Int32)), (.int (f8 (1 : Int32)))])) t → Steps p.tables e below (s₁.setTop (entryFrame m #[(.int p0)] maxLocals)) t := fun t k => pre109 t (by
          show Steps p.tables e below (T108.setTop (mkF m 197 #[.val (.int p0), .val (.ref b1), .val (.int j6), .val (.int j10), .val (.int (1 : Int32)), .val (.int j96), .val (.int (2 : Int32)), .val (.int (2 : Int32))] [(.ref b1)])) _
          refine st110.trans ?_
          show Steps p.tables e below (T110.setTop (mkF m 200 #[.val (.int p0), .val (.ref b1), .val (.int j6), .val (.int j10), .val (.int (1 : Int32)), .val (.int j96), .val (.int (2 : Int32)), .val (.int (2 : Int32))] [(.int (f8 (1 : Int32)))])) _
          refine XS.iconst X110.here hx rfl (hb hby at_200) ?_
          exact k)
        obtain ⟨T119, LjT119, j117, X119, N119, e119, hj117, pre118⟩ : ∃ (T119 : State) (LjT119 : List Loc) (j117 : Int32), Stand p l e room_1 s m #[(.int p0)] below meth c T119 LjT119 6 22 ∧ Fr n0 LjT119 ∧ T119.heap = T108.heap ∧ j117 = (if (f8 (1 : Int32)) = (1 : Int32) then (1 : Int32) else (0 : Int32)) ∧ ∀ t, Steps p.tables e below (T119.setTop (mkF m 226 #[.val (.int p0), .val (.ref b1), .val (.int j6), .val (.int j10), .val (.int (1 : Int32)), .val (.int j96), .val (.int (2 : Int32)), .val (.int (2 : Int32))] [(.int j117)])) t → Steps p.tables e below (s₁.setTop (entryFrame m #[(.int p0)] maxLocals)) t := by
          by_cases hc112 : (f8 (1 : Int32)) = (1 : Int32)
          · have pre113 : ∀ t, Steps p.tables e below (T110.setTop (mkF m 205 #[.val (.int p0), .val (.ref b1), .val (.int j6), .val (.int j10), .val (.int (1 : Int32)), .val (.int j96), .val (.int (2 : Int32)), .val (.int (2 : Int32))] [(.ref b1)])) t → Steps p.tables e below (s₁.setTop (entryFrame m #[(.int p0)] maxLocals)) t := fun t k => pre111 t (by
              show Steps p.tables e below (T110.setTop (mkF m 201 #[.val (.int p0), .val (.ref b1), .val (.int j6), .val (.int j10), .val (.int (1 : Int32)), .val (.int j96), .val (.int (2 : Int32)), .val (.int (2 : Int32))] [(.int (1 : Int32)), (.int (f8 (1 : Int32)))])) _
              refine XS.icmpNo X110.here hx rfl (hb hby at_201) rfl (teq hc112).2 ?_
              show Steps p.tables e below (T110.setTop (mkF m 204 #[.val (.int p0), .val (.ref b1), .val (.int j6), .val (.int j10), .val (.int (1 : Int32)), .val (.int j96), .val (.int (2 : Int32)), .val (.int (2 : Int32))] [])) _
              refine XS.aloadN X110.here hx rfl (hb hby at_204) rfl rfl ?_
              exact k)
            obtain ⟨cq114, kq114, q114a, q114b, q114c⟩ := isOf hZ e110 A1_108
            obtain ⟨_, _, ⟨T114, L114, k114, n114⟩, -, X114, ⟨Lc114, hQ114, l114, y114, z114⟩, st114⟩ := X110.virtualBack hx (y := (⟨"com/example/prune_to_fit/prunetofit/sat/Cnf", "literalCount", "()I"⟩ : MethodName)) (z := (⟨"com/example/prune_to_fit/prunetofit/sat/Cnf", "literalCount", "()I"⟩ : MethodName)) hown (mvT hZ (hw _ (List.mem_of_getElem? (i := 63) rfl))) (mvT hZ (hw _ (List.mem_of_getElem? (i := 64) rfl))) (notFace_of_selects (args := #[]) (mvT hZ (hw _ (List.mem_of_getElem? (i := 66) rfl)))) (mvT hZ (hw _ (List.mem_of_getElem? (i := 66) rfl))) (mvT hZ (hw _ (List.mem_of_getElem? (i := 65) rfl))) (by decide) (backOf (W := 0) (rm10 l Z aw hw [] b1 (2 : Int32) T108.heap n0 Z108 F108_a0_literals') hZ (hw _ (List.mem_of_getElem? (i := 67) rfl)) (hw _ (List.mem_of_getElem? (i := 2) rfl)) (by decide) (by decide)) q114a q114c (g := (mkF m 205 #[.val (.int p0), .val (.ref b1), .val (.int j6), .val (.int j10), .val (.int (1 : Int32)), .val (.int j96), .val (.int (2 : Int32)), .val (.int (2 : Int32))] [(.ref b1)])) rfl (by rw [hml]; rfl) (Steps.refl _) (argsL := []) (rest := []) (lenOf pd_1 rfl) rfl (by show 2 * 0 + _ ≤ _; exact Nat.le_of_eq rfl) (hb hby at_205) (fun _ _ => ⟨rfl, e110, (by decide : 6 + 0 ≤ _), (by decide : 22 + 0 ≤ _)⟩)
            dsimp only [Pt.U, Pt.locs, Pt.cells, Pt.slots] at X114 l114 y114 z114 st114 hQ114
            subst l114 y114 z114
            obtain ⟨rfl, N114q, e114⟩ := hQ114
            have N114 := Fr.app N110 N114q
            have pre115 : ∀ t, Steps p.tables e below (T114.setTop (mkF m 213 #[.val (.int p0), .val (.ref b1), .val (.int j6), .val (.int j10), .val (.int (1 : Int32)), .val (.int j96), .val (.int (2 : Int32)), .val (.int (2 : Int32))] [(.ref b1)])) t → Steps p.tables e below (s₁.setTop (entryFrame m #[(.int p0)] maxLocals)) t := fun t k => pre113 t (by
              show Steps p.tables e below (T110.setTop (mkF m 205 #[.val (.int p0), .val (.ref b1), .val (.int j6), .val (.int j10), .val (.int (1 : Int32)), .val (.int j96), .val (.int (2 : Int32)), .val (.int (2 : Int32))] [(.ref b1)])) _
              refine st114.trans ?_
              show Steps p.tables e below (T114.setTop (mkF m 208 #[.val (.int p0), .val (.ref b1), .val (.int j6), .val (.int j10), .val (.int (1 : Int32)), .val (.int j96), .val (.int (2 : Int32)), .val (.int (2 : Int32))] [(.int (2 : Int32))])) _
              refine XS.iconst X114.here hx rfl (hb hby at_208) ?_
              show Steps p.tables e below (T114.setTop (mkF m 209 #[.val (.int p0), .val (.ref b1), .val (.int j6), .val (.int j10), .val (.int (1 : Int32)), .val (.int j96), .val (.int (2 : Int32)), .val (.int (2 : Int32))] [(.int (2 : Int32)), (.int (2 : Int32))])) _
              refine XS.icmpNo X114.here hx rfl (hb hby at_209) rfl (teq ((by decide) : (2 : Int32) = (2 : Int32))).2 ?_
              show Steps p.tables e below (T114.setTop (mkF m 212 #[.val (.int p0), .val (.ref b1), .val (.int j6), .val (.int j10), .val (.int (1 : Int32)), .val (.int j96), .val (.int (2 : Int32)), .val (.int (2 : Int32))] [])) _
              refine XS.aloadN X114.here hx rfl (hb hby at_212) rfl rfl ?_
              exact k)
            obtain ⟨cq116, kq116, q116a, q116b, q116c⟩ := isOf hZ e114 A1_108
            obtain ⟨_, _, ⟨T116, L116, k116, n116⟩, -, X116, ⟨Lc116, hQ116, l116, y116, z116⟩, st116⟩ := X114.virtualBack hx (y := (⟨"com/example/prune_to_fit/prunetofit/sat/Cnf", "variables", "()I"⟩ : MethodName)) (z := (⟨"com/example/prune_to_fit/prunetofit/sat/Cnf", "variables", "()I"⟩ : MethodName)) hown (mvT hZ (hw _ (List.mem_of_getElem? (i := 42) rfl))) (mvT hZ (hw _ (List.mem_of_getElem? (i := 43) rfl))) (notFace_of_selects (args := #[]) (mvT hZ (hw _ (List.mem_of_getElem? (i := 45) rfl)))) (mvT hZ (hw _ (List.mem_of_getElem? (i := 45) rfl))) (mvT hZ (hw _ (List.mem_of_getElem? (i := 44) rfl))) (by decide) (backOf (W := 0) (rm7 l Z aw hw [] b1 (2 : Int32) T108.heap n0 Z108 F108_a0_variables') hZ (hw _ (List.mem_of_getElem? (i := 46) rfl)) (hw _ (List.mem_of_getElem? (i := 2) rfl)) (by decide) (by decide)) q116a q116c (g := (mkF m 213 #[.val (.int p0), .val (.ref b1), .val (.int j6), .val (.int j10), .val (.int (1 : Int32)), .val (.int j96), .val (.int (2 : Int32)), .val (.int (2 : Int32))] [(.ref b1)])) rfl (by rw [hml]; rfl) (Steps.refl _) (argsL := []) (rest := []) (lenOf pd_1 rfl) rfl (by show 2 * 0 + _ ≤ _; exact Nat.le_of_eq rfl) (hb hby at_213) (fun _ _ => ⟨rfl, e114, (by decide : 6 + 0 ≤ _), (by decide : 22 + 0 ≤ _)⟩)
            dsimp only [Pt.U, Pt.locs, Pt.cells, Pt.slots] at X116 l116 y116 z116 st116 hQ116
            subst l116 y116 z116
            obtain ⟨rfl, N116q, e116⟩ := hQ116
            have N116 := Fr.app N114 N116q
            exact ⟨_, _, (1 : Int32), X116, N116, e116, (by rw [if_pos hc112]), fun t k => pre115 t (by
              show Steps p.tables e below (T114.setTop (mkF m 213 #[.val (.int p0), .val (.ref b1), .val (.int j6), .val (.int j10), .val (.int (1 : Int32)), .val (.int j96), .val (.int (2 : Int32)), .val (.int (2 : Int32))] [(.ref b1)])) _
              refine st116.trans ?_
              show Steps p.tables e below (T116.setTop (mkF m 216 #[.val (.int p0), .val (.ref b1), .val (.int j6), .val (.int j10), .val (.int (1 : Int32)), .val (.int j96), .val (.int (2 : Int32)), .val (.int (2 : Int32))] [(.int (2 : Int32))])) _
              refine XS.iload X116.here hx rfl (hb hby at_216) rfl ?_
              show Steps p.tables e below (T116.setTop (mkF m 218 #[.val (.int p0), .val (.ref b1), .val (.int j6), .val (.int j10), .val (.int (1 : Int32)), .val (.int j96), .val (.int (2 : Int32)), .val (.int (2 : Int32))] [(.int (2 : Int32)), (.int (2 : Int32))])) _
              refine XS.icmpNo X116.here hx rfl (hb hby at_218) rfl (teq ((by decide) : (2 : Int32) = (2 : Int32))).2 ?_
              show Steps p.tables e below (T116.setTop (mkF m 221 #[.val (.int p0), .val (.ref b1), .val (.int j6), .val (.int j10), .val (.int (1 : Int32)), .val (.int j96), .val (.int (2 : Int32)), .val (.int (2 : Int32))] [])) _
              refine XS.iconst X116.here hx rfl (hb hby at_221) ?_
              show Steps p.tables e below (T116.setTop (mkF m 222 #[.val (.int p0), .val (.ref b1), .val (.int j6), .val (.int j10), .val (.int (1 : Int32)), .val (.int j96), .val (.int (2 : Int32)), .val (.int (2 : Int32))] [(.int (1 : Int32))])) _
              refine XS.goto X116.here hx rfl (pc0 := 222) (pc' := 226) rfl (hb hby at_222) (by decide) (by decide) ?_
              exact k)⟩
          · exact ⟨_, _, (0 : Int32), X110, N110, e110, (by rw [if_neg hc112]), fun t k => pre111 t (by
              show Steps p.tables e below (T110.setTop (mkF m 201 #[.val (.int p0), .val (.ref b1), .val (.int j6), .val (.int j10), .val (.int (1 : Int32)), .val (.int j96), .val (.int (2 : Int32)), .val (.int (2 : Int32))] [(.int (1 : Int32)), (.int (f8 (1 : Int32)))])) _
              refine XS.icmpYes X110.here hx rfl (pc0 := 201) (pc' := 225) rfl (hb hby at_201) rfl (feq hc112).2 (by decide) (by decide) ?_
              show Steps p.tables e below (T110.setTop (mkF m 225 #[.val (.int p0), .val (.ref b1), .val (.int j6), .val (.int j10), .val (.int (1 : Int32)), .val (.int j96), .val (.int (2 : Int32)), .val (.int (2 : Int32))] [])) _
              refine XS.iconst X110.here hx rfl (hb hby at_225) ?_
              exact k)⟩
        obtain ⟨fs, hr, hrun, hended, hW, hsame⟩ := X119.leave (v := some (.int (nar .boolean j117))) (fun h => by rw [Bd.returns] at h; cases h)
        refine ⟨_, _, pre118 _ ?_, hrun, hended, _, _, rfl, ?_, ⟨_, rfl⟩, hW, hsame.mono (by decide) (by decide)⟩
        · show Steps p.tables e below (T119.setTop (mkF m 226 #[.val (.int p0), .val (.ref b1), .val (.int j6), .val (.int j10), .val (.int (1 : Int32)), .val (.int j96), .val (.int (2 : Int32)), .val (.int (2 : Int32))] [(.int j117)])) _
          exact retN X119 hx (t := .boolean) Bd.returns (by simp) (hb hby at_226) hr
        · show Q0 Z p0 w_DEFAULTCAPACITY_EMPTY_ELEMENTDATA ka_D h0 n0 _ T119.heap _
          rw [e119]
          have hv : (nar .boolean j117) = f0 p0 := (by subst hj117 hj96 hj10 hj6; simp only [f0, if_neg hc15, if_pos hc87, if_neg hc100])
          exact ⟨congrArg (fun z => some (Value.int z)) (hv.trans hlaw), N119⟩
    · have pre120 : ∀ t, Steps p.tables e below (T85.setTop (mkF m 90 #[.val (.int p0), .val (.ref b1), .val (.int j6), .val (.int j10), .val (.int (1 : Int32)), .val (.int (1 : Int32)), .val (.int (2 : Int32)), .val (.int (2 : Int32))] [(.ref b1)])) t → Steps p.tables e below (s₁.setTop (entryFrame m #[(.int p0)] maxLocals)) t := fun t k => pre86 t (by
        show Steps p.tables e below (T85.setTop (mkF m 86 #[.val (.int p0), .val (.ref b1), .val (.int j6), .val (.int j10), .val (.int (1 : Int32)), .val (.int (1 : Int32)), .val (.int (2 : Int32)), .val (.int (2 : Int32))] [(.int j10)])) _
        refine XS.ifNo X85.here hx rfl (hb hby at_86) rfl ((if0 _ _).trans (feq hc87).1) ?_
        show Steps p.tables e below (T85.setTop (mkF m 89 #[.val (.int p0), .val (.ref b1), .val (.int j6), .val (.int j10), .val (.int (1 : Int32)), .val (.int (1 : Int32)), .val (.int (2 : Int32)), .val (.int (2 : Int32))] [])) _
        refine XS.aloadN X85.here hx rfl (hb hby at_89) rfl rfl ?_
        exact k)
      obtain ⟨cq121, kq121, q121a, q121b, q121c⟩ := isOf hZ rfl A1_85
      obtain ⟨_, _, ⟨T121, L121, k121, n121⟩, -, X121, ⟨Lc121, hQ121, l121, y121, z121⟩, st121⟩ := X85.virtualBack hx (y := (⟨"com/example/prune_to_fit/prunetofit/sat/Cnf", "newVariable", "()I"⟩ : MethodName)) (z := (⟨"com/example/prune_to_fit/prunetofit/sat/Cnf", "newVariable", "()I"⟩ : MethodName)) hown (mvT hZ (hw _ (List.mem_of_getElem? (i := 35) rfl))) (mvT hZ (hw _ (List.mem_of_getElem? (i := 36) rfl))) (notFace_of_selects (args := #[]) (mvT hZ (hw _ (List.mem_of_getElem? (i := 38) rfl)))) (mvT hZ (hw _ (List.mem_of_getElem? (i := 38) rfl))) (mvT hZ (hw _ (List.mem_of_getElem? (i := 37) rfl))) (by decide) (backOf (W := 0) (rm6 l Z aw hw [] b1 (2 : Int32) (0 : Int32) b3 T85.heap n0 Z85 A1_85 F85_a0_variables' F85_a0_literals' F85_a0_clauses' g_b1) hZ (hw _ (List.mem_of_getElem? (i := 39) rfl)) (hw _ (List.mem_of_getElem? (i := 2) rfl)) (by decide) (by decide)) q121a q121c (g := (mkF m 90 #[.val (.int p0), .val (.ref b1), .val (.int j6), .val (.int j10), .val (.int (1 : Int32)), .val (.int (1 : Int32)), .val (.int (2 : Int32)), .val (.int (2 : Int32))] [(.ref b1)])) rfl (by rw [hml]; rfl) (Steps.refl _) (argsL := []) (rest := []) (lenOf pd_1 rfl) rfl (by show 2 * 0 + _ ≤ _; exact Nat.le_of_eq rfl) (hb hby at_90) (fun _ _ => ⟨rfl, rfl, (by decide : 2 + 0 ≤ _), (by decide : 6 + 0 ≤ _)⟩)
      dsimp only [Pt.U, Pt.locs, Pt.cells, Pt.slots] at X121 l121 y121 z121 st121 hQ121
      subst l121 y121 z121
      obtain ⟨rfl, N121q, K121q, E121_a0, F121_a0_variables, F121_a0_literals, F121_a0_clauses⟩ := hQ121
      have N121 := Fr.app N85 N121q
      have S_DEFAULTCAPACITY_EMPTY_ELEMENTDATA_121 := own_sta_keep S_DEFAULTCAPACITY_EMPTY_ELEMENTDATA_85 K121q (allS (own_exa_plain A1_85) all0)
      have V_w_DEFAULTCAPACITY_EMPTY_ELEMENTDATA_121 := V_w_DEFAULTCAPACITY_EMPTY_ELEMENTDATA_85.keep K121q (ninS ne_w_DEFAULTCAPACITY_EMPTY_ELEMENTDATA_b1 nin0)
      have A1_121 := A1_85.keep K121q
      have x3_0_121 := x3_0_85.keep K121q
      have x3_1_121 := x3_1_85.keep K121q (ninS (Ne.symm ne_b1_b3) nin0)
      have x3_2_121 := x3_2_85.keep K121q (ninS (Ne.symm ne_b1_b3) nin0)
      have x3_3_121 := x3_3_85.keep K121q (ninS (Ne.symm ne_b1_b3) nin0)
      have F121_a0_variables' : Fld Z T121.heap b1 "com/example/prune_to_fit/prunetofit/sat/Cnf" "variables" "I" (.int (3 : Int32)) := F121_a0_variables
      have F121_a0_literals' : Fld Z T121.heap b1 "com/example/prune_to_fit/prunetofit/sat/Cnf" "literals" "I" (.int (0 : Int32)) := F121_a0_literals
      have F121_a0_clauses' : Fld Z T121.heap b1 "com/example/prune_to_fit/prunetofit/sat/Cnf" "clauses" "Ljava/util/List;" (.ref b3) := F121_a0_clauses
      have K121 : Keep h0 T121.heap [] := K85.trans K121q (allS (Or.inr sz_b1) all0)
      have Z121 : n0 ≤ T121.heap.size := Nat.le_trans Z85 K121q.1
      have pre122 : ∀ t, Steps p.tables e below (T121.setTop (mkF m 121 #[.val (.int p0), .val (.ref b1), .val (.int j6), .val (.int j10), .val (.int (1 : Int32)), .val (.int (1 : Int32)), .val (.int (3 : Int32)), .val (.int (3 : Int32))] [(.ref b1)])) t → Steps p.tables e below (s₁.setTop (entryFrame m #[(.int p0)] maxLocals)) t := fun t k => pre120 t (by
        show Steps p.tables e below (T85.setTop (mkF m 90 #[.val (.int p0), .val (.ref b1), .val (.int j6), .val (.int j10), .val (.int (1 : Int32)), .val (.int (1 : Int32)), .val (.int (2 : Int32)), .val (.int (2 : Int32))] [(.ref b1)])) _
        refine st121.trans ?_
        show Steps p.tables e below (T121.setTop (mkF m 93 #[.val (.int p0), .val (.ref b1), .val (.int j6), .val (.int j10), .val (.int (1 : Int32)), .val (.int (1 : Int32)), .val (.int (2 : Int32)), .val (.int (2 : Int32))] [(.int (3 : Int32))])) _
        refine XS.istore X121.here hx rfl (hb hby at_93) rfl (l' := #[.val (.int p0), .val (.ref b1), .val (.int j6), .val (.int j10), .val (.int (1 : Int32)), .val (.int (1 : Int32)), .val (.int (2 : Int32)), .val (.int (3 : Int32))]) rfl ?_
        show Steps p.tables e below (T121.setTop (mkF m 95 #[.val (.int p0), .val (.ref b1), .val (.int j6), .val (.int j10), .val (.int (1 : Int32)), .val (.int (1 : Int32)), .val (.int (2 : Int32)), .val (.int (3 : Int32))] [])) _
        refine XS.iload X121.here hx rfl (hb hby at_95) rfl ?_
        show Steps p.tables e below (T121.setTop (mkF m 97 #[.val (.int p0), .val (.ref b1), .val (.int j6), .val (.int j10), .val (.int (1 : Int32)), .val (.int (1 : Int32)), .val (.int (2 : Int32)), .val (.int (3 : Int32))] [(.int (2 : Int32))])) _
        refine XS.iconst X121.here hx rfl (hb hby at_97) ?_
        show Steps p.tables e below (T121.setTop (mkF m 98 #[.val (.int p0), .val (.ref b1), .val (.int j6), .val (.int j10), .val (.int (1 : Int32)), .val (.int (1 : Int32)), .val (.int (2 : Int32)), .val (.int (3 : Int32))] [(.int (1 : Int32)), (.int (2 : Int32))])) _
        refine XS.iadd X121.here hx rfl (hb hby at_98) rfl ?_
        show Steps p.tables e below (T121.setTop (mkF m 99 #[.val (.int p0), .val (.ref b1), .val (.int j6), .val (.int j10), .val (.int (1 : Int32)), .val (.int (1 : Int32)), .val (.int (2 : Int32)), .val (.int (3 : Int32))] [(.int (3 : Int32))])) _
        refine XS.istore X121.here hx rfl (hb hby at_99) rfl (l' := #[.val (.int p0), .val (.ref b1), .val (.int j6), .val (.int j10), .val (.int (1 : Int32)), .val (.int (1 : Int32)), .val (.int (3 : Int32)), .val (.int (3 : Int32))]) rfl ?_
        show Steps p.tables e below (T121.setTop (mkF m 101 #[.val (.int p0), .val (.ref b1), .val (.int j6), .val (.int j10), .val (.int (1 : Int32)), .val (.int (1 : Int32)), .val (.int (3 : Int32)), .val (.int (3 : Int32))] [])) _
        refine XS.iload X121.here hx rfl (hb hby at_101) rfl ?_
        show Steps p.tables e below (T121.setTop (mkF m 103 #[.val (.int p0), .val (.ref b1), .val (.int j6), .val (.int j10), .val (.int (1 : Int32)), .val (.int (1 : Int32)), .val (.int (3 : Int32)), .val (.int (3 : Int32))] [(.int (1 : Int32))])) _
        refine XS.ifNo X121.here hx rfl (hb hby at_103) rfl ((if0 _ _).trans (feq ((by decide) : ¬ ((1 : Int32) = (0 : Int32)))).1) ?_
        show Steps p.tables e below (T121.setTop (mkF m 106 #[.val (.int p0), .val (.ref b1), .val (.int j6), .val (.int j10), .val (.int (1 : Int32)), .val (.int (1 : Int32)), .val (.int (3 : Int32)), .val (.int (3 : Int32))] [])) _
        refine XS.iload X121.here hx rfl (hb hby at_106) rfl ?_
        show Steps p.tables e below (T121.setTop (mkF m 108 #[.val (.int p0), .val (.ref b1), .val (.int j6), .val (.int j10), .val (.int (1 : Int32)), .val (.int (1 : Int32)), .val (.int (3 : Int32)), .val (.int (3 : Int32))] [(.int (3 : Int32))])) _
        refine XS.iload X121.here hx rfl (hb hby at_108) rfl ?_
        show Steps p.tables e below (T121.setTop (mkF m 110 #[.val (.int p0), .val (.ref b1), .val (.int j6), .val (.int j10), .val (.int (1 : Int32)), .val (.int (1 : Int32)), .val (.int (3 : Int32)), .val (.int (3 : Int32))] [(.int (3 : Int32)), (.int (3 : Int32))])) _
        refine XS.icmpNo X121.here hx rfl (hb hby at_110) rfl (teq ((by decide) : (3 : Int32) = (3 : Int32))).2 ?_
        show Steps p.tables e below (T121.setTop (mkF m 113 #[.val (.int p0), .val (.ref b1), .val (.int j6), .val (.int j10), .val (.int (1 : Int32)), .val (.int (1 : Int32)), .val (.int (3 : Int32)), .val (.int (3 : Int32))] [])) _
        refine XS.iconst X121.here hx rfl (hb hby at_113) ?_
        show Steps p.tables e below (T121.setTop (mkF m 114 #[.val (.int p0), .val (.ref b1), .val (.int j6), .val (.int j10), .val (.int (1 : Int32)), .val (.int (1 : Int32)), .val (.int (3 : Int32)), .val (.int (3 : Int32))] [(.int (1 : Int32))])) _
        refine XS.goto X121.here hx rfl (pc0 := 114) (pc' := 118) rfl (hb hby at_114) (by decide) (by decide) ?_
        show Steps p.tables e below (T121.setTop (mkF m 118 #[.val (.int p0), .val (.ref b1), .val (.int j6), .val (.int j10), .val (.int (1 : Int32)), .val (.int (1 : Int32)), .val (.int (3 : Int32)), .val (.int (3 : Int32))] [(.int (1 : Int32))])) _
        refine XS.istore X121.here hx rfl (hb hby at_118) rfl (l' := #[.val (.int p0), .val (.ref b1), .val (.int j6), .val (.int j10), .val (.int (1 : Int32)), .val (.int (1 : Int32)), .val (.int (3 : Int32)), .val (.int (3 : Int32))]) rfl ?_
        show Steps p.tables e below (T121.setTop (mkF m 120 #[.val (.int p0), .val (.ref b1), .val (.int j6), .val (.int j10), .val (.int (1 : Int32)), .val (.int (1 : Int32)), .val (.int (3 : Int32)), .val (.int (3 : Int32))] [])) _
        refine XS.aloadN X121.here hx rfl (hb hby at_120) rfl rfl ?_
        exact k)
      obtain ⟨cq123, kq123, q123a, q123b, q123c⟩ := isOf hZ rfl A1_121
      obtain ⟨_, _, ⟨T123, L123, k123, n123⟩, -, X123, ⟨Lc123, hQ123, l123, y123, z123⟩, st123⟩ := X121.virtualBack hx (y := (⟨"com/example/prune_to_fit/prunetofit/sat/Cnf", "variables", "()I"⟩ : MethodName)) (z := (⟨"com/example/prune_to_fit/prunetofit/sat/Cnf", "variables", "()I"⟩ : MethodName)) hown (mvT hZ (hw _ (List.mem_of_getElem? (i := 42) rfl))) (mvT hZ (hw _ (List.mem_of_getElem? (i := 43) rfl))) (notFace_of_selects (args := #[]) (mvT hZ (hw _ (List.mem_of_getElem? (i := 45) rfl)))) (mvT hZ (hw _ (List.mem_of_getElem? (i := 45) rfl))) (mvT hZ (hw _ (List.mem_of_getElem? (i := 44) rfl))) (by decide) (backOf (W := 0) (rm7 l Z aw hw [] b1 (3 : Int32) T121.heap n0 Z121 F121_a0_variables') hZ (hw _ (List.mem_of_getElem? (i := 46) rfl)) (hw _ (List.mem_of_getElem? (i := 2) rfl)) (by decide) (by decide)) q123a q123c (g := (mkF m 121 #[.val (.int p0), .val (.ref b1), .val (.int j6), .val (.int j10), .val (.int (1 : Int32)), .val (.int (1 : Int32)), .val (.int (3 : Int32)), .val (.int (3 : Int32))] [(.ref b1)])) rfl (by rw [hml]; rfl) (Steps.refl _) (argsL := []) (rest := []) (lenOf pd_1 rfl) rfl (by show 2 * 0 + _ ≤ _; exact Nat.le_of_eq rfl) (hb hby at_121) (fun _ _ => ⟨rfl, rfl, (by decide : 2 + 0 ≤ _), (by decide : 6 + 0 ≤ _)⟩)
      dsimp only [Pt.U, Pt.locs, Pt.cells, Pt.slots] at X123 l123 y123 z123 st123 hQ123
      subst l123 y123 z123
      obtain ⟨rfl, N123q, e123⟩ := hQ123
      have N123 := Fr.app N121 N123q
      have pre124 : ∀ t, Steps p.tables e below (T123.setTop (mkF m 151 #[.val (.int p0), .val (.ref b1), .val (.int j6), .val (.int j10), .val (.int (1 : Int32)), .val (.int (1 : Int32)), .val (.int (3 : Int32)), .val (.int (3 : Int32))] [(.ref b1)])) t → Steps p.tables e below (s₁.setTop (entryFrame m #[(.int p0)] maxLocals)) t := fun t k => pre122 t (by
        show Steps p.tables e below (T121.setTop (mkF m 121 #[.val (.int p0), .val (.ref b1), .val (.int j6), .val (.int j10), .val (.int (1 : Int32)), .val (.int (1 : Int32)), .val (.int (3 : Int32)), .val (.int (3 : Int32))] [(.ref b1)])) _
        refine st123.trans ?_
        show Steps p.tables e below (T123.setTop (mkF m 124 #[.val (.int p0), .val (.ref b1), .val (.int j6), .val (.int j10), .val (.int (1 : Int32)), .val (.int (1 : Int32)), .val (.int (3 : Int32)), .val (.int (3 : Int32))] [(.int (3 : Int32))])) _
        refine XS.istore X123.here hx rfl (hb hby at_124) rfl (l' := #[.val (.int p0), .val (.ref b1), .val (.int j6), .val (.int j10), .val (.int (1 : Int32)), .val (.int (1 : Int32)), .val (.int (3 : Int32)), .val (.int (3 : Int32))]) rfl ?_
        show Steps p.tables e below (T123.setTop (mkF m 126 #[.val (.int p0), .val (.ref b1), .val (.int j6), .val (.int j10), .val (.int (1 : Int32)), .val (.int (1 : Int32)), .val (.int (3 : Int32)), .val (.int (3 : Int32))] [])) _
        refine XS.iload X123.here hx rfl (hb hby at_126) rfl ?_
        show Steps p.tables e below (T123.setTop (mkF m 128 #[.val (.int p0), .val (.ref b1), .val (.int j6), .val (.int j10), .val (.int (1 : Int32)), .val (.int (1 : Int32)), .val (.int (3 : Int32)), .val (.int (3 : Int32))] [(.int (1 : Int32))])) _
        refine XS.ifNo X123.here hx rfl (hb hby at_128) rfl ((if0 _ _).trans (feq ((by decide) : ¬ ((1 : Int32) = (0 : Int32)))).1) ?_
        show Steps p.tables e below (T123.setTop (mkF m 131 #[.val (.int p0), .val (.ref b1), .val (.int j6), .val (.int j10), .val (.int (1 : Int32)), .val (.int (1 : Int32)), .val (.int (3 : Int32)), .val (.int (3 : Int32))] [])) _
        refine XS.iload X123.here hx rfl (hb hby at_131) rfl ?_
        show Steps p.tables e below (T123.setTop (mkF m 133 #[.val (.int p0), .val (.ref b1), .val (.int j6), .val (.int j10), .val (.int (1 : Int32)), .val (.int (1 : Int32)), .val (.int (3 : Int32)), .val (.int (3 : Int32))] [(.int (3 : Int32))])) _
        refine XS.iload X123.here hx rfl (hb hby at_133) rfl ?_
        show Steps p.tables e below (T123.setTop (mkF m 135 #[.val (.int p0), .val (.ref b1), .val (.int j6), .val (.int j10), .val (.int (1 : Int32)), .val (.int (1 : Int32)), .val (.int (3 : Int32)), .val (.int (3 : Int32))] [(.int (3 : Int32)), (.int (3 : Int32))])) _
        refine XS.icmpNo X123.here hx rfl (hb hby at_135) rfl (teq ((by decide) : (3 : Int32) = (3 : Int32))).2 ?_
        show Steps p.tables e below (T123.setTop (mkF m 138 #[.val (.int p0), .val (.ref b1), .val (.int j6), .val (.int j10), .val (.int (1 : Int32)), .val (.int (1 : Int32)), .val (.int (3 : Int32)), .val (.int (3 : Int32))] [])) _
        refine XS.iconst X123.here hx rfl (hb hby at_138) ?_
        show Steps p.tables e below (T123.setTop (mkF m 139 #[.val (.int p0), .val (.ref b1), .val (.int j6), .val (.int j10), .val (.int (1 : Int32)), .val (.int (1 : Int32)), .val (.int (3 : Int32)), .val (.int (3 : Int32))] [(.int (1 : Int32))])) _
        refine XS.goto X123.here hx rfl (pc0 := 139) (pc' := 143) rfl (hb hby at_139) (by decide) (by decide) ?_
        show Steps p.tables e below (T123.setTop (mkF m 143 #[.val (.int p0), .val (.ref b1), .val (.int j6), .val (.int j10), .val (.int (1 : Int32)), .val (.int (1 : Int32)), .val (.int (3 : Int32)), .val (.int (3 : Int32))] [(.int (1 : Int32))])) _
        refine XS.istore X123.here hx rfl (hb hby at_143) rfl (l' := #[.val (.int p0), .val (.ref b1), .val (.int j6), .val (.int j10), .val (.int (1 : Int32)), .val (.int (1 : Int32)), .val (.int (3 : Int32)), .val (.int (3 : Int32))]) rfl ?_
        show Steps p.tables e below (T123.setTop (mkF m 145 #[.val (.int p0), .val (.ref b1), .val (.int j6), .val (.int j10), .val (.int (1 : Int32)), .val (.int (1 : Int32)), .val (.int (3 : Int32)), .val (.int (3 : Int32))] [])) _
        refine XS.iload X123.here hx rfl (hb hby at_145) rfl ?_
        show Steps p.tables e below (T123.setTop (mkF m 147 #[.val (.int p0), .val (.ref b1), .val (.int j6), .val (.int j10), .val (.int (1 : Int32)), .val (.int (1 : Int32)), .val (.int (3 : Int32)), .val (.int (3 : Int32))] [(.int (1 : Int32))])) _
        refine XS.ifNo X123.here hx rfl (hb hby at_147) rfl ((if0 _ _).trans (feq ((by decide) : ¬ ((1 : Int32) = (0 : Int32)))).1) ?_
        show Steps p.tables e below (T123.setTop (mkF m 150 #[.val (.int p0), .val (.ref b1), .val (.int j6), .val (.int j10), .val (.int (1 : Int32)), .val (.int (1 : Int32)), .val (.int (3 : Int32)), .val (.int (3 : Int32))] [])) _
        refine XS.aloadN X123.here hx rfl (hb hby at_150) rfl rfl ?_
        exact k)
      obtain ⟨cq125, kq125, q125a, q125b, q125c⟩ := isOf hZ e123 A1_121
      obtain ⟨_, _, ⟨T125, L125, k125, n125⟩, -, X125, ⟨Lc125, hQ125, l125, y125, z125⟩, st125⟩ := X123.virtualBack hx (y := (⟨"com/example/prune_to_fit/prunetofit/sat/Cnf", "clauseCount", "()I"⟩ : MethodName)) (z := (⟨"com/example/prune_to_fit/prunetofit/sat/Cnf", "clauseCount", "()I"⟩ : MethodName)) hown (mvT hZ (hw _ (List.mem_of_getElem? (i := 47) rfl))) (mvT hZ (hw _ (List.mem_of_getElem? (i := 48) rfl))) (notFace_of_selects (args := #[]) (mvT hZ (hw _ (List.mem_of_getElem? (i := 50) rfl)))) (mvT hZ (hw _ (List.mem_of_getElem? (i := 50) rfl))) (mvT hZ (hw _ (List.mem_of_getElem? (i := 49) rfl))) (by decide) (backOf (W := 0) (rm8 l Z aw hw [] b1 b3 (0 : Int32) T121.heap n0 Z121 F121_a0_clauses' x3_3_121 x3_0_121) hZ (hw _ (List.mem_of_getElem? (i := 51) rfl)) (hw _ (List.mem_of_getElem? (i := 2) rfl)) (by decide) (by decide)) q125a q125c (g := (mkF m 151 #[.val (.int p0), .val (.ref b1), .val (.int j6), .val (.int j10), .val (.int (1 : Int32)), .val (.int (1 : Int32)), .val (.int (3 : Int32)), .val (.int (3 : Int32))] [(.ref b1)])) rfl (by rw [hml]; rfl) (Steps.refl _) (argsL := []) (rest := []) (lenOf pd_1 rfl) rfl (by show 2 * 0 + _ ≤ _; exact Nat.le_of_eq rfl) (hb hby at_151) (fun _ _ => ⟨rfl, e123, (by decide : 2 + 0 ≤ _), (by decide : 6 + 0 ≤ _)⟩)
      dsimp only [Pt.U, Pt.locs, Pt.cells, Pt.slots] at X125 l125 y125 z125 st125 hQ125
      subst l125 y125 z125
      obtain ⟨rfl, N125q, e125⟩ := hQ125
      have N125 := Fr.app N123 N125q
      have pre126 : ∀ t, Steps p.tables e below (T125.setTop (mkF m 154 #[.val (.int p0), .val (.ref b1), .val (.int j6), .val (.int j10), .val (.int (1 : Int32)), .val (.int (1 : Int32)), .val (.int (3 : Int32)), .val (.int (3 : Int32))] [(.int (f8 (0 : Int32)))])) t → Steps p.tables e below (s₁.setTop (entryFrame m #[(.int p0)] maxLocals)) t := fun t k => pre124 t (by
        show Steps p.tables e below (T123.setTop (mkF m 151 #[.val (.int p0), .val (.ref b1), .val (.int j6), .val (.int j10), .val (.int (1 : Int32)), .val (.int (1 : Int32)), .val (.int (3 : Int32)), .val (.int (3 : Int32))] [(.ref b1)])) _
        refine st125.trans ?_
        exact k)
      obtain ⟨T132, LjT132, j130, X132, N132, e132, hj130, pre131⟩ : ∃ (T132 : State) (LjT132 : List Loc) (j130 : Int32), Stand p l e room_1 s m #[(.int p0)] below meth c T132 LjT132 2 6 ∧ Fr n0 LjT132 ∧ T132.heap = T121.heap ∧ j130 = (if (f8 (0 : Int32)) = (0 : Int32) then (1 : Int32) else (0 : Int32)) ∧ ∀ t, Steps p.tables e below (T132.setTop (mkF m 169 #[.val (.int p0), .val (.ref b1), .val (.int j6), .val (.int j10), .val (.int (1 : Int32)), .val (.int (1 : Int32)), .val (.int (3 : Int32)), .val (.int (3 : Int32))] [(.int j130)])) t → Steps p.tables e below (s₁.setTop (entryFrame m #[(.int p0)] maxLocals)) t := by
        by_cases hc127 : (f8 (0 : Int32)) = (0 : Int32)
        · have pre128 : ∀ t, Steps p.tables e below (T125.setTop (mkF m 158 #[.val (.int p0), .val (.ref b1), .val (.int j6), .val (.int j10), .val (.int (1 : Int32)), .val (.int (1 : Int32)), .val (.int (3 : Int32)), .val (.int (3 : Int32))] [(.ref b1)])) t → Steps p.tables e below (s₁.setTop (entryFrame m #[(.int p0)] maxLocals)) t := fun t k => pre126 t (by
            show Steps p.tables e below (T125.setTop (mkF m 154 #[.val (.int p0), .val (.ref b1), .val (.int j6), .val (.int j10), .val (.int (1 : Int32)), .val (.int (1 : Int32)), .val (.int (3 : Int32)), .val (.int (3 : Int32))] [(.int (f8 (0 : Int32)))])) _
            refine XS.ifNo X125.here hx rfl (hb hby at_154) rfl ((if0 _ _).trans (teq hc127).2) ?_
            show Steps p.tables e below (T125.setTop (mkF m 157 #[.val (.int p0), .val (.ref b1), .val (.int j6), .val (.int j10), .val (.int (1 : Int32)), .val (.int (1 : Int32)), .val (.int (3 : Int32)), .val (.int (3 : Int32))] [])) _
            refine XS.aloadN X125.here hx rfl (hb hby at_157) rfl rfl ?_
            exact k)
          obtain ⟨cq129, kq129, q129a, q129b, q129c⟩ := isOf hZ e125 A1_121
          obtain ⟨_, _, ⟨T129, L129, k129, n129⟩, -, X129, ⟨Lc129, hQ129, l129, y129, z129⟩, st129⟩ := X125.virtualBack hx (y := (⟨"com/example/prune_to_fit/prunetofit/sat/Cnf", "literalCount", "()I"⟩ : MethodName)) (z := (⟨"com/example/prune_to_fit/prunetofit/sat/Cnf", "literalCount", "()I"⟩ : MethodName)) hown (mvT hZ (hw _ (List.mem_of_getElem? (i := 63) rfl))) (mvT hZ (hw _ (List.mem_of_getElem? (i := 64) rfl))) (notFace_of_selects (args := #[]) (mvT hZ (hw _ (List.mem_of_getElem? (i := 66) rfl)))) (mvT hZ (hw _ (List.mem_of_getElem? (i := 66) rfl))) (mvT hZ (hw _ (List.mem_of_getElem? (i := 65) rfl))) (by decide) (backOf (W := 0) (rm10 l Z aw hw [] b1 (0 : Int32) T121.heap n0 Z121 F121_a0_literals') hZ (hw _ (List.mem_of_getElem? (i := 67) rfl)) (hw _ (List.mem_of_getElem? (i := 2) rfl)) (by decide) (by decide)) q129a q129c (g := (mkF m 158 #[.val (.int p0), .val (.ref b1), .val (.int j6), .val (.int j10), .val (.int (1 : Int32)), .val (.int (1 : Int32)), .val (.int (3 : Int32)), .val (.int (3 : Int32))] [(.ref b1)])) rfl (by rw [hml]; rfl) (Steps.refl _) (argsL := []) (rest := []) (lenOf pd_1 rfl) rfl (by show 2 * 0 + _ ≤ _; exact Nat.le_of_eq rfl) (hb hby at_158) (fun _ _ => ⟨rfl, e125, (by decide : 2 + 0 ≤ _), (by decide : 6 + 0 ≤ _)⟩)
          dsimp only [Pt.U, Pt.locs, Pt.cells, Pt.slots] at X129 l129 y129 z129 st129 hQ129
          subst l129 y129 z129
          obtain ⟨rfl, N129q, e129⟩ := hQ129
          have N129 := Fr.app N125 N129q
          exact ⟨_, _, (1 : Int32), X129, N129, e129, (by rw [if_pos hc127]), fun t k => pre128 t (by
            show Steps p.tables e below (T125.setTop (mkF m 158 #[.val (.int p0), .val (.ref b1), .val (.int j6), .val (.int j10), .val (.int (1 : Int32)), .val (.int (1 : Int32)), .val (.int (3 : Int32)), .val (.int (3 : Int32))] [(.ref b1)])) _
            refine st129.trans ?_
            show Steps p.tables e below (T129.setTop (mkF m 161 #[.val (.int p0), .val (.ref b1), .val (.int j6), .val (.int j10), .val (.int (1 : Int32)), .val (.int (1 : Int32)), .val (.int (3 : Int32)), .val (.int (3 : Int32))] [(.int (0 : Int32))])) _
            refine XS.ifNo X129.here hx rfl (hb hby at_161) rfl ((if0 _ _).trans (teq ((by decide) : (0 : Int32) = (0 : Int32))).2) ?_
            show Steps p.tables e below (T129.setTop (mkF m 164 #[.val (.int p0), .val (.ref b1), .val (.int j6), .val (.int j10), .val (.int (1 : Int32)), .val (.int (1 : Int32)), .val (.int (3 : Int32)), .val (.int (3 : Int32))] [])) _
            refine XS.iconst X129.here hx rfl (hb hby at_164) ?_
            show Steps p.tables e below (T129.setTop (mkF m 165 #[.val (.int p0), .val (.ref b1), .val (.int j6), .val (.int j10), .val (.int (1 : Int32)), .val (.int (1 : Int32)), .val (.int (3 : Int32)), .val (.int (3 : Int32))] [(.int (1 : Int32))])) _
            refine XS.goto X129.here hx rfl (pc0 := 165) (pc' := 169) rfl (hb hby at_165) (by decide) (by decide) ?_
            exact k)⟩
        · exact ⟨_, _, (0 : Int32), X125, N125, e125, (by rw [if_neg hc127]), fun t k => pre126 t (by
            show Steps p.tables e below (T125.setTop (mkF m 154 #[.val (.int p0), .val (.ref b1), .val (.int j6), .val (.int j10), .val (.int (1 : Int32)), .val (.int (1 : Int32)), .val (.int (3 : Int32)), .val (.int (3 : Int32))] [(.int (f8 (0 : Int32)))])) _
            refine XS.ifYes X125.here hx rfl (pc0 := 154) (pc' := 168) rfl (hb hby at_154) rfl ((if0 _ _).trans (feq hc127).2) (by decide) (by decide) ?_
            show Steps p.tables e below (T125.setTop (mkF m 168 #[.val (.int p0), .val (.ref b1), .val (.int j6), .val (.int j10), .val (.int (1 : Int32)), .val (.int (1 : Int32)), .val (.int (3 : Int32)), .val (.int (3 : Int32))] [])) _
            refine XS.iconst X125.here hx rfl (hb hby at_168) ?_
            exact k)⟩
      have pre133 : ∀ t, Steps p.tables e below (T132.setTop (mkF m 173 #[.val (.int p0), .val (.ref b1), .val (.int j6), .val (.int j10), .val (.int (1 : Int32)), .val (.int j130), .val (.int (3 : Int32)), .val (.int (3 : Int32))] [(.int j130)])) t → Steps p.tables e below (s₁.setTop (entryFrame m #[(.int p0)] maxLocals)) t := fun t k => pre131 t (by
        show Steps p.tables e below (T132.setTop (mkF m 169 #[.val (.int p0), .val (.ref b1), .val (.int j6), .val (.int j10), .val (.int (1 : Int32)), .val (.int (1 : Int32)), .val (.int (3 : Int32)), .val (.int (3 : Int32))] [(.int j130)])) _
        refine XS.istore X132.here hx rfl (hb hby at_169) rfl (l' := #[.val (.int p0), .val (.ref b1), .val (.int j6), .val (.int j10), .val (.int (1 : Int32)), .val (.int j130), .val (.int (3 : Int32)), .val (.int (3 : Int32))]) rfl ?_
        show Steps p.tables e below (T132.setTop (mkF m 171 #[.val (.int p0), .val (.ref b1), .val (.int j6), .val (.int j10), .val (.int (1 : Int32)), .val (.int j130), .val (.int (3 : Int32)), .val (.int (3 : Int32))] [])) _
        refine XS.iload X132.here hx rfl (hb hby at_171) rfl ?_
        exact k)
      by_cases hc134 : j130 = (0 : Int32)
      · obtain ⟨fs, hr, hrun, hended, hW, hsame⟩ := X132.leave (v := some (.int (0 : Int32))) (fun h => by rw [Bd.returns] at h; cases h)
        refine ⟨_, _, pre133 _ ?_, hrun, hended, _, _, rfl, ?_, ⟨_, rfl⟩, hW, hsame.mono (by decide) (by decide)⟩
        · show Steps p.tables e below (T132.setTop (mkF m 173 #[.val (.int p0), .val (.ref b1), .val (.int j6), .val (.int j10), .val (.int (1 : Int32)), .val (.int j130), .val (.int (3 : Int32)), .val (.int (3 : Int32))] [(.int j130)])) _
          refine XS.ifNo X132.here hx rfl (hb hby at_173) rfl ((if0 _ _).trans (teq hc134).2) ?_
          show Steps p.tables e below (T132.setTop (mkF m 176 #[.val (.int p0), .val (.ref b1), .val (.int j6), .val (.int j10), .val (.int (1 : Int32)), .val (.int j130), .val (.int (3 : Int32)), .val (.int (3 : Int32))] [])) _
          refine XS.iconst X132.here hx rfl (hb hby at_176) ?_
          show Steps p.tables e below (T132.setTop (mkF m 177 #[.val (.int p0), .val (.ref b1), .val (.int j6), .val (.int j10), .val (.int (1 : Int32)), .val (.int j130), .val (.int (3 : Int32)), .val (.int (3 : Int32))] [(.int (0 : Int32))])) _
          exact retN X132 hx (t := .boolean) Bd.returns (by simp) (hb hby at_177) hr
        · show Q0 Z p0 w_DEFAULTCAPACITY_EMPTY_ELEMENTDATA ka_D h0 n0 _ T132.heap _
          rw [e132]
          have hv : (0 : Int32) = f0 p0 := (by subst hj130 hj10 hj6; simp only [f0, if_neg hc15, if_neg hc87, if_pos hc134])
          exact ⟨congrArg (fun z => some (Value.int z)) (hv.trans hlaw), N132⟩
      · have pre135 : ∀ t, Steps p.tables e below (T132.setTop (mkF m 180 #[.val (.int p0), .val (.ref b1), .val (.int j6), .val (.int j10), .val (.int (1 : Int32)), .val (.int j130), .val (.int (3 : Int32)), .val (.int (3 : Int32))] [(.int (2 : Int32)), (.ref b1)])) t → Steps p.tables e below (s₁.setTop (entryFrame m #[(.int p0)] maxLocals)) t := fun t k => pre133 t (by
          show Steps p.tables e below (T132.setTop (mkF m 173 #[.val (.int p0), .val (.ref b1), .val (.int j6), .val (.int j10), .val (.int (1 : Int32)), .val (.int j130), .val (.int (3 : Int32)), .val (.int (3 : Int32))] [(.int j130)])) _
          refine XS.ifYes X132.here hx rfl (pc0 := 173) (pc' := 178) rfl (hb hby at_173) rfl ((if0 _ _).trans (feq hc134).2) (by decide) (by decide) ?_
          show Steps p.tables e below (T132.setTop (mkF m 178 #[.val (.int p0), .val (.ref b1), .val (.int j6), .val (.int j10), .val (.int (1 : Int32)), .val (.int j130), .val (.int (3 : Int32)), .val (.int (3 : Int32))] [])) _
          refine XS.aloadN X132.here hx rfl (hb hby at_178) rfl rfl ?_
          show Steps p.tables e below (T132.setTop (mkF m 179 #[.val (.int p0), .val (.ref b1), .val (.int j6), .val (.int j10), .val (.int (1 : Int32)), .val (.int j130), .val (.int (3 : Int32)), .val (.int (3 : Int32))] [(.ref b1)])) _
          refine XS.iconst X132.here hx rfl (hb hby at_179) ?_
          exact k)
        obtain ⟨T136, h136, k136, X136, e136, E136, A136, Y136, st136⟩ := newPE X132 hx hZ (hw _ (List.mem_of_getElem? (i := 70) rfl)) e132 (g := (mkF m 180 #[.val (.int p0), .val (.ref b1), .val (.int j6), .val (.int j10), .val (.int (1 : Int32)), .val (.int j130), .val (.int (3 : Int32)), .val (.int (3 : Int32))] [(.int (2 : Int32)), (.ref b1)])) rfl (hb hby at_180) rfl (by decide) (cap := 2) (by decide) (by decide) (by decide) (by decide) (ad := "[I") (by decide)
        obtain ⟨b136, g136⟩ : ∃ z, z = T121.heap.size := ⟨_, rfl⟩
        have ne_b1_b136 : b1 ≠ b136 := Nat.ne_of_lt (Nat.lt_of_lt_of_le A1_121.lt (Nat.le_of_eq g136.symm))
        have ne_b3_b136 : b3 ≠ b136 := Nat.ne_of_lt (Nat.lt_of_lt_of_le x3_0_121.lt (Nat.le_of_eq g136.symm))
        have ne_w_DEFAULTCAPACITY_EMPTY_ELEMENTDATA_b136 : w_DEFAULTCAPACITY_EMPTY_ELEMENTDATA ≠ b136 := Nat.ne_of_lt (Nat.lt_of_lt_of_le V_w_DEFAULTCAPACITY_EMPTY_ELEMENTDATA_121.lt (Nat.le_of_eq g136.symm))
        have g_b136 : n0 ≤ b136 := Nat.le_trans Z121 (Nat.le_of_eq g136.symm)
        have sz_b136 : h0.size ≤ b136 := Nat.le_trans K121.1 (Nat.le_of_eq g136.symm)
        rw [← g136] at A136 st136 Y136
        have S_DEFAULTCAPACITY_EMPTY_ELEMENTDATA_136 := S_DEFAULTCAPACITY_EMPTY_ELEMENTDATA_121.ext E136
        have V_w_DEFAULTCAPACITY_EMPTY_ELEMENTDATA_136 := V_w_DEFAULTCAPACITY_EMPTY_ELEMENTDATA_121.ext E136
        have A1_136 := A1_121.ext E136
        have F121_a0_clauses'_136 := F121_a0_clauses'.ext E136
        have F121_a0_variables'_136 := F121_a0_variables'.ext E136
        have F121_a0_literals'_136 := F121_a0_literals'.ext E136
        have x3_0_136 := x3_0_121.ext E136
        have x3_1_136 := x3_1_121.ext E136
        have x3_2_136 := x3_2_121.ext E136
        have x3_3_136 := x3_3_121.ext E136
        have K136 : Keep h0 h136 [] := K121.ext E136
        have Z136 : n0 ≤ h136.size := Nat.le_trans Z121 E136.1
        have V_b136 : Arv Z h136 b136 k136 .int (2 : Int32) [(.int (0 : Int32)), (.int (0 : Int32))] (.int (0 : Int32)) := (Arv.new A136 (by decide)).pad (pad_rep [] (.int (0 : Int32)) 2)
        have pre137 : ∀ t, Steps p.tables e below (T136.setTop (mkF m 186 #[.val (.int p0), .val (.ref b1), .val (.int j6), .val (.int j10), .val (.int (1 : Int32)), .val (.int j130), .val (.int (3 : Int32)), .val (.int (3 : Int32))] [(.int (3 : Int32)), (.int (0 : Int32)), (.ref b136), (.ref b136), (.ref b1)])) t → Steps p.tables e below (s₁.setTop (entryFrame m #[(.int p0)] maxLocals)) t := fun t k => pre135 t (by
          show Steps p.tables e below (T132.setTop (mkF m 180 #[.val (.int p0), .val (.ref b1), .val (.int j6), .val (.int j10), .val (.int (1 : Int32)), .val (.int j130), .val (.int (3 : Int32)), .val (.int (3 : Int32))] [(.int (2 : Int32)), (.ref b1)])) _
          refine st136 _ ?_
          show Steps p.tables e below (T136.setTop (mkF m 182 #[.val (.int p0), .val (.ref b1), .val (.int j6), .val (.int j10), .val (.int (1 : Int32)), .val (.int j130), .val (.int (3 : Int32)), .val (.int (3 : Int32))] [(.ref b136), (.ref b1)])) _
          refine XS.dup X136.here hx rfl (hb hby at_182) rfl rfl ?_
          show Steps p.tables e below (T136.setTop (mkF m 183 #[.val (.int p0), .val (.ref b1), .val (.int j6), .val (.int j10), .val (.int (1 : Int32)), .val (.int j130), .val (.int (3 : Int32)), .val (.int (3 : Int32))] [(.ref b136), (.ref b136), (.ref b1)])) _
          refine XS.iconst X136.here hx rfl (hb hby at_183) ?_
          show Steps p.tables e below (T136.setTop (mkF m 184 #[.val (.int p0), .val (.ref b1), .val (.int j6), .val (.int j10), .val (.int (1 : Int32)), .val (.int j130), .val (.int (3 : Int32)), .val (.int (3 : Int32))] [(.int (0 : Int32)), (.ref b136), (.ref b136), (.ref b1)])) _
          refine XS.iload X136.here hx rfl (hb hby at_184) rfl ?_
          exact k)
        obtain ⟨cl138, Ar138, q138, S138, M138, H138, G138⟩ := id V_b136
        have hin138 : ¬ ((0 : Int32) < 0 ∨ cl138.slots.size ≤ ((0 : Int32)).toNatClampNeg) := inb_of S138 ⟨by decide, by decide⟩
        obtain ⟨T138, h138, X138, e138, W138, st138⟩ := stI X136 hx hZ e136 Ar138 (j := (0 : Int32)) hin138 (g := (mkF m 186 #[.val (.int p0), .val (.ref b1), .val (.int j6), .val (.int j10), .val (.int (1 : Int32)), .val (.int j130), .val (.int (3 : Int32)), .val (.int (3 : Int32))] [(.int (3 : Int32)), (.int (0 : Int32)), (.ref b136), (.ref b136), (.ref b1)])) rfl rfl (hb hby at_186)
        have V_b136_138 : Arv Z h138 b136 k136 .int (2 : Int32) [(.int (3 : Int32)), (.int (0 : Int32))] (.int (0 : Int32)) := Arv.set Ar138 q138 S138 M138 H138 G138 rfl W138 0 rfl (Nat.le_of_ble_eq_true rfl)
        have S_DEFAULTCAPACITY_EMPTY_ELEMENTDATA_138 := S_DEFAULTCAPACITY_EMPTY_ELEMENTDATA_136.wr W138
        have V_w_DEFAULTCAPACITY_EMPTY_ELEMENTDATA_138 := V_w_DEFAULTCAPACITY_EMPTY_ELEMENTDATA_136.other W138 ne_w_DEFAULTCAPACITY_EMPTY_ELEMENTDATA_b136
        have A1_138 := A1_136.wr W138
        have F121_a0_clauses'_138 := F121_a0_clauses'_136.other W138 (Or.inl ne_b1_b136)
        have F121_a0_variables'_138 := F121_a0_variables'_136.other W138 (Or.inl ne_b1_b136)
        have F121_a0_literals'_138 := F121_a0_literals'_136.other W138 (Or.inl ne_b1_b136)
        have x3_0_138 := x3_0_136.wr W138
        have x3_1_138 := x3_1_136.other W138 (Or.inl ne_b3_b136)
        have x3_2_138 := x3_2_136.other W138 (Or.inl ne_b3_b136)
        have x3_3_138 := x3_3_136.other W138 (Or.inl ne_b3_b136)
        have Y136_138 := Y136.wr W138
        have K138 : Keep h0 h138 [] := K136.wr W138 (Or.inr sz_b136)
        have N138 := Fr.snoc X138 N132 g_b136
        have Z138 : n0 ≤ h138.size := Nat.le_trans Z136 (Nat.le_of_eq W138.size.symm)
        have pre139 : ∀ t, Steps p.tables e below (T138.setTop (mkF m 192 #[.val (.int p0), .val (.ref b1), .val (.int j6), .val (.int j10), .val (.int (1 : Int32)), .val (.int j130), .val (.int (3 : Int32)), .val (.int (3 : Int32))] [(.int (-3 : Int32)), (.int (1 : Int32)), (.ref b136), (.ref b136), (.ref b1)])) t → Steps p.tables e below (s₁.setTop (entryFrame m #[(.int p0)] maxLocals)) t := fun t k => pre137 t (by
          show Steps p.tables e below (T136.setTop (mkF m 186 #[.val (.int p0), .val (.ref b1), .val (.int j6), .val (.int j10), .val (.int (1 : Int32)), .val (.int j130), .val (.int (3 : Int32)), .val (.int (3 : Int32))] [(.int (3 : Int32)), (.int (0 : Int32)), (.ref b136), (.ref b136), (.ref b1)])) _
          refine st138 _ ?_
          show Steps p.tables e below (T138.setTop (mkF m 187 #[.val (.int p0), .val (.ref b1), .val (.int j6), .val (.int j10), .val (.int (1 : Int32)), .val (.int j130), .val (.int (3 : Int32)), .val (.int (3 : Int32))] [(.ref b136), (.ref b1)])) _
          refine XS.dup X138.here hx rfl (hb hby at_187) rfl rfl ?_
          show Steps p.tables e below (T138.setTop (mkF m 188 #[.val (.int p0), .val (.ref b1), .val (.int j6), .val (.int j10), .val (.int (1 : Int32)), .val (.int j130), .val (.int (3 : Int32)), .val (.int (3 : Int32))] [(.ref b136), (.ref b136), (.ref b1)])) _
          refine XS.iconst X138.here hx rfl (hb hby at_188) ?_
          show Steps p.tables e below (T138.setTop (mkF m 189 #[.val (.int p0), .val (.ref b1), .val (.int j6), .val (.int j10), .val (.int (1 : Int32)), .val (.int j130), .val (.int (3 : Int32)), .val (.int (3 : Int32))] [(.int (1 : Int32)), (.ref b136), (.ref b136), (.ref b1)])) _
          refine XS.iload X138.here hx rfl (hb hby at_189) rfl ?_
          show Steps p.tables e below (T138.setTop (mkF m 191 #[.val (.int p0), .val (.ref b1), .val (.int j6), .val (.int j10), .val (.int (1 : Int32)), .val (.int j130), .val (.int (3 : Int32)), .val (.int (3 : Int32))] [(.int (3 : Int32)), (.int (1 : Int32)), (.ref b136), (.ref b136), (.ref b1)])) _
          refine XS.ineg X138.here hx rfl (hb hby at_191) rfl ?_
          exact k)
        obtain ⟨cl140, Ar140, q140, S140, M140, H140, G140⟩ := id V_b136_138
        have hin140 : ¬ ((1 : Int32) < 0 ∨ cl140.slots.size ≤ ((1 : Int32)).toNatClampNeg) := inb_of S140 ⟨by decide, by decide⟩
        obtain ⟨T140, h140, X140, e140, W140, st140⟩ := stI X138 hx hZ e138 Ar140 (j := (1 : Int32)) hin140 (g := (mkF m 192 #[.val (.int p0), .val (.ref b1), .val (.int j6), .val (.int j10), .val (.int (1 : Int32)), .val (.int j130), .val (.int (3 : Int32)), .val (.int (3 : Int32))] [(.int (-3 : Int32)), (.int (1 : Int32)), (.ref b136), (.ref b136), (.ref b1)])) rfl rfl (hb hby at_192)
        have V_b136_140 : Arv Z h140 b136 k136 .int (2 : Int32) [(.int (3 : Int32)), (.int (-3 : Int32))] (.int (0 : Int32)) := Arv.set Ar140 q140 S140 M140 H140 G140 rfl W140 1 rfl (Nat.le_of_ble_eq_true rfl)
        have S_DEFAULTCAPACITY_EMPTY_ELEMENTDATA_140 := S_DEFAULTCAPACITY_EMPTY_ELEMENTDATA_138.wr W140
        have V_w_DEFAULTCAPACITY_EMPTY_ELEMENTDATA_140 := V_w_DEFAULTCAPACITY_EMPTY_ELEMENTDATA_138.other W140 ne_w_DEFAULTCAPACITY_EMPTY_ELEMENTDATA_b136
        have A1_140 := A1_138.wr W140
        have F121_a0_clauses'_140 := F121_a0_clauses'_138.other W140 (Or.inl ne_b1_b136)
        have F121_a0_variables'_140 := F121_a0_variables'_138.other W140 (Or.inl ne_b1_b136)
        have F121_a0_literals'_140 := F121_a0_literals'_138.other W140 (Or.inl ne_b1_b136)
        have x3_0_140 := x3_0_138.wr W140
        have x3_1_140 := x3_1_138.other W140 (Or.inl ne_b3_b136)
        have x3_2_140 := x3_2_138.other W140 (Or.inl ne_b3_b136)
        have x3_3_140 := x3_3_138.other W140 (Or.inl ne_b3_b136)
        have Y136_140 := Y136_138.wr W140
        have K140 : Keep h0 h140 [] := K138.wr W140 (Or.inr sz_b136)
        have N140 := Fr.snoc X140 N138 g_b136
        have Z140 : n0 ≤ h140.size := Nat.le_trans Z138 (Nat.le_of_eq W140.size.symm)
        have pre141 : ∀ t, Steps p.tables e below (T140.setTop (mkF m 193 #[.val (.int p0), .val (.ref b1), .val (.int j6), .val (.int j10), .val (.int (1 : Int32)), .val (.int j130), .val (.int (3 : Int32)), .val (.int (3 : Int32))] [(.ref b136), (.ref b1)])) t → Steps p.tables e below (s₁.setTop (entryFrame m #[(.int p0)] maxLocals)) t := fun t k => pre139 t (by
          show Steps p.tables e below (T138.setTop (mkF m 192 #[.val (.int p0), .val (.ref b1), .val (.int j6), .val (.int j10), .val (.int (1 : Int32)), .val (.int j130), .val (.int (3 : Int32)), .val (.int (3 : Int32))] [(.int (-3 : Int32)), (.int (1 : Int32)), (.ref b136), (.ref b136), (.ref b1)])) _
          refine st140 _ ?_
          exact k)
        obtain ⟨cq142, kq142, q142a, q142b, q142c⟩ := isOf hZ e140 A1_140
        obtain ⟨_, _, ⟨T142, L142, k142, n142⟩, -, X142, ⟨Lc142, hQ142, l142, y142, z142⟩, st142⟩ := X140.virtualBack hx (y := (⟨"com/example/prune_to_fit/prunetofit/sat/Cnf", "add", "([I)V"⟩ : MethodName)) (z := (⟨"com/example/prune_to_fit/prunetofit/sat/Cnf", "add", "([I)V"⟩ : MethodName)) hown (mvT hZ (hw _ (List.mem_of_getElem? (i := 71) rfl))) (mvT hZ (hw _ (List.mem_of_getElem? (i := 72) rfl))) (notFace_of_selects (args := #[]) (mvT hZ (hw _ (List.mem_of_getElem? (i := 74) rfl)))) (mvT hZ (hw _ (List.mem_of_getElem? (i := 74) rfl))) (mvT hZ (hw _ (List.mem_of_getElem? (i := 73) rfl))) (by decide) (backOf (W := 0) (rm11 l Z aw hw [] b1 b136 (3 : Int32) k136 (0 : Int32) b3 w_DEFAULTCAPACITY_EMPTY_ELEMENTDATA ka_D (0 : Int32) h140 n0 Z140 (by decide) F121_a0_variables'_140 V_b136_140 A1_140 F121_a0_literals'_140 F121_a0_clauses'_140 S_DEFAULTCAPACITY_EMPTY_ELEMENTDATA_140 V_w_DEFAULTCAPACITY_EMPTY_ELEMENTDATA_140 x3_0_140 x3_2_140 x3_3_140 x3_1_140 g_b3 ne_w_DEFAULTCAPACITY_EMPTY_ELEMENTDATA_b3 ne_b1_b3 (Ne.symm ne_b3_b136) g_b1 (Ne.symm ne_b1_b136) ne_w_DEFAULTCAPACITY_EMPTY_ELEMENTDATA_b1) hZ (hw _ (List.mem_of_getElem? (i := 75) rfl)) (hw _ (List.mem_of_getElem? (i := 2) rfl)) (by decide) (by decide)) q142a q142c (g := (mkF m 193 #[.val (.int p0), .val (.ref b1), .val (.int j6), .val (.int j10), .val (.int (1 : Int32)), .val (.int j130), .val (.int (3 : Int32)), .val (.int (3 : Int32))] [(.ref b136), (.ref b1)])) rfl (by rw [hml]; rfl) (Steps.refl _) (argsL := [(.ref b136)]) (rest := []) (lenOf pd_2 rfl) rfl (by show 2 * 0 + _ ≤ _; exact Nat.le_of_eq rfl) (hb hby at_193) (fun _ _ => ⟨rfl, e140, (by decide : 3 + 3 ≤ _), (by decide : 8 + 14 ≤ _)⟩)
        dsimp only [Pt.U, Pt.locs, Pt.cells, Pt.slots] at X142 l142 y142 z142 st142 hQ142
        subst l142 y142 z142
        obtain ⟨rfl, N142q, K142q, E142_w_clauses_a0, E142_a0, F142_w_clauses_a0_size, F142_a0_variables, F142_a0_literals, F142_a0_clauses⟩ := hQ142
        have N142 := Fr.app N140 N142q
        have S_DEFAULTCAPACITY_EMPTY_ELEMENTDATA_142 := own_sta_keep S_DEFAULTCAPACITY_EMPTY_ELEMENTDATA_140 K142q (allS (own_exa_plain x3_0_140) (allS (own_exa_plain A1_140) all0))
        have V_w_DEFAULTCAPACITY_EMPTY_ELEMENTDATA_142 := V_w_DEFAULTCAPACITY_EMPTY_ELEMENTDATA_140.keep K142q (ninS ne_w_DEFAULTCAPACITY_EMPTY_ELEMENTDATA_b3 (ninS ne_w_DEFAULTCAPACITY_EMPTY_ELEMENTDATA_b1 nin0))
        have A1_142 := A1_140.keep K142q
        have x3_0_142 := x3_0_140.keep K142q
        have Y136_142 := Y136_140.keep K142q
        have V_b136_140_142 := V_b136_140.keep K142q (ninS (Ne.symm ne_b3_b136) (ninS (Ne.symm ne_b1_b136) nin0))
        have F142_w_clauses_a0_size' : Fld Z T142.heap b3 "java/util/ArrayList" "size" "I" (.int (1 : Int32)) := F142_w_clauses_a0_size
        have F142_a0_variables' : Fld Z T142.heap b1 "com/example/prune_to_fit/prunetofit/sat/Cnf" "variables" "I" (.int (3 : Int32)) := F142_a0_variables
        have F142_a0_literals' : Fld Z T142.heap b1 "com/example/prune_to_fit/prunetofit/sat/Cnf" "literals" "I" (.int (2 : Int32)) := F142_a0_literals
        have F142_a0_clauses' : Fld Z T142.heap b1 "com/example/prune_to_fit/prunetofit/sat/Cnf" "clauses" "Ljava/util/List;" (.ref b3) := F142_a0_clauses
        have K142 : Keep h0 T142.heap [] := K140.trans K142q (allS (Or.inr sz_b3) (allS (Or.inr sz_b1) all0))
        have Z142 : n0 ≤ T142.heap.size := Nat.le_trans Z140 K142q.1
        have pre143 : ∀ t, Steps p.tables e below (T142.setTop (mkF m 197 #[.val (.int p0), .val (.ref b1), .val (.int j6), .val (.int j10), .val (.int (1 : Int32)), .val (.int j130), .val (.int (3 : Int32)), .val (.int (3 : Int32))] [(.ref b1)])) t → Steps p.tables e below (s₁.setTop (entryFrame m #[(.int p0)] maxLocals)) t := fun t k => pre141 t (by
          show Steps p.tables e below (T140.setTop (mkF m 193 #[.val (.int p0), .val (.ref b1), .val (.int j6), .val (.int j10), .val (.int (1 : Int32)), .val (.int j130), .val (.int (3 : Int32)), .val (.int (3 : Int32))] [(.ref b136), (.ref b1)])) _
          refine st142.trans ?_
          show Steps p.tables e below (T142.setTop (mkF m 196 #[.val (.int p0), .val (.ref b1), .val (.int j6), .val (.int j10), .val (.int (1 : Int32)), .val (.int j130), .val (.int (3 : Int32)), .val (.int (3 : Int32))] [])) _
          refine XS.aloadN X142.here hx rfl (hb hby at_196) rfl rfl ?_
          exact k)
        obtain ⟨cq144, kq144, q144a, q144b, q144c⟩ := isOf hZ rfl A1_142
        obtain ⟨_, _, ⟨T144, L144, k144, n144⟩, -, X144, ⟨Lc144, hQ144, l144, y144, z144⟩, st144⟩ := X142.virtualBack hx (y := (⟨"com/example/prune_to_fit/prunetofit/sat/Cnf", "clauseCount", "()I"⟩ : MethodName)) (z := (⟨"com/example/prune_to_fit/prunetofit/sat/Cnf", "clauseCount", "()I"⟩ : MethodName)) hown (mvT hZ (hw _ (List.mem_of_getElem? (i := 47) rfl))) (mvT hZ (hw _ (List.mem_of_getElem? (i := 48) rfl))) (notFace_of_selects (args := #[]) (mvT hZ (hw _ (List.mem_of_getElem? (i := 50) rfl)))) (mvT hZ (hw _ (List.mem_of_getElem? (i := 50) rfl))) (mvT hZ (hw _ (List.mem_of_getElem? (i := 49) rfl))) (by decide) (backOf (W := 0) (rm8 l Z aw hw [] b1 b3 (1 : Int32) T142.heap n0 Z142 F142_a0_clauses' F142_w_clauses_a0_size' x3_0_142) hZ (hw _ (List.mem_of_getElem? (i := 51) rfl)) (hw _ (List.mem_of_getElem? (i := 2) rfl)) (by decide) (by decide)) q144a q144c (g := (mkF m 197 #[.val (.int p0), .val (.ref b1), .val (.int j6), .val (.int j10), .val (.int (1 : Int32)), .val (.int j130), .val (.int (3 : Int32)), .val (.int (3 : Int32))] [(.ref b1)])) rfl (by rw [hml]; rfl) (Steps.refl _) (argsL := []) (rest := []) (lenOf pd_1 rfl) rfl (by show 2 * 0 + _ ≤ _; exact Nat.le_of_eq rfl) (hb hby at_197) (fun _ _ => ⟨rfl, rfl, (by decide : 6 + 0 ≤ _), (by decide : 22 + 0 ≤ _)⟩)
        dsimp only [Pt.U, Pt.locs, Pt.cells, Pt.slots] at X144 l144 y144 z144 st144 hQ144
        subst l144 y144 z144
        obtain ⟨rfl, N144q, e144⟩ := hQ144
        have N144 := Fr.app N142 N144q
        have pre145 : ∀ t, Steps p.tables e below (T144.setTop (mkF m 201 #[.val (.int p0), .val (.ref b1), .val (.int j6), .val (.int j10), .val (.int (1 : Int32)), .val (.int j130), .val (.int (3 : Int32)), .val (.int (3 : Int32))] [(.int (1 : Int32)), (.int (f8 (1 : Int32)))])) t → Steps p.tables e below (s₁.setTop (entryFrame m #[(.int p0)] maxLocals)) t := fun t k => pre143 t (by
          show Steps p.tables e below (T142.setTop (mkF m 197 #[.val (.int p0), .val (.ref b1), .val (.int j6), .val (.int j10), .val (.int (1 : Int32)), .val (.int j130), .val (.int (3 : Int32)), .val (.int (3 : Int32))] [(.ref b1)])) _
          refine st144.trans ?_
          show Steps p.tables e below (T144.setTop (mkF m 200 #[.val (.int p0), .val (.ref b1), .val (.int j6), .val (.int j10), .val (.int (1 : Int32)), .val (.int j130), .val (.int (3 : Int32)), .val (.int (3 : Int32))] [(.int (f8 (1 : Int32)))])) _
          refine XS.iconst X144.here hx rfl (hb hby at_200) ?_
          exact k)
        obtain ⟨T153, LjT153, j151, X153, N153, e153, hj151, pre152⟩ : ∃ (T153 : State) (LjT153 : List Loc) (j151 : Int32), Stand p l e room_1 s m #[(.int p0)] below meth c T153 LjT153 6 22 ∧ Fr n0 LjT153 ∧ T153.heap = T142.heap ∧ j151 = (if (f8 (1 : Int32)) = (1 : Int32) then (1 : Int32) else (0 : Int32)) ∧ ∀ t, Steps p.tables e below (T153.setTop (mkF m 226 #[.val (.int p0), .val (.ref b1), .val (.int j6), .val (.int j10), .val (.int (1 : Int32)), .val (.int j130), .val (.int (3 : Int32)), .val (.int (3 : Int32))] [(.int j151)])) t → Steps p.tables e below (s₁.setTop (entryFrame m #[(.int p0)] maxLocals)) t := by
          by_cases hc146 : (f8 (1 : Int32)) = (1 : Int32)
          · have pre147 : ∀ t, Steps p.tables e below (T144.setTop (mkF m 205 #[.val (.int p0), .val (.ref b1), .val (.int j6), .val (.int j10), .val (.int (1 : Int32)), .val (.int j130), .val (.int (3 : Int32)), .val (.int (3 : Int32))] [(.ref b1)])) t → Steps p.tables e below (s₁.setTop (entryFrame m #[(.int p0)] maxLocals)) t := fun t k => pre145 t (by
              show Steps p.tables e below (T144.setTop (mkF m 201 #[.val (.int p0), .val (.ref b1), .val (.int j6), .val (.int j10), .val (.int (1 : Int32)), .val (.int j130), .val (.int (3 : Int32)), .val (.int (3 : Int32))] [(.int (1 : Int32)), (.int (f8 (1 : Int32)))])) _
              refine XS.icmpNo X144.here hx rfl (hb hby at_201) rfl (teq hc146).2 ?_
              show Steps p.tables e below (T144.setTop (mkF m 204 #[.val (.int p0), .val (.ref b1), .val (.int j6), .val (.int j10), .val (.int (1 : Int32)), .val (.int j130), .val (.int (3 : Int32)), .val (.int (3 : Int32))] [])) _
              refine XS.aloadN X144.here hx rfl (hb hby at_204) rfl rfl ?_
              exact k)
            obtain ⟨cq148, kq148, q148a, q148b, q148c⟩ := isOf hZ e144 A1_142
            obtain ⟨_, _, ⟨T148, L148, k148, n148⟩, -, X148, ⟨Lc148, hQ148, l148, y148, z148⟩, st148⟩ := X144.virtualBack hx (y := (⟨"com/example/prune_to_fit/prunetofit/sat/Cnf", "literalCount", "()I"⟩ : MethodName)) (z := (⟨"com/example/prune_to_fit/prunetofit/sat/Cnf", "literalCount", "()I"⟩ : MethodName)) hown (mvT hZ (hw _ (List.mem_of_getElem? (i := 63) rfl))) (mvT hZ (hw _ (List.mem_of_getElem? (i := 64) rfl))) (notFace_of_selects (args := #[]) (mvT hZ (hw _ (List.mem_of_getElem? (i := 66) rfl)))) (mvT hZ (hw _ (List.mem_of_getElem? (i := 66) rfl))) (mvT hZ (hw _ (List.mem_of_getElem? (i := 65) rfl))) (by decide) (backOf (W := 0) (rm10 l Z aw hw [] b1 (2 : Int32) T142.heap n0 Z142 F142_a0_literals') hZ (hw _ (List.mem_of_getElem? (i := 67) rfl)) (hw _ (List.mem_of_getElem? (i := 2) rfl)) (by decide) (by decide)) q148a q148c (g := (mkF m 205 #[.val (.int p0), .val (.ref b1), .val (.int j6), .val (.int j10), .val (.int (1 : Int32)), .val (.int j130), .val (.int (3 : Int32)), .val (.int (3 : Int32))] [(.ref b1)])) rfl (by rw [hml]; rfl) (Steps.refl _) (argsL := []) (rest := []) (lenOf pd_1 rfl) rfl (by show 2 * 0 + _ ≤ _; exact Nat.le_of_eq rfl) (hb hby at_205) (fun _ _ => ⟨rfl, e144, (by decide : 6 + 0 ≤ _), (by decide : 22 + 0 ≤ _)⟩)
            dsimp only [Pt.U, Pt.locs, Pt.cells, Pt.slots] at X148 l148 y148 z148 st148 hQ148
            subst l148 y148 z148
            obtain ⟨rfl, N148q, e148⟩ := hQ148
            have N148 := Fr.app N144 N148q
            have pre149 : ∀ t, Steps p.tables e below (T148.setTop (mkF m 213 #[.val (.int p0), .val (.ref b1), .val (.int j6), .val (.int j10), .val (.int (1 : Int32)), .val (.int j130), .val (.int (3 : Int32)), .val (.int (3 : Int32))] [(.ref b1)])) t → Steps p.tables e below (s₁.setTop (entryFrame m #[(.int p0)] maxLocals)) t := fun t k => pre147 t (by
              show Steps p.tables e below (T144.setTop (mkF m 205 #[.val (.int p0), .val (.ref b1), .val (.int j6), .val (.int j10), .val (.int (1 : Int32)), .val (.int j130), .val (.int (3 : Int32)), .val (.int (3 : Int32))] [(.ref b1)])) _
              refine st148.trans ?_
              show Steps p.tables e below (T148.setTop (mkF m 208 #[.val (.int p0), .val (.ref b1), .val (.int j6), .val (.int j10), .val (.int (1 : Int32)), .val (.int j130), .val (.int (3 : Int32)), .val (.int (3 : Int32))] [(.int (2 : Int32))])) _
              refine XS.iconst X148.here hx rfl (hb hby at_208) ?_
              show Steps p.tables e below (T148.setTop (mkF m 209 #[.val (.int p0), .val (.ref b1), .val (.int j6), .val (.int j10), .val (.int (1 : Int32)), .val (.int j130), .val (.int (3 : Int32)), .val (.int (3 : Int32))] [(.int (2 : Int32)), (.int (2 : Int32))])) _
              refine XS.icmpNo X148.here hx rfl (hb hby at_209) rfl (teq ((by decide) : (2 : Int32) = (2 : Int32))).2 ?_
              show Steps p.tables e below (T148.setTop (mkF m 212 #[.val (.int p0), .val (.ref b1), .val (.int j6), .val (.int j10), .val (.int (1 : Int32)), .val (.int j130), .val (.int (3 : Int32)), .val (.int (3 : Int32))] [])) _
              refine XS.aloadN X148.here hx rfl (hb hby at_212) rfl rfl ?_
              exact k)
            obtain ⟨cq150, kq150, q150a, q150b, q150c⟩ := isOf hZ e148 A1_142
            obtain ⟨_, _, ⟨T150, L150, k150, n150⟩, -, X150, ⟨Lc150, hQ150, l150, y150, z150⟩, st150⟩ := X148.virtualBack hx (y := (⟨"com/example/prune_to_fit/prunetofit/sat/Cnf", "variables", "()I"⟩ : MethodName)) (z := (⟨"com/example/prune_to_fit/prunetofit/sat/Cnf", "variables", "()I"⟩ : MethodName)) hown (mvT hZ (hw _ (List.mem_of_getElem? (i := 42) rfl))) (mvT hZ (hw _ (List.mem_of_getElem? (i := 43) rfl))) (notFace_of_selects (args := #[]) (mvT hZ (hw _ (List.mem_of_getElem? (i := 45) rfl)))) (mvT hZ (hw _ (List.mem_of_getElem? (i := 45) rfl))) (mvT hZ (hw _ (List.mem_of_getElem? (i := 44) rfl))) (by decide) (backOf (W := 0) (rm7 l Z aw hw [] b1 (3 : Int32) T142.heap n0 Z142 F142_a0_variables') hZ (hw _ (List.mem_of_getElem? (i := 46) rfl)) (hw _ (List.mem_of_getElem? (i := 2) rfl)) (by decide) (by decide)) q150a q150c (g := (mkF m 213 #[.val (.int p0), .val (.ref b1), .val (.int j6), .val (.int j10), .val (.int (1 : Int32)), .val (.int j130), .val (.int (3 : Int32)), .val (.int (3 : Int32))] [(.ref b1)])) rfl (by rw [hml]; rfl) (Steps.refl _) (argsL := []) (rest := []) (lenOf pd_1 rfl) rfl (by show 2 * 0 + _ ≤ _; exact Nat.le_of_eq rfl) (hb hby at_213) (fun _ _ => ⟨rfl, e148, (by decide : 6 + 0 ≤ _), (by decide : 22 + 0 ≤ _)⟩)
            dsimp only [Pt.U, Pt.locs, Pt.cells, Pt.slots] at X150 l150 y150 z150 st150 hQ150
            subst l150 y150 z150
            obtain ⟨rfl, N150q, e150⟩ := hQ150
            have N150 := Fr.app N148 N150q
            exact ⟨_, _, (1 : Int32), X150, N150, e150, (by rw [if_pos hc146]), fun t k => pre149 t (by
              show Steps p.tables e below (T148.setTop (mkF m 213 #[.val (.int p0), .val (.ref b1), .val (.int j6), .val (.int j10), .val (.int (1 : Int32)), .val (.int j130), .val (.int (3 : Int32)), .val (.int (3 : Int32))] [(.ref b1)])) _
              refine st150.trans ?_
              show Steps p.tables e below (T150.setTop (mkF m 216 #[.val (.int p0), .val (.ref b1), .val (.int j6), .val (.int j10), .val (.int (1 : Int32)), .val (.int j130), .val (.int (3 : Int32)), .val (.int (3 : Int32))] [(.int (3 : Int32))])) _
              refine XS.iload X150.here hx rfl (hb hby at_216) rfl ?_
              show Steps p.tables e below (T150.setTop (mkF m 218 #[.val (.int p0), .val (.ref b1), .val (.int j6), .val (.int j10), .val (.int (1 : Int32)), .val (.int j130), .val (.int (3 : Int32)), .val (.int (3 : Int32))] [(.int (3 : Int32)), (.int (3 : Int32))])) _
              refine XS.icmpNo X150.here hx rfl (hb hby at_218) rfl (teq ((by decide) : (3 : Int32) = (3 : Int32))).2 ?_
              show Steps p.tables e below (T150.setTop (mkF m 221 #[.val (.int p0), .val (.ref b1), .val (.int j6), .val (.int j10), .val (.int (1 : Int32)), .val (.int j130), .val (.int (3 : Int32)), .val (.int (3 : Int32))] [])) _
              refine XS.iconst X150.here hx rfl (hb hby at_221) ?_
              show Steps p.tables e below (T150.setTop (mkF m 222 #[.val (.int p0), .val (.ref b1), .val (.int j6), .val (.int j10), .val (.int (1 : Int32)), .val (.int j130), .val (.int (3 : Int32)), .val (.int (3 : Int32))] [(.int (1 : Int32))])) _
              refine XS.goto X150.here hx rfl (pc0 := 222) (pc' := 226) rfl (hb hby at_222) (by decide) (by decide) ?_
              exact k)⟩
          · exact ⟨_, _, (0 : Int32), X144, N144, e144, (by rw [if_neg hc146]), fun t k => pre145 t (by
              show Steps p.tables e below (T144.setTop (mkF m 201 #[.val (.int p0), .val (.ref b1), .val (.int j6), .val (.int j10), .val (.int (1 : Int32)), .val (.int j130), .val (.int (3 : Int32)), .val (.int (3 : Int32))] [(.int (1 : Int32)), (.int (f8 (1 : Int32)))])) _
              refine XS.icmpYes X144.here hx rfl (pc0 := 201) (pc' := 225) rfl (hb hby at_201) rfl (feq hc146).2 (by decide) (by decide) ?_
              show Steps p.tables e below (T144.setTop (mkF m 225 #[.val (.int p0), .val (.ref b1), .val (.int j6), .val (.int j10), .val (.int (1 : Int32)), .val (.int j130), .val (.int (3 : Int32)), .val (.int (3 : Int32))] [])) _
              refine XS.iconst X144.here hx rfl (hb hby at_225) ?_
              exact k)⟩
        obtain ⟨fs, hr, hrun, hended, hW, hsame⟩ := X153.leave (v := some (.int (nar .boolean j151))) (fun h => by rw [Bd.returns] at h; cases h)
        refine ⟨_, _, pre152 _ ?_, hrun, hended, _, _, rfl, ?_, ⟨_, rfl⟩, hW, hsame.mono (by decide) (by decide)⟩
        · show Steps p.tables e below (T153.setTop (mkF m 226 #[.val (.int p0), .val (.ref b1), .val (.int j6), .val (.int j10), .val (.int (1 : Int32)), .val (.int j130), .val (.int (3 : Int32)), .val (.int (3 : Int32))] [(.int j151)])) _
          exact retN X153 hx (t := .boolean) Bd.returns (by simp) (hb hby at_226) hr
        · show Q0 Z p0 w_DEFAULTCAPACITY_EMPTY_ELEMENTDATA ka_D h0 n0 _ T153.heap _
          rw [e153]
          have hv : (nar .boolean j151) = f0 p0 := (by subst hj151 hj130 hj10 hj6; simp only [f0, if_neg hc15, if_neg hc87, if_neg hc134])
          exact ⟨congrArg (fun z => some (Value.int z)) (hv.trans hlaw), N153⟩
theorem own_law (p0 : Int32) : f0 p0 = 1 := by
  have n1 : ¬ ((1 : Int32) = 0) := by decide
  have e0 : (f8 (0 : Int32)) = (0 : Int32) := rfl
  have e1 : (f8 (1 : Int32)) = (1 : Int32) := rfl
  unfold f0
  dsimp only
  by_cases a : (p0 &&& (1 : Int32)) = (0 : Int32) <;> by_cases b : (p0 &&& (2 : Int32)) = (0 : Int32) <;> simp only [a, b, e0, e1, n1, if_true, if_false] <;> rfl

set_option maxRecDepth 65536 in
set_option maxHeartbeats 40000000 in
theorem comes_1 {Post : Tables → Env → Array Value → State → Outcome → State → Prop} (hpost : ∀ tb e args s v u, (limb_1_1.after args s (.returned v) u = true ∧ limb_1_2.after args s (.returned v) u = true ∧ True) → FrameEnd s (.returned v) u (Jvm.fieldLocs frame_1_writes args s ++ Jvm.arrayLocs frame_1_arrays args s ++ Jvm.staticLocs frame_1_statics s) 24 128 → Post tb e args s (.returned v) u) :
    ArmFor flags0 classFile x code maxLocals ret World_1 tables_1 room_1 Calls_1 rest_1 Pre_1 Post := by
  intro l hfl _ _ p e ha hc hk s m args below hf hA hF happ hP
  obtain ⟨hcalls, hrest, hpre⟩ := hP
  obtain ⟨-, -, -, hnamed, -, -, -, hat⟩ := (Spec.applies_iff hf).mp happ
  obtain ⟨hg, hn⟩ := and_e (Cond.before_iff.mp (show (Jvm.Cond.and given_1 narrow_1).before args s = true from hpre))
  obtain ⟨g1, g2⟩ := and_e hg
  obtain ⟨w0, rfl⟩ : ∃ w0 : Value, args = #[w0] := by
    have hs : args.size = 1 := by simpa [Cond.value, given_1] using g1
    obtain ⟨L⟩ := args
    match L, hs with
    | [w0], _ => exact ⟨w0, rfl⟩
  have hw := fun d (hd : d ∈ tables_1) => atoms_spec (ws := Jvm.Cond.code x code maxLocals ret :: tables_1) hat d (List.mem_cons_of_mem _ hd)
  have hfit : Fit s := fun {y c} hc i hi => by
    obtain ⟨ha, rfl⟩ := Array.getElem?_eq_some_iff.mp hc
    have q := List.all_eq_true.mp ((Array.all_eq_true_iff_forall_mem.mp hF) _ (Array.getElem_mem ha)) i (List.mem_range.mpr hi)
    simpa [Array.getElem?_eq_getElem hi] using q
  obtain ⟨hsets, hown0⟩ := atoms_of _ (rest_1_c_eq ▸ (show rest_1_c.before _ s = true from hrest))
  obtain ⟨i0, ei0⟩ := is_v g2
  obtain rfl : w0 = (.int i0) := Option.some.inj ei0
  obtain ⟨z0, ez0⟩ := exa_v (Cond.before_iff.mp (hsets _ (List.mem_of_getElem? (i := 7) rfl)))
  have S0 : Sta s s.heap "java/util/ArrayList" "DEFAULTCAPACITY_EMPTY_ELEMENTDATA" "[Ljava/lang/Object;" (.ref z0) := Sta.start ez0 (Or.inr ⟨hw _ (List.mem_of_getElem? (i := 11) rfl), hsets _ (List.mem_of_getElem? (i := 2) rfl)⟩)
  obtain ⟨kD, VD⟩ := own_empty ez0 (Cond.before_iff.mp (hsets _ (List.mem_of_getElem? (i := 6) rfl))) (Cond.before_iff.mp (hsets _ (List.mem_of_getElem? (i := 8) rfl)))
  obtain ⟨n, o, h1, h2, h3, _, L, rfl, ⟨rfl, N⟩, hq⟩ := rm0 l s _ hw tables_1 i0 z0 kD s.heap s.heap.size (Nat.le_refl _) S0 VD (own_law i0) p e ha hc hk s m _ below hf ((Spec.applies_iff_loose hf).mp happ).1 ⟨rfl, State.Warmed39.refl s, rfl⟩ trivial
  refine ⟨n, _, h1, h2, h3, hpost _ _ _ _ _ _ ⟨Cond.after_iff.mpr rfl, Cond.after_iff.mpr (eq_i res_at (Term.int_eval (1)) rfl), trivial⟩ ⟨hq.1, hq.2.1, (hq.2.2.sift fun y hy => Or.inr (N y hy)).mono (by decide) (by decide)⟩⟩
theorem main_1_1 : Claimed_1_1 := comes_1 fun _ _ _ _ _ _ h hF => ⟨h.1, hF⟩
theorem main_1_2 : Claimed_1_2 := comes_1 fun _ _ _ _ _ _ h hF => ⟨h.2.1, hF⟩
end Jvm.Pilot.@@N@@
namespace Jvm.Pilot.@@N@@
open Jvm Jvm.ClassFile Sem Op Lib Jvm.Free Jvm.Stand Jvm.Pilot.@@N@@.Jvm.D
/-! MADE BY PROGRAM (witnessworld.py) out of the Statement's table words and the real class files: 20 classes; the members and pool entries that the words name. The judged class is class 1, her method 1. -/
namespace start1
open Jvm.ClassFile
def u (s : String) : CpInfo := .utf8 (stringToUtf16 s)
/-- a pool by its gaps: so many unusable entries, then the entry; so many at the end -/
def gap : Nat → List CpInfo → List CpInfo
  | 0, r => r
  | n + 1, r => .unusable :: gap n r
def poolList (es : List (Nat × CpInfo)) (last : Nat) : List CpInfo := es.foldr (fun e r => gap e.1 (e.2 :: r)) (gap last [])
def pool (es : List (Nat × CpInfo)) (last : Nat) : Array CpInfo := ⟨poolList es last⟩
def fileOf (pool : Array CpInfo) (this : Nat) (attrs : Array Attribute := #[]) (ms : Array MethodInfo := #[]) (fl : Nat := 33) (sup : Nat := 0) (ifs : Array Nat := #[]) (fds : Array FieldInfo := #[]) : ClassFile where
  minorVersion := 0
  majorVersion := 65
  constantPool := pool
  accessFlags := fl
  thisClass := this
  superClass := sup
  interfaces := ifs
  fields := fds
  methods := ms
  attributes := attrs
def plain (name : String) (sup : Option ClassId) : Class where
  name := name
  kind := .ordinary
  loader := none
  accessFlags := 33
  super := sup
  interfaces := #[]
  cf := none
  fields := #[]
  methods := #[]
  instanceTypes := #[]
  staticTypes := #[]
  resolved := #[]
  callSites := []
  init := .initialized
  statics := none
  mirror := none

def pool0 : Array CpInfo := pool [(5, u "<init>"), (0, u "()V"), (1, .class_ 10), (1, u "java/lang/Object"), (85, u "clone"), (0, u "()Ljava/lang/Object;")] 26

def k0c0 : Code := { maxStack := 0, maxLocals := 1, code := object_method_1_code, exceptionTable := #[], attributes := #[] }
def k0m0 : Method := { name := "<init>", desc := "()V", sig := { parameters := [], returnType := none }, accessFlags := 1, code := some k0c0 }
def k0m1 : Method := { name := "clone", desc := "()Ljava/lang/Object;", sig := { parameters := [], returnType := some (.object "java/lang/Object") }, accessFlags := 260, code := none }
/-- java/lang/Object -/
def k0 : Class := { plain "java/lang/Object" none with
  accessFlags := 33
  interfaces := #[]
  cf := some (fileOf pool0 8 #[] #[{ accessFlags := 1, nameIndex := 5, descriptorIndex := 6, attributes := #[] }, { accessFlags := 260, nameIndex := 96, descriptorIndex := 97, attributes := #[] }] 33 0 #[] #[])
  fields := #[]
  methods := #[k0m0, k0m1]
  instanceTypes := #[]
  staticTypes := #[]
  resolved := Array.replicate 124 none
  statics := none }

def pool1 : Array CpInfo := pool [(2, .class_ 4), (0, .nameAndType 5 6), (0, u "java/lang/Object"), (0, u "<init>"), (0, u "()V"), (0, .class_ 8), (0, u "com/example/prune_to_fit/prunetofit/sat/Cnf"), (0, .methodref 7 3), (0, .methodref 7 11), (0, .nameAndType 12 13), (0, u "newVariable"), (0, u "()I"), (0, .methodref 7 15), (0, .nameAndType 16 13), (0, u "variables"), (0, .methodref 7 18), (0, .nameAndType 19 13), (0, u "clauseCount"), (0, .methodref 7 21), (0, .nameAndType 22 13), (0, u "literalCount"), (0, .methodref 7 24), (0, .nameAndType 25 26), (0, u "add"), (0, u "([I)V"), (0, .class_ 28), (0, u "com/example/prune_to_fit/prunetofit/sat/CnfNewVariablePinLaw"), (2, u "law"), (0, u "(I)Z")] 3

def k1m0 : Method := { name := "<init>", desc := "()V", sig := { parameters := [], returnType := none }, accessFlags := 1, code := none }
def k1c1 : Code := { maxStack := 5, maxLocals := 8, code := code, exceptionTable := #[], attributes := #[] }
def k1m1 : Method := { name := "law", desc := "(I)Z", sig := { parameters := [.int], returnType := some .boolean }, accessFlags := 9, code := some k1c1 }
/-- com/example/prune_to_fit/prunetofit/sat/CnfNewVariablePinLaw -/
def k1 : Class := { plain "com/example/prune_to_fit/prunetofit/sat/CnfNewVariablePinLaw" (some 0) with
  accessFlags := 49
  interfaces := #[]
  cf := some (fileOf pool1 27 #[] #[{ accessFlags := 1, nameIndex := 5, descriptorIndex := 6, attributes := #[] }, { accessFlags := 9, nameIndex := 31, descriptorIndex := 32, attributes := #[] }] 49 2 #[] #[])
  fields := #[]
  methods := #[k1m0, k1m1]
  instanceTypes := #[]
  staticTypes := #[]
  resolved := Array.replicate 36 none
  statics := none }

def pool2 : Array CpInfo := pool [(3, .class_ 4), (0, u "com/example/prune_to_fit/prunetofit/sat/Cnf"), (0, .methodref 6 7), (0, .class_ 8), (0, .nameAndType 9 10), (0, u "java/lang/Object"), (0, u "<init>"), (0, u "()V"), (0, .class_ 12), (0, u "java/util/ArrayList"), (0, .methodref 11 7), (0, .fieldref 3 15), (0, .nameAndType 16 17), (0, u "clauses"), (0, u "Ljava/util/List;"), (0, .fieldref 3 19), (0, .nameAndType 20 21), (0, u "variables"), (0, u "I"), (0, .integer 2147483647), (0, .integer 2147483649), (0, .methodref 3 25), (0, .nameAndType 26 27), (0, u "requireLiteral"), (0, u "(I)I"), (0, .methodref 29 30), (0, .class_ 31), (0, .nameAndType 32 33), (0, u "java/util/Arrays"), (0, u "copyOf"), (0, u "([II)[I"), (0, .interfaceMethodref 35 36), (0, .class_ 37), (0, .nameAndType 38 39), (0, u "java/util/List"), (0, u "add"), (0, u "(Ljava/lang/Object;)Z"), (0, .fieldref 3 41), (0, .nameAndType 42 21), (0, u "literals"), (6, u "newVariable"), (0, u "()I"), (2, u "([I)V"), (4, .interfaceMethodref 35 59), (0, .nameAndType 60 50), (0, u "size"), (28, u "TRUE"), (1, u "FALSE"), (8, u "clauseCount"), (0, u "literalCount")] 19

def k2c0 : Code := { maxStack := 3, maxLocals := 1, code := prog_40_method_1_code, exceptionTable := #[], attributes := #[] }
def k2m0 : Method := { name := "<init>", desc := "()V", sig := { parameters := [], returnType := none }, accessFlags := 1, code := some k2c0 }
def k2c1 : Code := { maxStack := 3, maxLocals := 1, code := prog_40_method_2_code, exceptionTable := #[], attributes := #[] }
def k2m1 : Method := { name := "newVariable", desc := "()I", sig := { parameters := [], returnType := some .int }, accessFlags := 1, code := some k2c1 }
def k2c2 : Code := { maxStack := 4, maxLocals := 8, code := prog_40_method_3_code, exceptionTable := #[], attributes := #[] }
def k2m2 : Method := { name := "add", desc := "([I)V", sig := { parameters := [(.array .int)], returnType := none }, accessFlags := 129, code := some k2c2 }
def k2c3 : Code := { maxStack := 1, maxLocals := 1, code := prog_40_method_7_code, exceptionTable := #[], attributes := #[] }
def k2m3 : Method := { name := "variables", desc := "()I", sig := { parameters := [], returnType := some .int }, accessFlags := 1, code := some k2c3 }
def k2c4 : Code := { maxStack := 1, maxLocals := 1, code := prog_40_method_8_code, exceptionTable := #[], attributes := #[] }
def k2m4 : Method := { name := "clauseCount", desc := "()I", sig := { parameters := [], returnType := some .int }, accessFlags := 1, code := some k2c4 }
def k2c5 : Code := { maxStack := 1, maxLocals := 1, code := prog_40_method_9_code, exceptionTable := #[], attributes := #[] }
def k2m5 : Method := { name := "literalCount", desc := "()I", sig := { parameters := [], returnType := some .int }, accessFlags := 1, code := some k2c5 }
def k2c6 : Code := { maxStack := 3, maxLocals := 3, code := prog_40_method_12_code, exceptionTable := #[], attributes := #[] }
def k2m6 : Method := { name := "requireLiteral", desc := "(I)I", sig := { parameters := [.int], returnType := some .int }, accessFlags := 2, code := some k2c6 }
/-- com/example/prune_to_fit/prunetofit/sat/Cnf -/
def k2 : Class := { plain "com/example/prune_to_fit/prunetofit/sat/Cnf" (some 0) with
  accessFlags := 33
  interfaces := #[]
  cf := some (fileOf pool2 3 #[] #[{ accessFlags := 1, nameIndex := 9, descriptorIndex := 10, attributes := #[] }, { accessFlags := 1, nameIndex := 49, descriptorIndex := 50, attributes := #[] }, { accessFlags := 129, nameIndex := 38, descriptorIndex := 53, attributes := #[] }, { accessFlags := 1, nameIndex := 20, descriptorIndex := 50, attributes := #[] }, { accessFlags := 1, nameIndex := 100, descriptorIndex := 50, attributes := #[] }, { accessFlags := 1, nameIndex := 101, descriptorIndex := 50, attributes := #[] }, { accessFlags := 2, nameIndex := 26, descriptorIndex := 27, attributes := #[] }] 33 6 #[] #[{ accessFlags := 25, nameIndex := 89, descriptorIndex := 21, attributes := #[] }, { accessFlags := 25, nameIndex := 91, descriptorIndex := 21, attributes := #[] }, { accessFlags := 18, nameIndex := 16, descriptorIndex := 17, attributes := #[] }, { accessFlags := 2, nameIndex := 20, descriptorIndex := 21, attributes := #[] }, { accessFlags := 2, nameIndex := 42, descriptorIndex := 21, attributes := #[] }])
  fields := #[{ name := "TRUE", type := .int, accessFlags := 25, slot := 0, constantValue := 0 }, { name := "FALSE", type := .int, accessFlags := 25, slot := 1, constantValue := 0 }, { name := "clauses", type := (.object "java/util/List"), accessFlags := 18, slot := 0, constantValue := 0 }, { name := "variables", type := .int, accessFlags := 2, slot := 1, constantValue := 0 }, { name := "literals", type := .int, accessFlags := 2, slot := 2, constantValue := 0 }]
  methods := #[k2m0, k2m1, k2m2, k2m3, k2m4, k2m5, k2m6]
  instanceTypes := #[(.object "java/util/List"), .int, .int]
  staticTypes := #[.int, .int]
  resolved := Array.replicate 121 none
  statics := none }

def pool3 : Array CpInfo := pool [(8, .class_ 10), (1, u "java/lang/Iterable"), (24, .class_ 36), (0, u "java/lang/Object")] 25

/-- java/lang/Iterable -/
def k3 : Class := { plain "java/lang/Iterable" (some 0) with
  accessFlags := 1537
  interfaces := #[]
  cf := some (fileOf pool3 8 #[] #[] 1537 35 #[] #[])
  fields := #[]
  methods := #[]
  instanceTypes := #[]
  staticTypes := #[]
  resolved := Array.replicate 62 none
  statics := none }

def pool4 : Array CpInfo := pool [(10, .class_ 12), (1, u "java/util/Collection"), (47, .class_ 61), (0, u "java/lang/Object"), (0, .class_ 63), (0, u "java/lang/Iterable")] 51

/-- java/util/Collection -/
def k4 : Class := { plain "java/util/Collection" (some 0) with
  accessFlags := 1537
  interfaces := #[3]
  cf := some (fileOf pool4 10 #[] #[] 1537 60 #[62] #[])
  fields := #[]
  methods := #[]
  instanceTypes := #[]
  staticTypes := #[]
  resolved := Array.replicate 115 none
  statics := none }

def pool5 : Array CpInfo := pool [(1, .methodref 2 3), (0, .class_ 4), (0, .nameAndType 5 6), (0, u "java/lang/Object"), (0, u "<init>"), (0, u "()V"), (1, .class_ 10), (1, u "java/util/AbstractCollection"), (66, .class_ 78), (0, u "java/util/Collection")] 81

def k5c0 : Code := { maxStack := 1, maxLocals := 1, code := jdk_22_method_1_code, exceptionTable := #[], attributes := #[] }
def k5m0 : Method := { name := "<init>", desc := "()V", sig := { parameters := [], returnType := none }, accessFlags := 4, code := some k5c0 }
/-- java/util/AbstractCollection -/
def k5 : Class := { plain "java/util/AbstractCollection" (some 0) with
  accessFlags := 1057
  interfaces := #[4]
  cf := some (fileOf pool5 8 #[] #[{ accessFlags := 4, nameIndex := 5, descriptorIndex := 6, attributes := #[] }] 1057 2 #[77] #[])
  fields := #[]
  methods := #[k5m0]
  instanceTypes := #[]
  staticTypes := #[]
  resolved := Array.replicate 160 none
  statics := none }

def pool6 : Array CpInfo := pool [(8, .class_ 10), (1, u "java/util/SequencedCollection"), (15, .class_ 27), (0, u "java/lang/Object"), (0, .class_ 29), (0, u "java/util/Collection")] 27

/-- java/util/SequencedCollection -/
def k6 : Class := { plain "java/util/SequencedCollection" (some 0) with
  accessFlags := 1537
  interfaces := #[4]
  cf := some (fileOf pool6 8 #[] #[] 1537 26 #[28] #[])
  fields := #[]
  methods := #[]
  instanceTypes := #[]
  staticTypes := #[]
  resolved := Array.replicate 57 none
  statics := none }

def pool7 : Array CpInfo := pool [(8, .class_ 10), (1, u "java/util/List"), (49, u "add"), (3, u "(Ljava/lang/Object;)Z"), (14, u "size"), (0, u "()I"), (22, .class_ 104), (0, u "java/lang/Object"), (15, .class_ 121), (0, u "java/util/SequencedCollection")] 129

def k7m0 : Method := { name := "size", desc := "()I", sig := { parameters := [], returnType := some .int }, accessFlags := 1025, code := none }
def k7m1 : Method := { name := "add", desc := "(Ljava/lang/Object;)Z", sig := { parameters := [(.object "java/lang/Object")], returnType := some .boolean }, accessFlags := 1025, code := none }
/-- java/util/List -/
def k7 : Class := { plain "java/util/List" (some 0) with
  accessFlags := 1537
  interfaces := #[6]
  cf := some (fileOf pool7 8 #[] #[{ accessFlags := 1025, nameIndex := 79, descriptorIndex := 80, attributes := #[] }, { accessFlags := 1025, nameIndex := 60, descriptorIndex := 64, attributes := #[] }] 1537 103 #[120] #[])
  fields := #[]
  methods := #[k7m0, k7m1]
  instanceTypes := #[]
  staticTypes := #[]
  resolved := Array.replicate 251 none
  statics := none }

def pool8 : Array CpInfo := pool [(1, .methodref 2 3), (0, .class_ 4), (0, .nameAndType 5 6), (0, u "java/util/AbstractCollection"), (0, u "<init>"), (0, u "()V"), (0, .fieldref 8 9), (0, .class_ 10), (0, .nameAndType 11 12), (0, u "java/util/AbstractList"), (0, u "modCount"), (0, u "I"), (64, .class_ 78), (0, u "java/util/AbstractList$Itr"), (3, .class_ 83), (0, u "java/util/AbstractList$ListItr"), (9, .class_ 94), (0, u "java/util/AbstractList$RandomAccessSubList"), (3, .class_ 99), (0, u "java/util/AbstractList$SubList"), (33, .class_ 134), (0, u "java/util/List"), (73, .class_ 209), (0, u "java/util/AbstractList$SubList$1"), (0, .class_ 211), (0, u "java/util/AbstractList$RandomAccessSpliterator")] 6

def k8c0 : Code := { maxStack := 2, maxLocals := 1, code := jdk_39_method_1_code, exceptionTable := #[], attributes := #[] }
def k8m0 : Method := { name := "<init>", desc := "()V", sig := { parameters := [], returnType := none }, accessFlags := 4, code := some k8c0 }
/-- java/util/AbstractList -/
def k8 : Class := { plain "java/util/AbstractList" (some 5) with
  accessFlags := 1057
  interfaces := #[7]
  cf := some (fileOf pool8 8 #[.nestMembers #[93, 98, 208, 210, 82, 77]] #[{ accessFlags := 4, nameIndex := 5, descriptorIndex := 6, attributes := #[] }] 1057 2 #[133] #[{ accessFlags := 132, nameIndex := 11, descriptorIndex := 12, attributes := #[] }])
  fields := #[{ name := "modCount", type := .int, accessFlags := 132, slot := 0, constantValue := 0 }]
  methods := #[k8m0]
  instanceTypes := #[.int]
  staticTypes := #[]
  resolved := Array.replicate 218 none
  statics := none }

def pool9 : Array CpInfo := pool [(1, .class_ 2), (0, u "java/util/RandomAccess"), (0, .class_ 4), (0, u "java/lang/Object")] 2

/-- java/util/RandomAccess -/
def k9 : Class := { plain "java/util/RandomAccess" (some 0) with
  accessFlags := 1537
  interfaces := #[]
  cf := some (fileOf pool9 1 #[] #[] 1537 3 #[] #[])
  fields := #[]
  methods := #[]
  instanceTypes := #[]
  staticTypes := #[]
  resolved := Array.replicate 7 none
  statics := none }

def pool10 : Array CpInfo := pool [(1, .class_ 2), (0, u "java/lang/Cloneable"), (0, .class_ 4), (0, u "java/lang/Object")] 2

/-- java/lang/Cloneable -/
def k10 : Class := { plain "java/lang/Cloneable" (some 0) with
  accessFlags := 1537
  interfaces := #[]
  cf := some (fileOf pool10 1 #[] #[] 1537 3 #[] #[])
  fields := #[]
  methods := #[]
  instanceTypes := #[]
  staticTypes := #[]
  resolved := Array.replicate 7 none
  statics := none }

def pool11 : Array CpInfo := pool [(1, .class_ 2), (0, u "java/io/Serializable"), (0, .class_ 4), (0, u "java/lang/Object")] 2

/-- java/io/Serializable -/
def k11 : Class := { plain "java/io/Serializable" (some 0) with
  accessFlags := 1537
  interfaces := #[]
  cf := some (fileOf pool11 1 #[] #[] 1537 3 #[] #[])
  fields := #[]
  methods := #[]
  instanceTypes := #[]
  staticTypes := #[]
  resolved := Array.replicate 7 none
  statics := none }

def pool12 : Array CpInfo := pool [(1, .methodref 2 3), (0, .class_ 4), (0, .nameAndType 5 6), (0, u "java/util/AbstractList"), (0, u "<init>"), (0, u "()V"), (0, .class_ 8), (0, u "java/lang/Object"), (0, .fieldref 10 11), (0, .class_ 12), (0, .nameAndType 13 14), (0, u "java/util/ArrayList"), (0, u "elementData"), (0, u "[Ljava/lang/Object;"), (2, u "EMPTY_ELEMENTDATA"), (21, .fieldref 10 40), (0, .nameAndType 41 14), (0, u "DEFAULTCAPACITY_EMPTY_ELEMENTDATA"), (5, u "()[Ljava/lang/Object;"), (0, .fieldref 10 49), (0, .nameAndType 50 51), (0, u "size"), (0, u "I"), (11, .fieldref 10 64), (0, .nameAndType 65 51), (0, u "modCount"), (3, .methodref 10 70), (0, .nameAndType 71 72), (0, u "grow"), (0, u "(I)[Ljava/lang/Object;"), (6, .methodref 80 81), (0, .class_ 82), (0, .nameAndType 83 84), (0, u "java/lang/Math"), (0, u "max"), (0, u "(II)I"), (11, u "(Ljava/lang/Object;)Z"), (32, .methodref 10 130), (0, .nameAndType 71 47), (0, .methodref 10 132), (0, .nameAndType 133 134), (0, u "add"), (0, u "(Ljava/lang/Object;[Ljava/lang/Object;I)V"), (13, .class_ 149), (0, u "java/util/List"), (36, u "()I"), (75, .class_ 263), (0, u "java/util/ArrayList$ListItr"), (3, .class_ 268), (0, u "java/util/ArrayList$Itr"), (7, .class_ 277), (0, u "java/util/ArrayList$SubList"), (12, .class_ 291), (0, u "java/util/ArrayList$ArrayListSpliterator"), (37, .class_ 330), (0, u "java/util/RandomAccess"), (0, .class_ 332), (0, u "java/lang/Cloneable"), (0, .class_ 334), (0, u "java/io/Serializable"), (0, u "serialVersionUID"), (0, u "J"), (3, u "DEFAULT_CAPACITY"), (159, .class_ 501), (0, u "java/util/ArrayList$SubList$2"), (0, .class_ 503), (0, u "java/util/ArrayList$SubList$1")] 5

def k12c0 : Code := { maxStack := 2, maxLocals := 1, code := jdk_38_method_2_code, exceptionTable := #[], attributes := #[] }
def k12m0 : Method := { name := "<init>", desc := "()V", sig := { parameters := [], returnType := none }, accessFlags := 1, code := some k12c0 }
def k12c1 : Code := { maxStack := 4, maxLocals := 4, code := jdk_38_method_6_code, exceptionTable := #[], attributes := #[] }
def k12m1 : Method := { name := "grow", desc := "(I)[Ljava/lang/Object;", sig := { parameters := [.int], returnType := some (.array (.object "java/lang/Object")) }, accessFlags := 2, code := some k12c1 }
def k12c2 : Code := { maxStack := 3, maxLocals := 1, code := jdk_38_method_7_code, exceptionTable := #[], attributes := #[] }
def k12m2 : Method := { name := "grow", desc := "()[Ljava/lang/Object;", sig := { parameters := [], returnType := some (.array (.object "java/lang/Object")) }, accessFlags := 2, code := some k12c2 }
def k12c3 : Code := { maxStack := 1, maxLocals := 1, code := jdk_38_method_8_code, exceptionTable := #[], attributes := #[] }
def k12m3 : Method := { name := "size", desc := "()I", sig := { parameters := [], returnType := some .int }, accessFlags := 1, code := some k12c3 }
def k12c4 : Code := { maxStack := 3, maxLocals := 4, code := jdk_38_method_24_code, exceptionTable := #[], attributes := #[] }
def k12m4 : Method := { name := "add", desc := "(Ljava/lang/Object;[Ljava/lang/Object;I)V", sig := { parameters := [(.object "java/lang/Object"), (.array (.object "java/lang/Object")), .int], returnType := none }, accessFlags := 2, code := some k12c4 }
def k12c5 : Code := { maxStack := 4, maxLocals := 2, code := jdk_38_method_25_code, exceptionTable := #[], attributes := #[] }
def k12m5 : Method := { name := "add", desc := "(Ljava/lang/Object;)Z", sig := { parameters := [(.object "java/lang/Object")], returnType := some .boolean }, accessFlags := 1, code := some k12c5 }
/-- java/util/ArrayList -/
def k12 : Class := { plain "java/util/ArrayList" (some 8) with
  accessFlags := 33
  interfaces := #[7, 9, 10, 11]
  cf := some (fileOf pool12 10 #[.nestMembers #[290, 276, 500, 502, 262, 267]] #[{ accessFlags := 1, nameIndex := 5, descriptorIndex := 6, attributes := #[] }, { accessFlags := 2, nameIndex := 71, descriptorIndex := 72, attributes := #[] }, { accessFlags := 2, nameIndex := 71, descriptorIndex := 47, attributes := #[] }, { accessFlags := 1, nameIndex := 50, descriptorIndex := 186, attributes := #[] }, { accessFlags := 2, nameIndex := 133, descriptorIndex := 134, attributes := #[] }, { accessFlags := 1, nameIndex := 133, descriptorIndex := 96, attributes := #[] }] 33 2 #[148, 329, 331, 333] #[{ accessFlags := 26, nameIndex := 335, descriptorIndex := 336, attributes := #[] }, { accessFlags := 26, nameIndex := 340, descriptorIndex := 51, attributes := #[] }, { accessFlags := 26, nameIndex := 17, descriptorIndex := 14, attributes := #[] }, { accessFlags := 26, nameIndex := 41, descriptorIndex := 14, attributes := #[] }, { accessFlags := 128, nameIndex := 13, descriptorIndex := 14, attributes := #[] }, { accessFlags := 2, nameIndex := 50, descriptorIndex := 51, attributes := #[] }])
  fields := #[{ name := "serialVersionUID", type := .long, accessFlags := 26, slot := 0, constantValue := 0 }, { name := "DEFAULT_CAPACITY", type := .int, accessFlags := 26, slot := 1, constantValue := 0 }, { name := "EMPTY_ELEMENTDATA", type := (.array (.object "java/lang/Object")), accessFlags := 26, slot := 2, constantValue := 0 }, { name := "DEFAULTCAPACITY_EMPTY_ELEMENTDATA", type := (.array (.object "java/lang/Object")), accessFlags := 26, slot := 3, constantValue := 0 }, { name := "elementData", type := (.array (.object "java/lang/Object")), accessFlags := 128, slot := 1, constantValue := 0 }, { name := "size", type := .int, accessFlags := 2, slot := 2, constantValue := 0 }]
  methods := #[k12m0, k12m1, k12m2, k12m3, k12m4, k12m5]
  instanceTypes := #[.int, (.array (.object "java/lang/Object")), .int]
  staticTypes := #[.long, .int, (.array (.object "java/lang/Object")), (.array (.object "java/lang/Object"))]
  resolved := Array.replicate 509 none
  statics := some 0 }

def pool13 : Array CpInfo := pool [(2, .class_ 4), (1, u "java/lang/Object"), (0, u "<init>"), (0, u "()V"), (7, .class_ 16), (1, u "java/util/Arrays"), (57, .class_ 76), (1, u "java/util/Arrays$NaturalOrder"), (32, u "()Ljava/lang/Object;"), (3, .class_ 115), (1, u "java/util/Arrays$LegacyMergeSort"), (1, u "Z"), (10, .nameAndType 129 109), (0, u "clone"), (172, u "copyOf"), (13, .methodref 317 128), (0, .class_ 318), (0, u "[I"), (56, .class_ 376), (0, u "java/util/Arrays$ArrayList"), (68, u "$assertionsDisabled"), (269, u "MIN_ARRAY_SORT_GRAN"), (0, u "I"), (2, u "INSERTIONSORT_THRESHOLD"), (151, u "([II)[I"), (103, .class_ 976), (0, u "java/util/Arrays$ArrayItr")] 52

def k13m0 : Method := { name := "<init>", desc := "()V", sig := { parameters := [], returnType := none }, accessFlags := 2, code := none }
def k13c1 : Code := { maxStack := 6, maxLocals := 3, code := jdk_65_method_123_code, exceptionTable := #[], attributes := #[] }
def k13m1 : Method := { name := "copyOf", desc := "([II)[I", sig := { parameters := [(.array .int), .int], returnType := some (.array .int) }, accessFlags := 9, code := some k13c1 }
/-- java/util/Arrays -/
def k13 : Class := { plain "java/util/Arrays" (some 0) with
  accessFlags := 49
  interfaces := #[]
  cf := some (fileOf pool13 14 #[.nestMembers #[975, 375, 113, 74]] #[{ accessFlags := 2, nameIndex := 5, descriptorIndex := 6, attributes := #[] }, { accessFlags := 9, nameIndex := 302, descriptorIndex := 871, attributes := #[] }] 49 2 #[] #[{ accessFlags := 26, nameIndex := 715, descriptorIndex := 716, attributes := #[] }, { accessFlags := 26, nameIndex := 719, descriptorIndex := 716, attributes := #[] }, { accessFlags := 4120, nameIndex := 445, descriptorIndex := 117, attributes := #[] }])
  fields := #[{ name := "MIN_ARRAY_SORT_GRAN", type := .int, accessFlags := 26, slot := 0, constantValue := 0 }, { name := "INSERTIONSORT_THRESHOLD", type := .int, accessFlags := 26, slot := 1, constantValue := 0 }, { name := "$assertionsDisabled", type := .boolean, accessFlags := 4120, slot := 2, constantValue := 0 }]
  methods := #[k13m0, k13m1]
  instanceTypes := #[]
  staticTypes := #[.int, .int, .boolean]
  resolved := Array.replicate 1029 none
  statics := none }

def pool14 : Array CpInfo := pool [(1, .class_ 2), (0, u "java/lang/Math"), (1, .class_ 6), (1, u "java/lang/Object"), (0, u "<init>"), (0, u "()V"), (89, .class_ 100), (1, u "java/lang/Math$RandomNumberGeneratorHolder"), (71, u "negativeZeroFloatBits"), (0, u "J"), (2, u "negativeZeroDoubleBits"), (21, u "max"), (46, u "$assertionsDisabled"), (0, u "Z"), (88, u "(II)I"), (2, u "twoToTheDoubleScaleDown"), (0, u "D"), (4, u "twoToTheDoubleScaleUp"), (9, u "E"), (3, u "PI"), (2, u "TAU"), (2, u "DEGREES_TO_RADIANS"), (0, u "RADIANS_TO_DEGREES")] 94

def k14m0 : Method := { name := "<init>", desc := "()V", sig := { parameters := [], returnType := none }, accessFlags := 2, code := none }
def k14c1 : Code := { maxStack := 2, maxLocals := 2, code := jdk_29_method_65_code, exceptionTable := #[], attributes := #[] }
def k14m1 : Method := { name := "max", desc := "(II)I", sig := { parameters := [.int, .int], returnType := some .int }, accessFlags := 9, code := some k14c1 }
/-- java/lang/Math -/
def k14 : Class := { plain "java/lang/Math" (some 0) with
  accessFlags := 49
  interfaces := #[]
  cf := some (fileOf pool14 1 #[.nestMembers #[98]] #[{ accessFlags := 2, nameIndex := 7, descriptorIndex := 8, attributes := #[] }, { accessFlags := 9, nameIndex := 198, descriptorIndex := 335, attributes := #[] }] 49 4 #[] #[{ accessFlags := 25, nameIndex := 354, descriptorIndex := 339, attributes := #[] }, { accessFlags := 25, nameIndex := 358, descriptorIndex := 339, attributes := #[] }, { accessFlags := 25, nameIndex := 361, descriptorIndex := 339, attributes := #[] }, { accessFlags := 26, nameIndex := 364, descriptorIndex := 339, attributes := #[] }, { accessFlags := 26, nameIndex := 365, descriptorIndex := 339, attributes := #[] }, { accessFlags := 26, nameIndex := 172, descriptorIndex := 173, attributes := #[] }, { accessFlags := 26, nameIndex := 176, descriptorIndex := 173, attributes := #[] }, { accessFlags := 8, nameIndex := 344, descriptorIndex := 339, attributes := #[] }, { accessFlags := 8, nameIndex := 338, descriptorIndex := 339, attributes := #[] }, { accessFlags := 4120, nameIndex := 245, descriptorIndex := 246, attributes := #[] }])
  fields := #[{ name := "E", type := .double, accessFlags := 25, slot := 0, constantValue := 0 }, { name := "PI", type := .double, accessFlags := 25, slot := 1, constantValue := 0 }, { name := "TAU", type := .double, accessFlags := 25, slot := 2, constantValue := 0 }, { name := "DEGREES_TO_RADIANS", type := .double, accessFlags := 26, slot := 3, constantValue := 0 }, { name := "RADIANS_TO_DEGREES", type := .double, accessFlags := 26, slot := 4, constantValue := 0 }, { name := "negativeZeroFloatBits", type := .long, accessFlags := 26, slot := 5, constantValue := 0 }, { name := "negativeZeroDoubleBits", type := .long, accessFlags := 26, slot := 6, constantValue := 0 }, { name := "twoToTheDoubleScaleUp", type := .double, accessFlags := 8, slot := 7, constantValue := 0 }, { name := "twoToTheDoubleScaleDown", type := .double, accessFlags := 8, slot := 8, constantValue := 0 }, { name := "$assertionsDisabled", type := .boolean, accessFlags := 4120, slot := 9, constantValue := 0 }]
  methods := #[k14m0, k14m1]
  instanceTypes := #[]
  staticTypes := #[.double, .double, .double, .double, .double, .long, .long, .double, .double, .boolean]
  resolved := Array.replicate 460 none
  statics := none }

/-- the primitive byte -/
def k15 : Class := { plain "byte" none with kind := .primitive 'B', accessFlags := 0x411 }
/-- [B -/
def k16 : Class := { plain "[B" (some 0) with kind := .array 15 .byte, interfaces := #[10, 11], accessFlags := 1041 }

/-- the primitive int -/
def k17 : Class := { plain "int" none with kind := .primitive 'I', accessFlags := 0x411 }
/-- [I -/
def k18 : Class := { plain "[I" (some 0) with kind := .array 17 .int, interfaces := #[10, 11], accessFlags := 1041 }

/-- [Ljava/lang/Object; -/
def k19 : Class := { plain "[Ljava/lang/Object;" (some 0) with kind := .array 0 (.object "java/lang/Object"), interfaces := #[10, 11], accessFlags := 1041 }

def heap : Heap := #[{ cls := 12, slots := #[.long 0, .int 0, .ref 1, .ref 2], vm := .statics 12 },
  { cls := 19, slots := #[], vm := .none },
  { cls := 19, slots := #[], vm := .none }]
def classes : Array Class := #[k0, k1, k2, k3, k4, k5, k6, k7, k8, k9, k10, k11, k12, k13, k14, k15, k16, k17, k18, k19]
def interned : List (Array UInt16 × Addr) := []
def slotsUsed : Nat := 4
def theMethod : MethodId := ⟨1, 1⟩
def args0 : Array Value := #[.int 3]
def aboutOver (below : List Frame) : State where
  vm := { classes := classes, interned := interned.toArray }
  heap := heap
  slotsUsed := slotsUsed
  threads := #[{ frames := .invoking theMethod args0 :: below }]
def below0 : List Frame := [.native { method := ⟨0, 0⟩, args := #[] }]
def about1 : State := aboutOver below0
def p0 : Program := .bare "" "" ""
def e0 : Env := launch0.env 0 0 0
theorem w_frames : about1.frames = Frame.invoking theMethod args0 :: below0 := rfl
set_option maxRecDepth 65536 in
theorem w_args : argsFit about1.vm theMethod args0 = true := by decide +kernel
set_option maxRecDepth 65536 in
theorem w_heap : heapFits about1 = true := by decide +kernel
set_option maxRecDepth 65536 in
theorem w_runnable : about1.curStatus? = some .runnable := by decide +kernel
set_option maxRecDepth 65536 in
theorem w_alone : about1.alone = true := by decide +kernel
set_option maxRecDepth 65536 in
theorem w_named : about1.methodNamed? x = some theMethod := by decide +kernel
set_option maxRecDepth 65536 in
theorem w_hears : about1.hears theMethod below0 = true := by decide +kernel
set_option maxRecDepth 65536 in
theorem w_ripe : about1.ripe theMethod args0 below0 = true := by decide +kernel
theorem w_running : about1.status = .running := rfl
set_option maxRecDepth 65536 in
theorem w_room : about1.hasRoom e0.platform room_1 = true :=
  launch0.hasRoom_least _ room_1 (by decide +kernel) (by decide +kernel) (by decide +kernel) (by decide +kernel) (by decide +kernel) (by decide +kernel)
theorem allAtoms_all (ts : List Jvm.Cond) (a : Array Jvm.Value) (st : Jvm.State) : (allAtoms ts).before a st = ts.all (fun c => c.before a st) := by
  induction ts with
  | nil => rfl
  | cons c t ih =>
    show (Jvm.Cond.and c (allAtoms t)).before a st = _
    rw [Jvm.Cond.before_and, ih, List.all_cons]
def words1 : List Jvm.Cond := Jvm.Cond.code x code maxLocals ret :: tables_1
/-- a 'code' word, met by the world's own term for the bytes: nothing is compared byte by byte -/
theorem code_word {y : MethodName} {bytes : ByteArray} {mx : Nat} {rt : Option FieldType} {a : Array Value} {s : State} {m : MethodId} {meth : Method} {c : Code} (h1 : s.methodNamed? y = some m) (h2 : s.vm.method? m = some meth) (h3 : meth.code = some c) (h4 : c.code = bytes)
    (h5 : (c.maxLocals == mx && c.exceptionTable.isEmpty && decide (c.maxStack ≤ mostOperands) && decide (meth.sig.returnType = rt) && !meth.locks && decide (parseMethodDescriptor y.desc = some meth.sig)) = true) : (Jvm.Cond.code y bytes mx rt).before a s = true := by
  simp only [Bool.and_eq_true, beq_iff_eq, Bool.not_eq_true', decide_eq_true_eq] at h5
  obtain ⟨⟨⟨⟨⟨g1, g2⟩, g3⟩, g4⟩, g5⟩, g6⟩ := h5
  simp [Cond.before, Cond.holds, Cond.value, h1, h2, h3, h4, g1, g2, g3, g4, g5, g6]
def isCode : Jvm.Cond → Bool
  | .code _ _ _ _ => true
  | _ => false
theorem all_split {L : List Jvm.Cond} {P : Jvm.Cond → Bool} (h1 : L.all (fun c => isCode c || P c) = true) (h2 : ∀ c ∈ L.filter isCode, P c = true) : L.all P = true := by
  refine List.all_eq_true.mpr fun c hc => ?_
  have h := List.all_eq_true.mp h1 c hc
  rcases Bool.eq_false_or_eq_true (isCode c) with hi | hi
  · exact h2 c (List.mem_filter.mpr ⟨hc, hi⟩)
  · simpa [hi] using h
set_option maxRecDepth 65536 in
theorem w_c0 : (Jvm.Cond.code x code maxLocals ret).before args0 about1 = true := code_word (m := ⟨1, 1⟩) (meth := k1m1) (c := k1c1) (by decide +kernel) rfl rfl rfl (by decide +kernel)
set_option maxRecDepth 65536 in
theorem w_c1 : (Jvm.Cond.code ({ cls := "com/example/prune_to_fit/prunetofit/sat/Cnf", name := "<init>", desc := "()V" } : Jvm.MethodName) prog_40_method_1_code (1 : Nat) (Option.none : Option Jvm.ClassFile.FieldType)).before args0 about1 = true := code_word (m := ⟨2, 0⟩) (meth := k2m0) (c := k2c0) (by decide +kernel) rfl rfl rfl (by decide +kernel)
set_option maxRecDepth 65536 in
theorem w_c2 : (Jvm.Cond.code ({ cls := "java/lang/Object", name := "<init>", desc := "()V" } : Jvm.MethodName) object_method_1_code (1 : Nat) (Option.none : Option Jvm.ClassFile.FieldType)).before args0 about1 = true := code_word (m := ⟨0, 0⟩) (meth := k0m0) (c := k0c0) (by decide +kernel) rfl rfl rfl (by decide +kernel)
set_option maxRecDepth 65536 in
theorem w_c3 : (Jvm.Cond.code ({ cls := "java/util/ArrayList", name := "<init>", desc := "()V" } : Jvm.MethodName) jdk_38_method_2_code (1 : Nat) (Option.none : Option Jvm.ClassFile.FieldType)).before args0 about1 = true := code_word (m := ⟨12, 0⟩) (meth := k12m0) (c := k12c0) (by decide +kernel) rfl rfl rfl (by decide +kernel)
set_option maxRecDepth 65536 in
theorem w_c4 : (Jvm.Cond.code ({ cls := "java/util/AbstractList", name := "<init>", desc := "()V" } : Jvm.MethodName) jdk_39_method_1_code (1 : Nat) (Option.none : Option Jvm.ClassFile.FieldType)).before args0 about1 = true := code_word (m := ⟨8, 0⟩) (meth := k8m0) (c := k8c0) (by decide +kernel) rfl rfl rfl (by decide +kernel)
set_option maxRecDepth 65536 in
theorem w_c5 : (Jvm.Cond.code ({ cls := "java/util/AbstractCollection", name := "<init>", desc := "()V" } : Jvm.MethodName) jdk_22_method_1_code (1 : Nat) (Option.none : Option Jvm.ClassFile.FieldType)).before args0 about1 = true := code_word (m := ⟨5, 0⟩) (meth := k5m0) (c := k5c0) (by decide +kernel) rfl rfl rfl (by decide +kernel)
set_option maxRecDepth 65536 in
theorem w_c6 : (Jvm.Cond.code ({ cls := "com/example/prune_to_fit/prunetofit/sat/Cnf", name := "newVariable", desc := "()I" } : Jvm.MethodName) prog_40_method_2_code (1 : Nat) (Option.some Jvm.ClassFile.FieldType.int)).before args0 about1 = true := code_word (m := ⟨2, 1⟩) (meth := k2m1) (c := k2c1) (by decide +kernel) rfl rfl rfl (by decide +kernel)
set_option maxRecDepth 65536 in
theorem w_c7 : (Jvm.Cond.code ({ cls := "com/example/prune_to_fit/prunetofit/sat/Cnf", name := "variables", desc := "()I" } : Jvm.MethodName) prog_40_method_7_code (1 : Nat) (Option.some Jvm.ClassFile.FieldType.int)).before args0 about1 = true := code_word (m := ⟨2, 3⟩) (meth := k2m3) (c := k2c3) (by decide +kernel) rfl rfl rfl (by decide +kernel)
set_option maxRecDepth 65536 in
theorem w_c8 : (Jvm.Cond.code ({ cls := "com/example/prune_to_fit/prunetofit/sat/Cnf", name := "clauseCount", desc := "()I" } : Jvm.MethodName) prog_40_method_8_code (1 : Nat) (Option.some Jvm.ClassFile.FieldType.int)).before args0 about1 = true := code_word (m := ⟨2, 4⟩) (meth := k2m4) (c := k2c4) (by decide +kernel) rfl rfl rfl (by decide +kernel)
set_option maxRecDepth 65536 in
theorem w_c9 : (Jvm.Cond.code ({ cls := "java/util/ArrayList", name := "size", desc := "()I" } : Jvm.MethodName) jdk_38_method_8_code (1 : Nat) (Option.some Jvm.ClassFile.FieldType.int)).before args0 about1 = true := code_word (m := ⟨12, 3⟩) (meth := k12m3) (c := k12c3) (by decide +kernel) rfl rfl rfl (by decide +kernel)
set_option maxRecDepth 65536 in
theorem w_c10 : (Jvm.Cond.code ({ cls := "com/example/prune_to_fit/prunetofit/sat/Cnf", name := "literalCount", desc := "()I" } : Jvm.MethodName) prog_40_method_9_code (1 : Nat) (Option.some Jvm.ClassFile.FieldType.int)).before args0 about1 = true := code_word (m := ⟨2, 5⟩) (meth := k2m5) (c := k2c5) (by decide +kernel) rfl rfl rfl (by decide +kernel)
set_option maxRecDepth 65536 in
theorem w_c11 : (Jvm.Cond.code ({ cls := "com/example/prune_to_fit/prunetofit/sat/Cnf", name := "add", desc := "([I)V" } : Jvm.MethodName) prog_40_method_3_code (8 : Nat) (Option.none : Option Jvm.ClassFile.FieldType)).before args0 about1 = true := code_word (m := ⟨2, 2⟩) (meth := k2m2) (c := k2c2) (by decide +kernel) rfl rfl rfl (by decide +kernel)
set_option maxRecDepth 65536 in
theorem w_c12 : (Jvm.Cond.code ({ cls := "com/example/prune_to_fit/prunetofit/sat/Cnf", name := "requireLiteral", desc := "(I)I" } : Jvm.MethodName) prog_40_method_12_code (3 : Nat) (Option.some Jvm.ClassFile.FieldType.int)).before args0 about1 = true := code_word (m := ⟨2, 6⟩) (meth := k2m6) (c := k2c6) (by decide +kernel) rfl rfl rfl (by decide +kernel)
set_option maxRecDepth 65536 in
theorem w_c13 : (Jvm.Cond.code ({ cls := "java/util/Arrays", name := "copyOf", desc := "([II)[I" } : Jvm.MethodName) jdk_65_method_123_code (3 : Nat) (Option.some (Jvm.ClassFile.FieldType.array Jvm.ClassFile.FieldType.int))).before args0 about1 = true := code_word (m := ⟨13, 1⟩) (meth := k13m1) (c := k13c1) (by decide +kernel) rfl rfl rfl (by decide +kernel)
set_option maxRecDepth 65536 in
theorem w_c14 : (Jvm.Cond.code ({ cls := "java/util/ArrayList", name := "add", desc := "(Ljava/lang/Object;)Z" } : Jvm.MethodName) jdk_38_method_25_code (2 : Nat) (Option.some Jvm.ClassFile.FieldType.boolean)).before args0 about1 = true := code_word (m := ⟨12, 5⟩) (meth := k12m5) (c := k12c5) (by decide +kernel) rfl rfl rfl (by decide +kernel)
set_option maxRecDepth 65536 in
theorem w_c15 : (Jvm.Cond.code ({ cls := "java/util/ArrayList", name := "add", desc := "(Ljava/lang/Object;[Ljava/lang/Object;I)V" } : Jvm.MethodName) jdk_38_method_24_code (4 : Nat) (Option.none : Option Jvm.ClassFile.FieldType)).before args0 about1 = true := code_word (m := ⟨12, 4⟩) (meth := k12m4) (c := k12c4) (by decide +kernel) rfl rfl rfl (by decide +kernel)
set_option maxRecDepth 65536 in
theorem w_c16 : (Jvm.Cond.code ({ cls := "java/util/ArrayList", name := "grow", desc := "()[Ljava/lang/Object;" } : Jvm.MethodName) jdk_38_method_7_code (1 : Nat) (Option.some (Jvm.ClassFile.FieldType.array (Jvm.ClassFile.FieldType.object "java/lang/Object")))).before args0 about1 = true := code_word (m := ⟨12, 2⟩) (meth := k12m2) (c := k12c2) (by decide +kernel) rfl rfl rfl (by decide +kernel)
set_option maxRecDepth 65536 in
theorem w_c17 : (Jvm.Cond.code ({ cls := "java/util/ArrayList", name := "grow", desc := "(I)[Ljava/lang/Object;" } : Jvm.MethodName) jdk_38_method_6_code (4 : Nat) (Option.some (Jvm.ClassFile.FieldType.array (Jvm.ClassFile.FieldType.object "java/lang/Object")))).before args0 about1 = true := code_word (m := ⟨12, 1⟩) (meth := k12m1) (c := k12c1) (by decide +kernel) rfl rfl rfl (by decide +kernel)
set_option maxRecDepth 65536 in
theorem w_c18 : (Jvm.Cond.code ({ cls := "java/lang/Math", name := "max", desc := "(II)I" } : Jvm.MethodName) jdk_29_method_65_code (2 : Nat) (Option.some Jvm.ClassFile.FieldType.int)).before args0 about1 = true := code_word (m := ⟨14, 1⟩) (meth := k14m1) (c := k14c1) (by decide +kernel) rfl rfl rfl (by decide +kernel)
def codes1 : List Jvm.Cond := [Jvm.Cond.code x code maxLocals ret, Jvm.Cond.code ({ cls := "com/example/prune_to_fit/prunetofit/sat/Cnf", name := "<init>", desc := "()V" } : Jvm.MethodName) prog_40_method_1_code (1 : Nat) (Option.none : Option Jvm.ClassFile.FieldType), Jvm.Cond.code ({ cls := "java/lang/Object", name := "<init>", desc := "()V" } : Jvm.MethodName) object_method_1_code (1 : Nat) (Option.none : Option Jvm.ClassFile.FieldType), Jvm.Cond.code ({ cls := "java/util/ArrayList", name := "<init>", desc := "()V" } : Jvm.MethodName) jdk_38_method_2_code (1 : Nat) (Option.none : Option Jvm.ClassFile.FieldType), Jvm.Cond.code ({ cls := "java/util/AbstractList", name := "<init>", desc := "()V" } : Jvm.MethodName) jdk_39_method_1_code (1 : Nat) (Option.none : Option Jvm.ClassFile.FieldType), Jvm.Cond.code ({ cls := "java/util/AbstractCollection", name := "<init>", desc := "()V" } : Jvm.MethodName) jdk_22_method_1_code (1 : Nat) (Option.none : Option Jvm.ClassFile.FieldType), Jvm.Cond.code ({ cls := "com/example/prune_to_fit/prunetofit/sat/Cnf", name := "newVariable", desc := "()I" } : Jvm.MethodName) prog_40_method_2_code (1 : Nat) (Option.some Jvm.ClassFile.FieldType.int), Jvm.Cond.code ({ cls := "com/example/prune_to_fit/prunetofit/sat/Cnf", name := "variables", desc := "()I" } : Jvm.MethodName) prog_40_method_7_code (1 : Nat) (Option.some Jvm.ClassFile.FieldType.int), Jvm.Cond.code ({ cls := "com/example/prune_to_fit/prunetofit/sat/Cnf", name := "clauseCount", desc := "()I" } : Jvm.MethodName) prog_40_method_8_code (1 : Nat) (Option.some Jvm.ClassFile.FieldType.int), Jvm.Cond.code ({ cls := "java/util/ArrayList", name := "size", desc := "()I" } : Jvm.MethodName) jdk_38_method_8_code (1 : Nat) (Option.some Jvm.ClassFile.FieldType.int), Jvm.Cond.code ({ cls := "com/example/prune_to_fit/prunetofit/sat/Cnf", name := "literalCount", desc := "()I" } : Jvm.MethodName) prog_40_method_9_code (1 : Nat) (Option.some Jvm.ClassFile.FieldType.int), Jvm.Cond.code ({ cls := "com/example/prune_to_fit/prunetofit/sat/Cnf", name := "add", desc := "([I)V" } : Jvm.MethodName) prog_40_method_3_code (8 : Nat) (Option.none : Option Jvm.ClassFile.FieldType), Jvm.Cond.code ({ cls := "com/example/prune_to_fit/prunetofit/sat/Cnf", name := "requireLiteral", desc := "(I)I" } : Jvm.MethodName) prog_40_method_12_code (3 : Nat) (Option.some Jvm.ClassFile.FieldType.int), Jvm.Cond.code ({ cls := "java/util/Arrays", name := "copyOf", desc := "([II)[I" } : Jvm.MethodName) jdk_65_method_123_code (3 : Nat) (Option.some (Jvm.ClassFile.FieldType.array Jvm.ClassFile.FieldType.int)), Jvm.Cond.code ({ cls := "java/util/ArrayList", name := "add", desc := "(Ljava/lang/Object;)Z" } : Jvm.MethodName) jdk_38_method_25_code (2 : Nat) (Option.some Jvm.ClassFile.FieldType.boolean), Jvm.Cond.code ({ cls := "java/util/ArrayList", name := "add", desc := "(Ljava/lang/Object;[Ljava/lang/Object;I)V" } : Jvm.MethodName) jdk_38_method_24_code (4 : Nat) (Option.none : Option Jvm.ClassFile.FieldType), Jvm.Cond.code ({ cls := "java/util/ArrayList", name := "grow", desc := "()[Ljava/lang/Object;" } : Jvm.MethodName) jdk_38_method_7_code (1 : Nat) (Option.some (Jvm.ClassFile.FieldType.array (Jvm.ClassFile.FieldType.object "java/lang/Object"))), Jvm.Cond.code ({ cls := "java/util/ArrayList", name := "grow", desc := "(I)[Ljava/lang/Object;" } : Jvm.MethodName) jdk_38_method_6_code (4 : Nat) (Option.some (Jvm.ClassFile.FieldType.array (Jvm.ClassFile.FieldType.object "java/lang/Object"))), Jvm.Cond.code ({ cls := "java/lang/Math", name := "max", desc := "(II)I" } : Jvm.MethodName) jdk_29_method_65_code (2 : Nat) (Option.some Jvm.ClassFile.FieldType.int)]
set_option maxRecDepth 65536 in
theorem codes_eq : words1.filter isCode = codes1 := rfl
theorem w_codes : ∀ c ∈ words1.filter isCode, c.before args0 about1 = true := by
  rw [codes_eq]
  intro c hc
  simp only [codes1, List.mem_cons, List.not_mem_nil, or_false] at hc
  rcases hc with rfl | rfl | rfl | rfl | rfl | rfl | rfl | rfl | rfl | rfl | rfl | rfl | rfl | rfl | rfl | rfl | rfl | rfl | rfl
  · exact w_c0
  · exact w_c1
  · exact w_c2
  · exact w_c3
  · exact w_c4
  · exact w_c5
  · exact w_c6
  · exact w_c7
  · exact w_c8
  · exact w_c9
  · exact w_c10
  · exact w_c11
  · exact w_c12
  · exact w_c13
  · exact w_c14
  · exact w_c15
  · exact w_c16
  · exact w_c17
  · exact w_c18
set_option maxRecDepth 65536 in
theorem w_t1 : (words1.take 24).all (fun c => isCode c || c.before args0 about1) = true := by decide +kernel
set_option maxRecDepth 65536 in
theorem w_t2 : ((words1.drop 24).take 24).all (fun c => isCode c || c.before args0 about1) = true := by decide +kernel
set_option maxRecDepth 65536 in
theorem w_t3 : (((words1.drop 24).drop 24).take 24).all (fun c => isCode c || c.before args0 about1) = true := by decide +kernel
set_option maxRecDepth 65536 in
theorem w_t4 : ((((words1.drop 24).drop 24).drop 24).take 24).all (fun c => isCode c || c.before args0 about1) = true := by decide +kernel
set_option maxRecDepth 65536 in
theorem w_t5 : (((((words1.drop 24).drop 24).drop 24).drop 24).take 24).all (fun c => isCode c || c.before args0 about1) = true := by decide +kernel
set_option maxRecDepth 65536 in
theorem w_t6 : (((((words1.drop 24).drop 24).drop 24).drop 24).drop 24).all (fun c => isCode c || c.before args0 about1) = true := by decide +kernel
theorem w_tables : (allAtoms (Jvm.Cond.code x code maxLocals ret :: tables_1)).before args0 about1 = true := by
  rw [allAtoms_all]
  show words1.all (fun c => c.before args0 about1) = true
  refine all_split ?_ w_codes
  rw [← List.take_append_drop 24 words1, List.all_append, w_t1, ← List.take_append_drop 24 (words1.drop 24), List.all_append, w_t2, ← List.take_append_drop 24 ((words1.drop 24).drop 24), List.all_append, w_t3, ← List.take_append_drop 24 (((words1.drop 24).drop 24).drop 24), List.all_append, w_t4, ← List.take_append_drop 24 ((((words1.drop 24).drop 24).drop 24).drop 24), List.all_append, w_t5, w_t6]
  rfl
set_option maxRecDepth 65536 in
theorem w_rest : rest_1_c.before args0 about1 = true := by decide +kernel
set_option maxRecDepth 65536 in
theorem w_case : (Jvm.Cond.and given_1 narrow_1).before args0 about1 = true := by decide +kernel
theorem w_applies : (headSpec (Jvm.Cond.code x code maxLocals ret :: tables_1) room_1).applies x e0.platform about1 = true :=
  (Spec.applies_iff w_frames).mpr ⟨w_running, w_runnable, w_alone, w_named, w_hears, w_ripe, w_room, w_tables⟩
theorem atStart : AtStart classFile x code maxLocals ret World_1 tables_1 room_1 Calls_1 rest_1 Pre_1 launch0 p0 e0 about1 theMethod args0 below0 :=
  ⟨lists_1, trivial, launch0.admits_env _ _ _, launch0.least_env, fairChoices_fair.cas, fairChoices_fair.clock, w_frames, w_args, w_heap, w_applies, trivial, w_rest, w_case⟩
end start1
theorem witness_1 : WitnessClaimed_1 := ⟨start1.p0, start1.e0, start1.about1, start1.theMethod, start1.args0, start1.below0, start1.atStart⟩
end Jvm.Pilot.@@N@@
