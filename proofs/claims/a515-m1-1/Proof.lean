import JvmDerived
import JvmDerived.Pilot.@@N@@Statement
import JvmDerived.Pilot.@@N@@Code
set_option linter.unusedVariables false
set_option linter.unusedSimpArgs false
namespace Jvm.RoadKit
open Sem ClassFile Op Lib Jvm.Stand Jvm.Free Jvm.LawKit
section New
variable {p : Program} {l : Launch} {e : Env} {R : Room} {s : State} {m : MethodId} {args : Array Value} {below : List Frame} {meth : Method} {c : Code} {T : State} {locs : List Loc} {cells slots : Nat}
theorem retI (X : Stand p l e R s m args below meth c T locs cells slots) (hx : p.tables.exec = Jvm.exec) {pc : Nat} {Ls : Array Slot} {z : Int32} {rest : List Value} (hret : meth.sig.returnType = some .int) (hd : decode c.code pc = .ok (.ireturn, 1)) {fs : List Frame}
    (hl : ∀ (f : JFrame) (acts : List Action), f.method = m → f.locked = none → f.entered = [] → (doReturn e (T.setTop f) acts (some (.int z))).1 = T.setFrames fs) : Steps p.tables e below (T.setTop (mkF m pc Ls (.int z :: rest))) (T.setFrames fs) := by
  have hm' : T.vm.method? m = some meth := X.method'
  have hn : narrow .int (.int z) = .int z := rfl
  show Steps p.tables e below (T.setTop { method := m, pc := pc, locals := Ls, stack := _ :: rest, locked := none }) _
  jvm_step X.here [X.here.top, hx, hd, hm', hret, hn]
  first | (intro acts; rw [hl _ acts rfl rfl rfl]) | rw [hl _ _ rfl rfl rfl]
  exact Steps.refl _
end New
end Jvm.RoadKit
namespace Jvm.Pilot.@@N@@
open Jvm Jvm.ClassFile Sem Op Lib Jvm.Free Jvm.Stand Jvm.LawKit Jvm.RoadKit Bundle Jvm.Pilot.@@N@@.Jvm.D
theorem own_eq_int {args : Array Value} {s : State} {t : Term} {k : Int32} (h : (Cond.eq t (.int k)).value args s none s [] = some true) : t.eval args s none [] s = some (.int k) := by
  obtain ⟨x, y, ha, hb, hk, -⟩ := cmp_v (Or.inl h)
  have hb' : (Term.int k).eval args s none [] s = some (.int k) := rfl
  rw [hb'] at hb; cases hb
  cases x with
  | int z =>
    have := Cond.value.eq_def
    simp [Cond.value, ha, hb'] at h
    rw [ha, h]
  | _ => simp [Kin, Value.isRef] at hk

theorem pn_1 : plainName "com/example/hopwise/hopwise/node/Message$Answer$Kind" = true := by first | (simp [plainName, overriddenIn]; done) | decide +kernel
theorem d1_0 : decode prog_94_method_4_code 0 = .ok (.aload_n 0, 1) := by decide +kernel
theorem d1_1 : decode prog_94_method_4_code 1 = .ok (.getstatic 3, 3) := by decide +kernel
theorem d1_4 : decode prog_94_method_4_code 4 = .ok (.if_acmp .eq 10, 3) := by decide +kernel
theorem d1_14 : decode prog_94_method_4_code 14 = .ok (.iconst 1, 1) := by decide +kernel
theorem d1_15 : decode prog_94_method_4_code 15 = .ok (.goto 4, 3) := by decide +kernel
theorem d1_7 : decode prog_94_method_4_code 7 = .ok (.aload_n 0, 1) := by decide +kernel
theorem d1_8 : decode prog_94_method_4_code 8 = .ok (.getstatic 19, 3) := by decide +kernel
theorem d1_11 : decode prog_94_method_4_code 11 = .ok (.if_acmp .ne 7, 3) := by decide +kernel
theorem d1_18 : decode prog_94_method_4_code 18 = .ok (.iconst 0, 1) := by decide +kernel
theorem ef_1 (m : MethodId) (x0 : Addr) : entryFrame m #[(.ref x0)] 1 = mkF m 0 #[.val (.ref x0)] [] := by first | (simp [entryFrame, mkF, argsToLocals, Value.category]; done) | rfl
def f1 (a0 : Addr) (w_FOUND : Addr) (w_COLLIDED : Addr) : Int32 := (let j9 : Int32 := (if a0 = w_FOUND then (1 : Int32) else (if a0 = w_COLLIDED then (1 : Int32) else (0 : Int32))); (nar .boolean j9))
def Q1 (Z : State) (a0 : Addr) (w_FOUND : Addr) (w_COLLIDED : Addr) (h0 : Heap) (n0 : Nat) (v : Option Value) (h : Heap) (L : List Loc) : Prop := v = some (.int (f1 a0 w_FOUND w_COLLIDED)) ∧ Fr n0 L ∧ h = h0
theorem d1_19 : decode prog_94_method_4_code 19 = .ok (.ireturn, 1) := by decide +kernel
set_option maxRecDepth 65536 in
set_option maxHeartbeats 40000000 in
theorem rm1 (l : Launch) (Z : State) (aw : Array Value) (hw : ∀ d ∈ tables_1, d.before aw Z = true) (ws : List Jvm.Cond) (a0 : Addr) (w_FOUND : Addr) (w_COLLIDED : Addr) (h0 : Heap) (n0 : Nat) (Z0 : n0 ≤ h0.size) (S_FOUND : Sta Z h0 "com/example/hopwise/hopwise/node/Message$Answer$Kind" "FOUND" "Lcom/example/hopwise/hopwise/node/Message$Answer$Kind;" (.ref w_FOUND)) (S_COLLIDED : Sta Z h0 "com/example/hopwise/hopwise/node/Message$Answer$Kind" "COLLIDED" "Lcom/example/hopwise/hopwise/node/Message$Answer$Kind;" (.ref w_COLLIDED)) :
    MetFree l (⟨"com/example/hopwise/hopwise/node/Message$Answer$Kind", "carriesBlock", "()Z"⟩ : MethodName) (head1 (Jvm.Cond.code (⟨"com/example/hopwise/hopwise/node/Message$Answer$Kind", "carriesBlock", "()Z"⟩ : MethodName) prog_94_method_4_code 1 (some .boolean) :: ws) ({ frames := 0, cells := 0, slots := 0, locals := 0 } : Room)) (fun a U => a = #[(.ref a0)] ∧ Z.Warmed39 U.vm ∧ U.heap = h0) (fun _ _ _ _ _ => True) (fun _ U o U' => ∃ v L, o = .returned v ∧ Q1 Z a0 w_FOUND w_COLLIDED h0 n0 v U'.heap L ∧ FrameEnd U o U' L ({ frames := 0, cells := 0, slots := 0, locals := 0 } : Room).cells ({ frames := 0, cells := 0, slots := 0, locals := 0 } : Room).slots) := by
  refine MetFree.of_bodySF (plainFor_of_name pn_1) hisR ?_
  intro p e s m args below meth c s₁ Bd hml0 hP hK
  obtain ⟨rfl, hZ, hh⟩ := hP
  have hx := Bd.exec
  have hby := Bd.bytes
  have hml : c.maxLocals = 1 := hml0
  have hown : s.vm.findClass "com/example/hopwise/hopwise/node/Message$Answer$Kind" = some m.cls := findClass_of_methodNamed Bd.named
  have hnm := (name_of_methodNamed Bd.named Bd.method).1
  have X0 : Stand p l e ({ frames := 0, cells := 0, slots := 0, locals := 0 } : Room) s m #[(.ref a0)] below meth c s₁ [] 0 0 := Stand.of_body Bd
  have e0 : s₁.heap = h0 := by rw [← hh, Bd.state]; rfl
  have N0 := Fr.nil n0
  have pre0 : ∀ t, Steps p.tables e below (s₁.setTop (mkF m 0 #[.val (.ref a0)] [])) t → Steps p.tables e below (s₁.setTop (entryFrame m #[(.ref a0)] 1)) t := fun t k => castTop (ef_1 m a0) k
  have pre1 : ∀ t, Steps p.tables e below (s₁.setTop (mkF m 1 #[.val (.ref a0)] [(.ref a0)])) t → Steps p.tables e below (s₁.setTop (entryFrame m #[(.ref a0)] 1)) t := fun t k => pre0 t (by
    show Steps p.tables e below (s₁.setTop (mkF m 0 #[.val (.ref a0)] [])) _
    refine XS.aloadN X0.here hx rfl (hb hby d1_0) rfl rfl ?_
    exact k)
  obtain ⟨T2, X2, e2, st2⟩ := getS2 X0 hx hZ hown (host := "") (Or.inl (hw _ (List.mem_of_getElem? (i := 9) rfl))) Via.refl e0 S_FOUND (g := (mkF m 1 #[.val (.ref a0)] [(.ref a0)])) rfl (hb hby d1_1)
  have pre3 : ∀ t, Steps p.tables e below (T2.setTop (mkF m 4 #[.val (.ref a0)] [(.ref w_FOUND), (.ref a0)])) t → Steps p.tables e below (s₁.setTop (entryFrame m #[(.ref a0)] 1)) t := fun t k => pre1 t (by
    show Steps p.tables e below (s₁.setTop (mkF m 1 #[.val (.ref a0)] [(.ref a0)])) _
    refine st2 _ ?_
    exact k)
  obtain ⟨T11, LjT11, j9, X11, N11, e11, hj9, pre10⟩ : ∃ (T11 : State) (LjT11 : List Loc) (j9 : Int32), Stand p l e ({ frames := 0, cells := 0, slots := 0, locals := 0 } : Room) s m #[(.ref a0)] below meth c T11 LjT11 0 0 ∧ Fr n0 LjT11 ∧ T11.heap = h0 ∧ j9 = (if a0 = w_FOUND then (1 : Int32) else (if a0 = w_COLLIDED then (1 : Int32) else (0 : Int32))) ∧ ∀ t, Steps p.tables e below (T11.setTop (mkF m 19 #[.val (.ref a0)] [(.int j9)])) t → Steps p.tables e below (s₁.setTop (entryFrame m #[(.ref a0)] 1)) t := by
    by_cases hc4 : a0 = w_FOUND
    · exact ⟨_, _, (1 : Int32), X2, N0, e2, (by rw [if_pos hc4]), fun t k => pre3 t (by
        show Steps p.tables e below (T2.setTop (mkF m 4 #[.val (.ref a0)] [(.ref w_FOUND), (.ref a0)])) _
        refine Jvm.RoadKit.acmp (g := (mkF m 4 #[.val (.ref a0)] [(.ref w_FOUND), (.ref a0)])) X2 hx rfl rfl rfl (pc0 := 4) (pc' := 14) (same := true) rfl (hb hby d1_4) rfl (decide_eq_true (congrArg Value.ref hc4)) (by decide) (by decide) ?_
        show Steps p.tables e below (T2.setTop (mkF m 14 #[.val (.ref a0)] [])) _
        refine XS.iconst X2.here hx rfl (hb hby d1_14) ?_
        show Steps p.tables e below (T2.setTop (mkF m 15 #[.val (.ref a0)] [(.int (1 : Int32))])) _
        refine XS.goto X2.here hx rfl (pc0 := 15) (pc' := 19) rfl (hb hby d1_15) (by decide) (by decide) ?_
        exact k)⟩
    · have pre5 : ∀ t, Steps p.tables e below (T2.setTop (mkF m 8 #[.val (.ref a0)] [(.ref a0)])) t → Steps p.tables e below (s₁.setTop (entryFrame m #[(.ref a0)] 1)) t := fun t k => pre3 t (by
        show Steps p.tables e below (T2.setTop (mkF m 4 #[.val (.ref a0)] [(.ref w_FOUND), (.ref a0)])) _
        refine Jvm.RoadKit.acmp (g := (mkF m 4 #[.val (.ref a0)] [(.ref w_FOUND), (.ref a0)])) X2 hx rfl rfl rfl (pc0 := 4) (pc' := 7) (same := false) rfl (hb hby d1_4) rfl (decide_eq_false fun q => hc4 (Value.ref.inj q)) (by decide) (by decide) ?_
        show Steps p.tables e below (T2.setTop (mkF m 7 #[.val (.ref a0)] [])) _
        refine XS.aloadN X2.here hx rfl (hb hby d1_7) rfl rfl ?_
        exact k)
      obtain ⟨T6, X6, e6, st6⟩ := getS2 X2 hx hZ hown (host := "") (Or.inl (hw _ (List.mem_of_getElem? (i := 12) rfl))) Via.refl e2 S_COLLIDED (g := (mkF m 8 #[.val (.ref a0)] [(.ref a0)])) rfl (hb hby d1_8)
      have pre7 : ∀ t, Steps p.tables e below (T6.setTop (mkF m 11 #[.val (.ref a0)] [(.ref w_COLLIDED), (.ref a0)])) t → Steps p.tables e below (s₁.setTop (entryFrame m #[(.ref a0)] 1)) t := fun t k => pre5 t (by
        show Steps p.tables e below (T2.setTop (mkF m 8 #[.val (.ref a0)] [(.ref a0)])) _
        refine st6 _ ?_
        exact k)
      by_cases hc8 : a0 = w_COLLIDED
      · exact ⟨_, _, (1 : Int32), X6, N0, e6, (by rw [if_neg hc4, if_pos hc8]), fun t k => pre7 t (by
          show Steps p.tables e below (T6.setTop (mkF m 11 #[.val (.ref a0)] [(.ref w_COLLIDED), (.ref a0)])) _
          refine Jvm.RoadKit.acmp (g := (mkF m 11 #[.val (.ref a0)] [(.ref w_COLLIDED), (.ref a0)])) X6 hx rfl rfl rfl (pc0 := 11) (pc' := 14) (same := true) rfl (hb hby d1_11) rfl (decide_eq_true (congrArg Value.ref hc8)) (by decide) (by decide) ?_
          show Steps p.tables e below (T6.setTop (mkF m 14 #[.val (.ref a0)] [])) _
          refine XS.iconst X6.here hx rfl (hb hby d1_14) ?_
          show Steps p.tables e below (T6.setTop (mkF m 15 #[.val (.ref a0)] [(.int (1 : Int32))])) _
          refine XS.goto X6.here hx rfl (pc0 := 15) (pc' := 19) rfl (hb hby d1_15) (by decide) (by decide) ?_
          exact k)⟩
      · exact ⟨_, _, (0 : Int32), X6, N0, e6, (by rw [if_neg hc4, if_neg hc8]), fun t k => pre7 t (by
          show Steps p.tables e below (T6.setTop (mkF m 11 #[.val (.ref a0)] [(.ref w_COLLIDED), (.ref a0)])) _
          refine Jvm.RoadKit.acmp (g := (mkF m 11 #[.val (.ref a0)] [(.ref w_COLLIDED), (.ref a0)])) X6 hx rfl rfl rfl (pc0 := 11) (pc' := 18) (same := false) rfl (hb hby d1_11) rfl (decide_eq_false fun q => hc8 (Value.ref.inj q)) (by decide) (by decide) ?_
          show Steps p.tables e below (T6.setTop (mkF m 18 #[.val (.ref a0)] [])) _
          refine XS.iconst X6.here hx rfl (hb hby d1_18) ?_
          exact k)⟩
  obtain ⟨fs, hr, hrun, hended, hW, hsame⟩ := X11.leave (v := some (.int (nar .boolean j9))) (fun h => by rw [Bd.returns] at h; cases h)
  refine ⟨_, _, pre10 _ ?_, hrun, hended, _, _, rfl, ?_, ⟨_, rfl⟩, hW, hsame.mono (by decide) (by decide)⟩
  · show Steps p.tables e below (T11.setTop (mkF m 19 #[.val (.ref a0)] [(.int j9)])) _
    exact retN X11 hx (t := .boolean) Bd.returns (by simp) (hb hby d1_19) hr
  · show Q1 Z a0 w_FOUND w_COLLIDED h0 n0 _ T11.heap _
    rw [e11]
    exact ⟨congrArg (fun z => some (Value.int z)) (by subst hj9; rfl), N11, rfl⟩
theorem pn_0 : plainName "com/example/hopwise/hopwise/node/KindCarriesBlockPinLaw" = true := by first | (simp [plainName, overriddenIn]; done) | decide +kernel
theorem pd_0 : parseMethodDescriptor "()Z" = some ⟨[], some .boolean⟩ := by decide +kernel
theorem ef_0 (m : MethodId) (x0 : Int32) : entryFrame m #[(.int x0)] maxLocals = mkF m 0 #[.val (.int x0), .unset, .unset, .unset] [] := by first | (simp [entryFrame, mkF, argsToLocals, Value.category, maxLocals]; done) | rfl
def f0 (p0 : Int32) (w_FOUND : Addr) (w_COLLIDED : Addr) (w_NOT_FOUND : Addr) (w_INSERTED : Addr) (w_NO_ROUTE : Addr) (w_LOOP : Addr) : Int32 := (let v2 : Int32 := ((p0 &&& (2147483647 : Int32)) % (6 : Int32)); (if v2 = (0 : Int32) then (let j12 : Int32 := (if (f1 w_FOUND w_FOUND w_COLLIDED) = (1 : Int32) then (1 : Int32) else (0 : Int32)); (nar .boolean j12)) else (if v2 = (1 : Int32) then (let j22 : Int32 := (if (f1 w_NOT_FOUND w_FOUND w_COLLIDED) = (0 : Int32) then (1 : Int32) else (0 : Int32)); (nar .boolean j22)) else (if v2 = (2 : Int32) then (let j32 : Int32 := (if (f1 w_INSERTED w_FOUND w_COLLIDED) = (0 : Int32) then (1 : Int32) else (0 : Int32)); (nar .boolean j32)) else (if v2 = (3 : Int32) then (let j42 : Int32 := (if (f1 w_NO_ROUTE w_FOUND w_COLLIDED) = (0 : Int32) then (1 : Int32) else (0 : Int32)); (nar .boolean j42)) else (if v2 = (4 : Int32) then (let j52 : Int32 := (if (f1 w_LOOP w_FOUND w_COLLIDED) = (0 : Int32) then (1 : Int32) else (0 : Int32)); (nar .boolean j52)) else (let j60 : Int32 := (if (f1 w_COLLIDED w_FOUND w_COLLIDED) = (1 : Int32) then (1 : Int32) else (0 : Int32)); (nar .boolean j60))))))))
def Q0 (Z : State) (p0 : Int32) (w_FOUND : Addr) (w_COLLIDED : Addr) (w_NOT_FOUND : Addr) (w_INSERTED : Addr) (w_NO_ROUTE : Addr) (w_LOOP : Addr) (h0 : Heap) (n0 : Nat) (v : Option Value) (h : Heap) (L : List Loc) : Prop := v = some (.int (1 : Int32)) ∧ Fr n0 L
set_option maxRecDepth 65536 in
set_option maxHeartbeats 40000000 in
theorem rm0 (l : Launch) (Z : State) (aw : Array Value) (hw : ∀ d ∈ tables_1, d.before aw Z = true) (ws : List Jvm.Cond) (p0 : Int32) (w_FOUND : Addr) (w_COLLIDED : Addr) (w_NOT_FOUND : Addr) (w_INSERTED : Addr) (w_NO_ROUTE : Addr) (w_LOOP : Addr) (h0 : Heap) (n0 : Nat) (Z0 : n0 ≤ h0.size) (S_FOUND : Sta Z h0 "com/example/hopwise/hopwise/node/Message$Answer$Kind" "FOUND" "Lcom/example/hopwise/hopwise/node/Message$Answer$Kind;" (.ref w_FOUND)) (S_COLLIDED : Sta Z h0 "com/example/hopwise/hopwise/node/Message$Answer$Kind" "COLLIDED" "Lcom/example/hopwise/hopwise/node/Message$Answer$Kind;" (.ref w_COLLIDED)) (E_w_FOUND : Exa Z h0 w_FOUND "com/example/hopwise/hopwise/node/Message$Answer$Kind") (S_NOT_FOUND : Sta Z h0 "com/example/hopwise/hopwise/node/Message$Answer$Kind" "NOT_FOUND" "Lcom/example/hopwise/hopwise/node/Message$Answer$Kind;" (.ref w_NOT_FOUND)) (E_w_NOT_FOUND : Exa Z h0 w_NOT_FOUND "com/example/hopwise/hopwise/node/Message$Answer$Kind") (S_INSERTED : Sta Z h0 "com/example/hopwise/hopwise/node/Message$Answer$Kind" "INSERTED" "Lcom/example/hopwise/hopwise/node/Message$Answer$Kind;" (.ref w_INSERTED)) (E_w_INSERTED : Exa Z h0 w_INSERTED "com/example/hopwise/hopwise/node/Message$Answer$Kind") (S_NO_ROUTE : Sta Z h0 "com/example/hopwise/hopwise/node/Message$Answer$Kind" "NO_ROUTE" "Lcom/example/hopwise/hopwise/node/Message$Answer$Kind;" (.ref w_NO_ROUTE)) (E_w_NO_ROUTE : Exa Z h0 w_NO_ROUTE "com/example/hopwise/hopwise/node/Message$Answer$Kind") (S_LOOP : Sta Z h0 "com/example/hopwise/hopwise/node/Message$Answer$Kind" "LOOP" "Lcom/example/hopwise/hopwise/node/Message$Answer$Kind;" (.ref w_LOOP)) (E_w_LOOP : Exa Z h0 w_LOOP "com/example/hopwise/hopwise/node/Message$Answer$Kind") (E_w_COLLIDED : Exa Z h0 w_COLLIDED "com/example/hopwise/hopwise/node/Message$Answer$Kind") (hlaw : f0 p0 w_FOUND w_COLLIDED w_NOT_FOUND w_INSERTED w_NO_ROUTE w_LOOP = 1) :
    MetFree l x (head1 (Jvm.Cond.code x code maxLocals ret :: ws) room_1) (fun a U => a = #[(.int p0)] ∧ Z.Warmed39 U.vm ∧ U.heap = h0) (fun _ _ _ _ _ => True) (fun _ U o U' => ∃ v L, o = .returned v ∧ Q0 Z p0 w_FOUND w_COLLIDED w_NOT_FOUND w_INSERTED w_NO_ROUTE w_LOOP h0 n0 v U'.heap L ∧ FrameEnd U o U' L room_1.cells room_1.slots) := by
  refine MetFree.of_bodySF (plainFor_of_name pn_0) hisR ?_
  intro p e s m args below meth c s₁ Bd hml0 hP hK
  obtain ⟨rfl, hZ, hh⟩ := hP
  have hx := Bd.exec
  have hby := Bd.bytes
  have hml : c.maxLocals = 4 := hml0
  have hown : s.vm.findClass "com/example/hopwise/hopwise/node/KindCarriesBlockPinLaw" = some m.cls := findClass_of_methodNamed Bd.named
  have hnm := (name_of_methodNamed Bd.named Bd.method).1
  have X0 : Stand p l e room_1 s m #[(.int p0)] below meth c s₁ [] 0 0 := Stand.of_body Bd
  have e0 : s₁.heap = h0 := by rw [← hh, Bd.state]; rfl
  have N0 := Fr.nil n0
  have pre0 : ∀ t, Steps p.tables e below (s₁.setTop (mkF m 0 #[.val (.int p0), .unset, .unset, .unset] [])) t → Steps p.tables e below (s₁.setTop (entryFrame m #[(.int p0)] maxLocals)) t := fun t k => castTop (ef_0 m p0) k
  have pre1 : ∀ t, Steps p.tables e below (s₁.setTop (mkF m 7 #[.val (.int p0), .unset, .unset, .unset] [(.int ((p0 &&& (2147483647 : Int32)) % (6 : Int32)))])) t → Steps p.tables e below (s₁.setTop (entryFrame m #[(.int p0)] maxLocals)) t := fun t k => pre0 t (by
    show Steps p.tables e below (s₁.setTop (mkF m 0 #[.val (.int p0), .unset, .unset, .unset] [])) _
    refine XS.iloadN X0.here hx rfl (hb hby at_0) rfl ?_
    show Steps p.tables e below (s₁.setTop (mkF m 1 #[.val (.int p0), .unset, .unset, .unset] [(.int p0)])) _
    refine X0.ldcInt hx hown (mvT hZ (hw _ (List.mem_of_getElem? (i := 0) rfl))) (g := (mkF m 1 #[.val (.int p0), .unset, .unset, .unset] [(.int p0)])) rfl (hb hby at_1) _ ?_
    show Steps p.tables e below (s₁.setTop (mkF m 3 #[.val (.int p0), .unset, .unset, .unset] [(.int (2147483647 : Int32)), (.int p0)])) _
    refine XS.iand X0.here hx rfl (hb hby at_3) rfl ?_
    show Steps p.tables e below (s₁.setTop (mkF m 4 #[.val (.int p0), .unset, .unset, .unset] [(.int (p0 &&& (2147483647 : Int32)))])) _
    refine XS.bipush X0.here hx rfl (hb hby at_4) ?_
    show Steps p.tables e below (s₁.setTop (mkF m 6 #[.val (.int p0), .unset, .unset, .unset] [(.int (6 : Int32)), (.int (p0 &&& (2147483647 : Int32)))])) _
    refine iremM X0 hx rfl (hb hby at_6) rfl (by decide) ?_
    exact k)
  obtain ⟨v2, hv2⟩ : ∃ z : Int32, z = ((p0 &&& (2147483647 : Int32)) % (6 : Int32)) := ⟨_, rfl⟩
  have pre3 : ∀ t, Steps p.tables e below (s₁.setTop (mkF m 7 #[.val (.int p0), .unset, .unset, .unset] [(.int v2)])) t → Steps p.tables e below (s₁.setTop (entryFrame m #[(.int p0)] maxLocals)) t := fun t k => pre1 t (by rw [hv2] at k; exact k)
  have pre4 : ∀ t, Steps p.tables e below (s₁.setTop (mkF m 9 #[.val (.int p0), .val (.int v2), .unset, .unset] [(.int v2)])) t → Steps p.tables e below (s₁.setTop (entryFrame m #[(.int p0)] maxLocals)) t := fun t k => pre3 t (by
    show Steps p.tables e below (s₁.setTop (mkF m 7 #[.val (.int p0), .unset, .unset, .unset] [(.int v2)])) _
    refine XS.istoreN X0.here hx rfl (hb hby at_7) rfl (l' := #[.val (.int p0), .val (.int v2), .unset, .unset]) rfl ?_
    show Steps p.tables e below (s₁.setTop (mkF m 8 #[.val (.int p0), .val (.int v2), .unset, .unset] [])) _
    refine XS.iloadN X0.here hx rfl (hb hby at_8) rfl ?_
    exact k)
  by_cases hc5 : v2 = (0 : Int32)
  · have pre6 : ∀ t, Steps p.tables e below (s₁.setTop (mkF m 12 #[.val (.int p0), .val (.int v2), .unset, .unset] [])) t → Steps p.tables e below (s₁.setTop (entryFrame m #[(.int p0)] maxLocals)) t := fun t k => pre4 t (by
      show Steps p.tables e below (s₁.setTop (mkF m 9 #[.val (.int p0), .val (.int v2), .unset, .unset] [(.int v2)])) _
      refine XS.ifNo X0.here hx rfl (hb hby at_9) rfl ((if0 _ _).trans (teq hc5).2) ?_
      exact k)
    obtain ⟨T7, X7, e7, st7⟩ := getS2 X0 hx hZ hown (host := "") (Or.inl (hw _ (List.mem_of_getElem? (i := 1) rfl))) Via.refl e0 S_FOUND (g := (mkF m 12 #[.val (.int p0), .val (.int v2), .unset, .unset] [])) rfl (hb hby at_12)
    have pre8 : ∀ t, Steps p.tables e below (T7.setTop (mkF m 84 #[.val (.int p0), .val (.int v2), .val (.ref w_FOUND), .val (.int (1 : Int32))] [(.ref w_FOUND)])) t → Steps p.tables e below (s₁.setTop (entryFrame m #[(.int p0)] maxLocals)) t := fun t k => pre6 t (by
      show Steps p.tables e below (s₁.setTop (mkF m 12 #[.val (.int p0), .val (.int v2), .unset, .unset] [])) _
      refine st7 _ ?_
      show Steps p.tables e below (T7.setTop (mkF m 15 #[.val (.int p0), .val (.int v2), .unset, .unset] [(.ref w_FOUND)])) _
      refine XS.astoreN X7.here hx rfl (hb hby at_15) rfl rfl (l' := #[.val (.int p0), .val (.int v2), .val (.ref w_FOUND), .unset]) rfl ?_
      show Steps p.tables e below (T7.setTop (mkF m 16 #[.val (.int p0), .val (.int v2), .val (.ref w_FOUND), .unset] [])) _
      refine XS.iconst X7.here hx rfl (hb hby at_16) ?_
      show Steps p.tables e below (T7.setTop (mkF m 17 #[.val (.int p0), .val (.int v2), .val (.ref w_FOUND), .unset] [(.int (1 : Int32))])) _
      refine XS.istoreN X7.here hx rfl (hb hby at_17) rfl (l' := #[.val (.int p0), .val (.int v2), .val (.ref w_FOUND), .val (.int (1 : Int32))]) rfl ?_
      show Steps p.tables e below (T7.setTop (mkF m 18 #[.val (.int p0), .val (.int v2), .val (.ref w_FOUND), .val (.int (1 : Int32))] [])) _
      refine XS.goto X7.here hx rfl (pc0 := 18) (pc' := 83) rfl (hb hby at_18) (by decide) (by decide) ?_
      show Steps p.tables e below (T7.setTop (mkF m 83 #[.val (.int p0), .val (.int v2), .val (.ref w_FOUND), .val (.int (1 : Int32))] [])) _
      refine XS.aloadN X7.here hx rfl (hb hby at_83) rfl rfl ?_
      exact k)
    obtain ⟨cq9, kq9, q9a, q9b, q9c⟩ := isOf hZ e7 E_w_FOUND
    obtain ⟨_, _, ⟨T9, L9, k9, n9⟩, -, X9, ⟨Lc9, hQ9, l9, y9, z9⟩, st9⟩ := X7.virtualBack hx (y := (⟨"com/example/hopwise/hopwise/node/Message$Answer$Kind", "carriesBlock", "()Z"⟩ : MethodName)) (z := (⟨"com/example/hopwise/hopwise/node/Message$Answer$Kind", "carriesBlock", "()Z"⟩ : MethodName)) hown (mvT hZ (hw _ (List.mem_of_getElem? (i := 4) rfl))) (mvT hZ (hw _ (List.mem_of_getElem? (i := 5) rfl))) (notFace_of_selects (args := #[]) (mvT hZ (hw _ (List.mem_of_getElem? (i := 7) rfl)))) (mvT hZ (hw _ (List.mem_of_getElem? (i := 7) rfl))) (mvT hZ (hw _ (List.mem_of_getElem? (i := 6) rfl))) (by decide) (backOf (W := 0) (rm1 l Z aw hw [] w_FOUND w_FOUND w_COLLIDED h0 n0 Z0 S_FOUND S_COLLIDED) hZ (hw _ (List.mem_of_getElem? (i := 8) rfl)) (hw _ (List.mem_of_getElem? (i := 2) rfl)) (by decide) (by decide)) q9a q9c (g := (mkF m 84 #[.val (.int p0), .val (.int v2), .val (.ref w_FOUND), .val (.int (1 : Int32))] [(.ref w_FOUND)])) rfl (by rw [hml]; rfl) (Steps.refl _) (argsL := []) (rest := []) (lenOf pd_0 rfl) rfl (by show 2 * 0 + _ ≤ _; exact Nat.le_of_eq rfl) (hb hby at_84) (fun _ _ => ⟨rfl, e7, (by decide : 0 + 0 ≤ _), (by decide : 0 + 0 ≤ _)⟩)
    dsimp only [Pt.U, Pt.locs, Pt.cells, Pt.slots] at X9 l9 y9 z9 st9 hQ9
    subst l9 y9 z9
    obtain ⟨rfl, N9q, e9⟩ := hQ9
    have N9 := Fr.app N0 N9q
    have pre10 : ∀ t, Steps p.tables e below (T9.setTop (mkF m 88 #[.val (.int p0), .val (.int v2), .val (.ref w_FOUND), .val (.int (1 : Int32))] [(.int (1 : Int32)), (.int (f1 w_FOUND w_FOUND w_COLLIDED))])) t → Steps p.tables e below (s₁.setTop (entryFrame m #[(.int p0)] maxLocals)) t := fun t k => pre8 t (by
      show Steps p.tables e below (T7.setTop (mkF m 84 #[.val (.int p0), .val (.int v2), .val (.ref w_FOUND), .val (.int (1 : Int32))] [(.ref w_FOUND)])) _
      refine st9.trans ?_
      show Steps p.tables e below (T9.setTop (mkF m 87 #[.val (.int p0), .val (.int v2), .val (.ref w_FOUND), .val (.int (1 : Int32))] [(.int (f1 w_FOUND w_FOUND w_COLLIDED))])) _
      refine XS.iloadN X9.here hx rfl (hb hby at_87) rfl ?_
      exact k)
    obtain ⟨j12, hj12, pre13⟩ : ∃ (j12 : Int32), j12 = (if (f1 w_FOUND w_FOUND w_COLLIDED) = (1 : Int32) then (1 : Int32) else (0 : Int32)) ∧ ∀ t, Steps p.tables e below (T9.setTop (mkF m 96 #[.val (.int p0), .val (.int v2), .val (.ref w_FOUND), .val (.int (1 : Int32))] [(.int j12)])) t → Steps p.tables e below (s₁.setTop (entryFrame m #[(.int p0)] maxLocals)) t := by
      by_cases hc11 : (f1 w_FOUND w_FOUND w_COLLIDED) = (1 : Int32)
      · exact ⟨(1 : Int32), (by rw [if_pos hc11]), fun t k => pre10 t (by
          show Steps p.tables e below (T9.setTop (mkF m 88 #[.val (.int p0), .val (.int v2), .val (.ref w_FOUND), .val (.int (1 : Int32))] [(.int (1 : Int32)), (.int (f1 w_FOUND w_FOUND w_COLLIDED))])) _
          refine XS.icmpNo X9.here hx rfl (hb hby at_88) rfl (teq hc11).2 ?_
          show Steps p.tables e below (T9.setTop (mkF m 91 #[.val (.int p0), .val (.int v2), .val (.ref w_FOUND), .val (.int (1 : Int32))] [])) _
          refine XS.iconst X9.here hx rfl (hb hby at_91) ?_
          show Steps p.tables e below (T9.setTop (mkF m 92 #[.val (.int p0), .val (.int v2), .val (.ref w_FOUND), .val (.int (1 : Int32))] [(.int (1 : Int32))])) _
          refine XS.goto X9.here hx rfl (pc0 := 92) (pc' := 96) rfl (hb hby at_92) (by decide) (by decide) ?_
          exact k)⟩
      · exact ⟨(0 : Int32), (by rw [if_neg hc11]), fun t k => pre10 t (by
          show Steps p.tables e below (T9.setTop (mkF m 88 #[.val (.int p0), .val (.int v2), .val (.ref w_FOUND), .val (.int (1 : Int32))] [(.int (1 : Int32)), (.int (f1 w_FOUND w_FOUND w_COLLIDED))])) _
          refine XS.icmpYes X9.here hx rfl (pc0 := 88) (pc' := 95) rfl (hb hby at_88) rfl (feq hc11).2 (by decide) (by decide) ?_
          show Steps p.tables e below (T9.setTop (mkF m 95 #[.val (.int p0), .val (.int v2), .val (.ref w_FOUND), .val (.int (1 : Int32))] [])) _
          refine XS.iconst X9.here hx rfl (hb hby at_95) ?_
          exact k)⟩
    obtain ⟨fs, hr, hrun, hended, hW, hsame⟩ := X9.leave (v := some (.int (nar .boolean j12))) (fun h => by rw [Bd.returns] at h; cases h)
    refine ⟨_, _, pre13 _ ?_, hrun, hended, _, _, rfl, ?_, ⟨_, rfl⟩, hW, hsame.mono (by decide) (by decide)⟩
    · show Steps p.tables e below (T9.setTop (mkF m 96 #[.val (.int p0), .val (.int v2), .val (.ref w_FOUND), .val (.int (1 : Int32))] [(.int j12)])) _
      exact retN X9 hx (t := .boolean) Bd.returns (by simp) (hb hby at_96) hr
    · show Q0 Z p0 w_FOUND w_COLLIDED w_NOT_FOUND w_INSERTED w_NO_ROUTE w_LOOP h0 n0 _ T9.heap _
      rw [e9]
      have hv : (nar .boolean j12) = f0 p0 w_FOUND w_COLLIDED w_NOT_FOUND w_INSERTED w_NO_ROUTE w_LOOP := (by subst hj12 hv2; simp only [f0, if_pos hc5])
      exact ⟨congrArg (fun z => some (Value.int z)) (hv.trans hlaw), N9⟩
  · have pre14 : ∀ t, Steps p.tables e below (s₁.setTop (mkF m 23 #[.val (.int p0), .val (.int v2), .unset, .unset] [(.int (1 : Int32)), (.int v2)])) t → Steps p.tables e below (s₁.setTop (entryFrame m #[(.int p0)] maxLocals)) t := fun t k => pre4 t (by
      show Steps p.tables e below (s₁.setTop (mkF m 9 #[.val (.int p0), .val (.int v2), .unset, .unset] [(.int v2)])) _
      refine XS.ifYes X0.here hx rfl (pc0 := 9) (pc' := 21) rfl (hb hby at_9) rfl ((if0 _ _).trans (feq hc5).2) (by decide) (by decide) ?_
      show Steps p.tables e below (s₁.setTop (mkF m 21 #[.val (.int p0), .val (.int v2), .unset, .unset] [])) _
      refine XS.iloadN X0.here hx rfl (hb hby at_21) rfl ?_
      show Steps p.tables e below (s₁.setTop (mkF m 22 #[.val (.int p0), .val (.int v2), .unset, .unset] [(.int v2)])) _
      refine XS.iconst X0.here hx rfl (hb hby at_22) ?_
      exact k)
    by_cases hc15 : v2 = (1 : Int32)
    · have pre16 : ∀ t, Steps p.tables e below (s₁.setTop (mkF m 26 #[.val (.int p0), .val (.int v2), .unset, .unset] [])) t → Steps p.tables e below (s₁.setTop (entryFrame m #[(.int p0)] maxLocals)) t := fun t k => pre14 t (by
        show Steps p.tables e below (s₁.setTop (mkF m 23 #[.val (.int p0), .val (.int v2), .unset, .unset] [(.int (1 : Int32)), (.int v2)])) _
        refine XS.icmpNo X0.here hx rfl (hb hby at_23) rfl (teq hc15).2 ?_
        exact k)
      obtain ⟨T17, X17, e17, st17⟩ := getS2 X0 hx hZ hown (host := "") (Or.inl (hw _ (List.mem_of_getElem? (i := 16) rfl))) Via.refl e0 S_NOT_FOUND (g := (mkF m 26 #[.val (.int p0), .val (.int v2), .unset, .unset] [])) rfl (hb hby at_26)
      have pre18 : ∀ t, Steps p.tables e below (T17.setTop (mkF m 84 #[.val (.int p0), .val (.int v2), .val (.ref w_NOT_FOUND), .val (.int (0 : Int32))] [(.ref w_NOT_FOUND)])) t → Steps p.tables e below (s₁.setTop (entryFrame m #[(.int p0)] maxLocals)) t := fun t k => pre16 t (by
        show Steps p.tables e below (s₁.setTop (mkF m 26 #[.val (.int p0), .val (.int v2), .unset, .unset] [])) _
        refine st17 _ ?_
        show Steps p.tables e below (T17.setTop (mkF m 29 #[.val (.int p0), .val (.int v2), .unset, .unset] [(.ref w_NOT_FOUND)])) _
        refine XS.astoreN X17.here hx rfl (hb hby at_29) rfl rfl (l' := #[.val (.int p0), .val (.int v2), .val (.ref w_NOT_FOUND), .unset]) rfl ?_
        show Steps p.tables e below (T17.setTop (mkF m 30 #[.val (.int p0), .val (.int v2), .val (.ref w_NOT_FOUND), .unset] [])) _
        refine XS.iconst X17.here hx rfl (hb hby at_30) ?_
        show Steps p.tables e below (T17.setTop (mkF m 31 #[.val (.int p0), .val (.int v2), .val (.ref w_NOT_FOUND), .unset] [(.int (0 : Int32))])) _
        refine XS.istoreN X17.here hx rfl (hb hby at_31) rfl (l' := #[.val (.int p0), .val (.int v2), .val (.ref w_NOT_FOUND), .val (.int (0 : Int32))]) rfl ?_
        show Steps p.tables e below (T17.setTop (mkF m 32 #[.val (.int p0), .val (.int v2), .val (.ref w_NOT_FOUND), .val (.int (0 : Int32))] [])) _
        refine XS.goto X17.here hx rfl (pc0 := 32) (pc' := 83) rfl (hb hby at_32) (by decide) (by decide) ?_
        show Steps p.tables e below (T17.setTop (mkF m 83 #[.val (.int p0), .val (.int v2), .val (.ref w_NOT_FOUND), .val (.int (0 : Int32))] [])) _
        refine XS.aloadN X17.here hx rfl (hb hby at_83) rfl rfl ?_
        exact k)
      obtain ⟨cq19, kq19, q19a, q19b, q19c⟩ := isOf hZ e17 E_w_NOT_FOUND
      obtain ⟨_, _, ⟨T19, L19, k19, n19⟩, -, X19, ⟨Lc19, hQ19, l19, y19, z19⟩, st19⟩ := X17.virtualBack hx (y := (⟨"com/example/hopwise/hopwise/node/Message$Answer$Kind", "carriesBlock", "()Z"⟩ : MethodName)) (z := (⟨"com/example/hopwise/hopwise/node/Message$Answer$Kind", "carriesBlock", "()Z"⟩ : MethodName)) hown (mvT hZ (hw _ (List.mem_of_getElem? (i := 4) rfl))) (mvT hZ (hw _ (List.mem_of_getElem? (i := 5) rfl))) (notFace_of_selects (args := #[]) (mvT hZ (hw _ (List.mem_of_getElem? (i := 7) rfl)))) (mvT hZ (hw _ (List.mem_of_getElem? (i := 7) rfl))) (mvT hZ (hw _ (List.mem_of_getElem? (i := 6) rfl))) (by decide) (backOf (W := 0) (rm1 l Z aw hw [] w_NOT_FOUND w_FOUND w_COLLIDED h0 n0 Z0 S_FOUND S_COLLIDED) hZ (hw _ (List.mem_of_getElem? (i := 8) rfl)) (hw _ (List.mem_of_getElem? (i := 2) rfl)) (by decide) (by decide)) q19a q19c (g := (mkF m 84 #[.val (.int p0), .val (.int v2), .val (.ref w_NOT_FOUND), .val (.int (0 : Int32))] [(.ref w_NOT_FOUND)])) rfl (by rw [hml]; rfl) (Steps.refl _) (argsL := []) (rest := []) (lenOf pd_0 rfl) rfl (by show 2 * 0 + _ ≤ _; exact Nat.le_of_eq rfl) (hb hby at_84) (fun _ _ => ⟨rfl, e17, (by decide : 0 + 0 ≤ _), (by decide : 0 + 0 ≤ _)⟩)
      dsimp only [Pt.U, Pt.locs, Pt.cells, Pt.slots] at X19 l19 y19 z19 st19 hQ19
      subst l19 y19 z19
      obtain ⟨rfl, N19q, e19⟩ := hQ19
      have N19 := Fr.app N0 N19q
      have pre20 : ∀ t, Steps p.tables e below (T19.setTop (mkF m 88 #[.val (.int p0), .val (.int v2), .val (.ref w_NOT_FOUND), .val (.int (0 : Int32))] [(.int (0 : Int32)), (.int (f1 w_NOT_FOUND w_FOUND w_COLLIDED))])) t → Steps p.tables e below (s₁.setTop (entryFrame m #[(.int p0)] maxLocals)) t := fun t k => pre18 t (by
        show Steps p.tables e below (T17.setTop (mkF m 84 #[.val (.int p0), .val (.int v2), .val (.ref w_NOT_FOUND), .val (.int (0 : Int32))] [(.ref w_NOT_FOUND)])) _
        refine st19.trans ?_
        show Steps p.tables e below (T19.setTop (mkF m 87 #[.val (.int p0), .val (.int v2), .val (.ref w_NOT_FOUND), .val (.int (0 : Int32))] [(.int (f1 w_NOT_FOUND w_FOUND w_COLLIDED))])) _
        refine XS.iloadN X19.here hx rfl (hb hby at_87) rfl ?_
        exact k)
      obtain ⟨j22, hj22, pre23⟩ : ∃ (j22 : Int32), j22 = (if (f1 w_NOT_FOUND w_FOUND w_COLLIDED) = (0 : Int32) then (1 : Int32) else (0 : Int32)) ∧ ∀ t, Steps p.tables e below (T19.setTop (mkF m 96 #[.val (.int p0), .val (.int v2), .val (.ref w_NOT_FOUND), .val (.int (0 : Int32))] [(.int j22)])) t → Steps p.tables e below (s₁.setTop (entryFrame m #[(.int p0)] maxLocals)) t := by
        by_cases hc21 : (f1 w_NOT_FOUND w_FOUND w_COLLIDED) = (0 : Int32)
        · exact ⟨(1 : Int32), (by rw [if_pos hc21]), fun t k => pre20 t (by
            show Steps p.tables e below (T19.setTop (mkF m 88 #[.val (.int p0), .val (.int v2), .val (.ref w_NOT_FOUND), .val (.int (0 : Int32))] [(.int (0 : Int32)), (.int (f1 w_NOT_FOUND w_FOUND w_COLLIDED))])) _
            refine XS.icmpNo X19.here hx rfl (hb hby at_88) rfl (teq hc21).2 ?_
            show Steps p.tables e below (T19.setTop (mkF m 91 #[.val (.int p0), .val (.int v2), .val (.ref w_NOT_FOUND), .val (.int (0 : Int32))] [])) _
            refine XS.iconst X19.here hx rfl (hb hby at_91) ?_
            show Steps p.tables e below (T19.setTop (mkF m 92 #[.val (.int p0), .val (.int v2), .val (.ref w_NOT_FOUND), .val (.int (0 : Int32))] [(.int (1 : Int32))])) _
            refine XS.goto X19.here hx rfl (pc0 := 92) (pc' := 96) rfl (hb hby at_92) (by decide) (by decide) ?_
            exact k)⟩
        · exact ⟨(0 : Int32), (by rw [if_neg hc21]), fun t k => pre20 t (by
            show Steps p.tables e below (T19.setTop (mkF m 88 #[.val (.int p0), .val (.int v2), .val (.ref w_NOT_FOUND), .val (.int (0 : Int32))] [(.int (0 : Int32)), (.int (f1 w_NOT_FOUND w_FOUND w_COLLIDED))])) _
            refine XS.icmpYes X19.here hx rfl (pc0 := 88) (pc' := 95) rfl (hb hby at_88) rfl (feq hc21).2 (by decide) (by decide) ?_
            show Steps p.tables e below (T19.setTop (mkF m 95 #[.val (.int p0), .val (.int v2), .val (.ref w_NOT_FOUND), .val (.int (0 : Int32))] [])) _
            refine XS.iconst X19.here hx rfl (hb hby at_95) ?_
            exact k)⟩
      obtain ⟨fs, hr, hrun, hended, hW, hsame⟩ := X19.leave (v := some (.int (nar .boolean j22))) (fun h => by rw [Bd.returns] at h; cases h)
      refine ⟨_, _, pre23 _ ?_, hrun, hended, _, _, rfl, ?_, ⟨_, rfl⟩, hW, hsame.mono (by decide) (by decide)⟩
      · show Steps p.tables e below (T19.setTop (mkF m 96 #[.val (.int p0), .val (.int v2), .val (.ref w_NOT_FOUND), .val (.int (0 : Int32))] [(.int j22)])) _
        exact retN X19 hx (t := .boolean) Bd.returns (by simp) (hb hby at_96) hr
      · show Q0 Z p0 w_FOUND w_COLLIDED w_NOT_FOUND w_INSERTED w_NO_ROUTE w_LOOP h0 n0 _ T19.heap _
        rw [e19]
        have hv : (nar .boolean j22) = f0 p0 w_FOUND w_COLLIDED w_NOT_FOUND w_INSERTED w_NO_ROUTE w_LOOP := (by subst hj22 hv2; simp only [f0, if_neg hc5, if_pos hc15])
        exact ⟨congrArg (fun z => some (Value.int z)) (hv.trans hlaw), N19⟩
    · have pre24 : ∀ t, Steps p.tables e below (s₁.setTop (mkF m 37 #[.val (.int p0), .val (.int v2), .unset, .unset] [(.int (2 : Int32)), (.int v2)])) t → Steps p.tables e below (s₁.setTop (entryFrame m #[(.int p0)] maxLocals)) t := fun t k => pre14 t (by
        show Steps p.tables e below (s₁.setTop (mkF m 23 #[.val (.int p0), .val (.int v2), .unset, .unset] [(.int (1 : Int32)), (.int v2)])) _
        refine XS.icmpYes X0.here hx rfl (pc0 := 23) (pc' := 35) rfl (hb hby at_23) rfl (feq hc15).2 (by decide) (by decide) ?_
        show Steps p.tables e below (s₁.setTop (mkF m 35 #[.val (.int p0), .val (.int v2), .unset, .unset] [])) _
        refine XS.iloadN X0.here hx rfl (hb hby at_35) rfl ?_
        show Steps p.tables e below (s₁.setTop (mkF m 36 #[.val (.int p0), .val (.int v2), .unset, .unset] [(.int v2)])) _
        refine XS.iconst X0.here hx rfl (hb hby at_36) ?_
        exact k)
      by_cases hc25 : v2 = (2 : Int32)
      · have pre26 : ∀ t, Steps p.tables e below (s₁.setTop (mkF m 40 #[.val (.int p0), .val (.int v2), .unset, .unset] [])) t → Steps p.tables e below (s₁.setTop (entryFrame m #[(.int p0)] maxLocals)) t := fun t k => pre24 t (by
          show Steps p.tables e below (s₁.setTop (mkF m 37 #[.val (.int p0), .val (.int v2), .unset, .unset] [(.int (2 : Int32)), (.int v2)])) _
          refine XS.icmpNo X0.here hx rfl (hb hby at_37) rfl (teq hc25).2 ?_
          exact k)
        obtain ⟨T27, X27, e27, st27⟩ := getS2 X0 hx hZ hown (host := "") (Or.inl (hw _ (List.mem_of_getElem? (i := 14) rfl))) Via.refl e0 S_INSERTED (g := (mkF m 40 #[.val (.int p0), .val (.int v2), .unset, .unset] [])) rfl (hb hby at_40)
        have pre28 : ∀ t, Steps p.tables e below (T27.setTop (mkF m 84 #[.val (.int p0), .val (.int v2), .val (.ref w_INSERTED), .val (.int (0 : Int32))] [(.ref w_INSERTED)])) t → Steps p.tables e below (s₁.setTop (entryFrame m #[(.int p0)] maxLocals)) t := fun t k => pre26 t (by
          show Steps p.tables e below (s₁.setTop (mkF m 40 #[.val (.int p0), .val (.int v2), .unset, .unset] [])) _
          refine st27 _ ?_
          show Steps p.tables e below (T27.setTop (mkF m 43 #[.val (.int p0), .val (.int v2), .unset, .unset] [(.ref w_INSERTED)])) _
          refine XS.astoreN X27.here hx rfl (hb hby at_43) rfl rfl (l' := #[.val (.int p0), .val (.int v2), .val (.ref w_INSERTED), .unset]) rfl ?_
          show Steps p.tables e below (T27.setTop (mkF m 44 #[.val (.int p0), .val (.int v2), .val (.ref w_INSERTED), .unset] [])) _
          refine XS.iconst X27.here hx rfl (hb hby at_44) ?_
          show Steps p.tables e below (T27.setTop (mkF m 45 #[.val (.int p0), .val (.int v2), .val (.ref w_INSERTED), .unset] [(.int (0 : Int32))])) _
          refine XS.istoreN X27.here hx rfl (hb hby at_45) rfl (l' := #[.val (.int p0), .val (.int v2), .val (.ref w_INSERTED), .val (.int (0 : Int32))]) rfl ?_
          show Steps p.tables e below (T27.setTop (mkF m 46 #[.val (.int p0), .val (.int v2), .val (.ref w_INSERTED), .val (.int (0 : Int32))] [])) _
          refine XS.goto X27.here hx rfl (pc0 := 46) (pc' := 83) rfl (hb hby at_46) (by decide) (by decide) ?_
          show Steps p.tables e below (T27.setTop (mkF m 83 #[.val (.int p0), .val (.int v2), .val (.ref w_INSERTED), .val (.int (0 : Int32))] [])) _
          refine XS.aloadN X27.here hx rfl (hb hby at_83) rfl rfl ?_
          exact k)
        obtain ⟨cq29, kq29, q29a, q29b, q29c⟩ := isOf hZ e27 E_w_INSERTED
        obtain ⟨_, _, ⟨T29, L29, k29, n29⟩, -, X29, ⟨Lc29, hQ29, l29, y29, z29⟩, st29⟩ := X27.virtualBack hx (y := (⟨"com/example/hopwise/hopwise/node/Message$Answer$Kind", "carriesBlock", "()Z"⟩ : MethodName)) (z := (⟨"com/example/hopwise/hopwise/node/Message$Answer$Kind", "carriesBlock", "()Z"⟩ : MethodName)) hown (mvT hZ (hw _ (List.mem_of_getElem? (i := 4) rfl))) (mvT hZ (hw _ (List.mem_of_getElem? (i := 5) rfl))) (notFace_of_selects (args := #[]) (mvT hZ (hw _ (List.mem_of_getElem? (i := 7) rfl)))) (mvT hZ (hw _ (List.mem_of_getElem? (i := 7) rfl))) (mvT hZ (hw _ (List.mem_of_getElem? (i := 6) rfl))) (by decide) (backOf (W := 0) (rm1 l Z aw hw [] w_INSERTED w_FOUND w_COLLIDED h0 n0 Z0 S_FOUND S_COLLIDED) hZ (hw _ (List.mem_of_getElem? (i := 8) rfl)) (hw _ (List.mem_of_getElem? (i := 2) rfl)) (by decide) (by decide)) q29a q29c (g := (mkF m 84 #[.val (.int p0), .val (.int v2), .val (.ref w_INSERTED), .val (.int (0 : Int32))] [(.ref w_INSERTED)])) rfl (by rw [hml]; rfl) (Steps.refl _) (argsL := []) (rest := []) (lenOf pd_0 rfl) rfl (by show 2 * 0 + _ ≤ _; exact Nat.le_of_eq rfl) (hb hby at_84) (fun _ _ => ⟨rfl, e27, (by decide : 0 + 0 ≤ _), (by decide : 0 + 0 ≤ _)⟩)
        dsimp only [Pt.U, Pt.locs, Pt.cells, Pt.slots] at X29 l29 y29 z29 st29 hQ29
        subst l29 y29 z29
        obtain ⟨rfl, N29q, e29⟩ := hQ29
        have N29 := Fr.app N0 N29q
        have pre30 : ∀ t, Steps p.tables e below (T29.setTop (mkF m 88 #[.val (.int p0), .val (.int v2), .val (.ref w_INSERTED), .val (.int (0 : Int32))] [(.int (0 : Int32)), (.int (f1 w_INSERTED w_FOUND w_COLLIDED))])) t → Steps p.tables e below (s₁.setTop (entryFrame m #[(.int p0)] maxLocals)) t := fun t k => pre28 t (by
          show Steps p.tables e below (T27.setTop (mkF m 84 #[.val (.int p0), .val (.int v2), .val (.ref w_INSERTED), .val (.int (0 : Int32))] [(.ref w_INSERTED)])) _
          refine st29.trans ?_
          show Steps p.tables e below (T29.setTop (mkF m 87 #[.val (.int p0), .val (.int v2), .val (.ref w_INSERTED), .val (.int (0 : Int32))] [(.int (f1 w_INSERTED w_FOUND w_COLLIDED))])) _
          refine XS.iloadN X29.here hx rfl (hb hby at_87) rfl ?_
          exact k)
        obtain ⟨j32, hj32, pre33⟩ : ∃ (j32 : Int32), j32 = (if (f1 w_INSERTED w_FOUND w_COLLIDED) = (0 : Int32) then (1 : Int32) else (0 : Int32)) ∧ ∀ t, Steps p.tables e below (T29.setTop (mkF m 96 #[.val (.int p0), .val (.int v2), .val (.ref w_INSERTED), .val (.int (0 : Int32))] [(.int j32)])) t → Steps p.tables e below (s₁.setTop (entryFrame m #[(.int p0)] maxLocals)) t := by
          by_cases hc31 : (f1 w_INSERTED w_FOUND w_COLLIDED) = (0 : Int32)
          · exact ⟨(1 : Int32), (by rw [if_pos hc31]), fun t k => pre30 t (by
              show Steps p.tables e below (T29.setTop (mkF m 88 #[.val (.int p0), .val (.int v2), .val (.ref w_INSERTED), .val (.int (0 : Int32))] [(.int (0 : Int32)), (.int (f1 w_INSERTED w_FOUND w_COLLIDED))])) _
              refine XS.icmpNo X29.here hx rfl (hb hby at_88) rfl (teq hc31).2 ?_
              show Steps p.tables e below (T29.setTop (mkF m 91 #[.val (.int p0), .val (.int v2), .val (.ref w_INSERTED), .val (.int (0 : Int32))] [])) _
              refine XS.iconst X29.here hx rfl (hb hby at_91) ?_
              show Steps p.tables e below (T29.setTop (mkF m 92 #[.val (.int p0), .val (.int v2), .val (.ref w_INSERTED), .val (.int (0 : Int32))] [(.int (1 : Int32))])) _
              refine XS.goto X29.here hx rfl (pc0 := 92) (pc' := 96) rfl (hb hby at_92) (by decide) (by decide) ?_
              exact k)⟩
          · exact ⟨(0 : Int32), (by rw [if_neg hc31]), fun t k => pre30 t (by
              show Steps p.tables e below (T29.setTop (mkF m 88 #[.val (.int p0), .val (.int v2), .val (.ref w_INSERTED), .val (.int (0 : Int32))] [(.int (0 : Int32)), (.int (f1 w_INSERTED w_FOUND w_COLLIDED))])) _
              refine XS.icmpYes X29.here hx rfl (pc0 := 88) (pc' := 95) rfl (hb hby at_88) rfl (feq hc31).2 (by decide) (by decide) ?_
              show Steps p.tables e below (T29.setTop (mkF m 95 #[.val (.int p0), .val (.int v2), .val (.ref w_INSERTED), .val (.int (0 : Int32))] [])) _
              refine XS.iconst X29.here hx rfl (hb hby at_95) ?_
              exact k)⟩
        obtain ⟨fs, hr, hrun, hended, hW, hsame⟩ := X29.leave (v := some (.int (nar .boolean j32))) (fun h => by rw [Bd.returns] at h; cases h)
        refine ⟨_, _, pre33 _ ?_, hrun, hended, _, _, rfl, ?_, ⟨_, rfl⟩, hW, hsame.mono (by decide) (by decide)⟩
        · show Steps p.tables e below (T29.setTop (mkF m 96 #[.val (.int p0), .val (.int v2), .val (.ref w_INSERTED), .val (.int (0 : Int32))] [(.int j32)])) _
          exact retN X29 hx (t := .boolean) Bd.returns (by simp) (hb hby at_96) hr
        · show Q0 Z p0 w_FOUND w_COLLIDED w_NOT_FOUND w_INSERTED w_NO_ROUTE w_LOOP h0 n0 _ T29.heap _
          rw [e29]
          have hv : (nar .boolean j32) = f0 p0 w_FOUND w_COLLIDED w_NOT_FOUND w_INSERTED w_NO_ROUTE w_LOOP := (by subst hj32 hv2; simp only [f0, if_neg hc5, if_neg hc15, if_pos hc25])
          exact ⟨congrArg (fun z => some (Value.int z)) (hv.trans hlaw), N29⟩
      · have pre34 : ∀ t, Steps p.tables e below (s₁.setTop (mkF m 51 #[.val (.int p0), .val (.int v2), .unset, .unset] [(.int (3 : Int32)), (.int v2)])) t → Steps p.tables e below (s₁.setTop (entryFrame m #[(.int p0)] maxLocals)) t := fun t k => pre24 t (by
          show Steps p.tables e below (s₁.setTop (mkF m 37 #[.val (.int p0), .val (.int v2), .unset, .unset] [(.int (2 : Int32)), (.int v2)])) _
          refine XS.icmpYes X0.here hx rfl (pc0 := 37) (pc' := 49) rfl (hb hby at_37) rfl (feq hc25).2 (by decide) (by decide) ?_
          show Steps p.tables e below (s₁.setTop (mkF m 49 #[.val (.int p0), .val (.int v2), .unset, .unset] [])) _
          refine XS.iloadN X0.here hx rfl (hb hby at_49) rfl ?_
          show Steps p.tables e below (s₁.setTop (mkF m 50 #[.val (.int p0), .val (.int v2), .unset, .unset] [(.int v2)])) _
          refine XS.iconst X0.here hx rfl (hb hby at_50) ?_
          exact k)
        by_cases hc35 : v2 = (3 : Int32)
        · have pre36 : ∀ t, Steps p.tables e below (s₁.setTop (mkF m 54 #[.val (.int p0), .val (.int v2), .unset, .unset] [])) t → Steps p.tables e below (s₁.setTop (entryFrame m #[(.int p0)] maxLocals)) t := fun t k => pre34 t (by
            show Steps p.tables e below (s₁.setTop (mkF m 51 #[.val (.int p0), .val (.int v2), .unset, .unset] [(.int (3 : Int32)), (.int v2)])) _
            refine XS.icmpNo X0.here hx rfl (hb hby at_51) rfl (teq hc35).2 ?_
            exact k)
          obtain ⟨T37, X37, e37, st37⟩ := getS2 X0 hx hZ hown (host := "") (Or.inl (hw _ (List.mem_of_getElem? (i := 10) rfl))) Via.refl e0 S_NO_ROUTE (g := (mkF m 54 #[.val (.int p0), .val (.int v2), .unset, .unset] [])) rfl (hb hby at_54)
          have pre38 : ∀ t, Steps p.tables e below (T37.setTop (mkF m 84 #[.val (.int p0), .val (.int v2), .val (.ref w_NO_ROUTE), .val (.int (0 : Int32))] [(.ref w_NO_ROUTE)])) t → Steps p.tables e below (s₁.setTop (entryFrame m #[(.int p0)] maxLocals)) t := fun t k => pre36 t (by
            show Steps p.tables e below (s₁.setTop (mkF m 54 #[.val (.int p0), .val (.int v2), .unset, .unset] [])) _
            refine st37 _ ?_
            show Steps p.tables e below (T37.setTop (mkF m 57 #[.val (.int p0), .val (.int v2), .unset, .unset] [(.ref w_NO_ROUTE)])) _
            refine XS.astoreN X37.here hx rfl (hb hby at_57) rfl rfl (l' := #[.val (.int p0), .val (.int v2), .val (.ref w_NO_ROUTE), .unset]) rfl ?_
            show Steps p.tables e below (T37.setTop (mkF m 58 #[.val (.int p0), .val (.int v2), .val (.ref w_NO_ROUTE), .unset] [])) _
            refine XS.iconst X37.here hx rfl (hb hby at_58) ?_
            show Steps p.tables e below (T37.setTop (mkF m 59 #[.val (.int p0), .val (.int v2), .val (.ref w_NO_ROUTE), .unset] [(.int (0 : Int32))])) _
            refine XS.istoreN X37.here hx rfl (hb hby at_59) rfl (l' := #[.val (.int p0), .val (.int v2), .val (.ref w_NO_ROUTE), .val (.int (0 : Int32))]) rfl ?_
            show Steps p.tables e below (T37.setTop (mkF m 60 #[.val (.int p0), .val (.int v2), .val (.ref w_NO_ROUTE), .val (.int (0 : Int32))] [])) _
            refine XS.goto X37.here hx rfl (pc0 := 60) (pc' := 83) rfl (hb hby at_60) (by decide) (by decide) ?_
            show Steps p.tables e below (T37.setTop (mkF m 83 #[.val (.int p0), .val (.int v2), .val (.ref w_NO_ROUTE), .val (.int (0 : Int32))] [])) _
            refine XS.aloadN X37.here hx rfl (hb hby at_83) rfl rfl ?_
            exact k)
          obtain ⟨cq39, kq39, q39a, q39b, q39c⟩ := isOf hZ e37 E_w_NO_ROUTE
          obtain ⟨_, _, ⟨T39, L39, k39, n39⟩, -, X39, ⟨Lc39, hQ39, l39, y39, z39⟩, st39⟩ := X37.virtualBack hx (y := (⟨"com/example/hopwise/hopwise/node/Message$Answer$Kind", "carriesBlock", "()Z"⟩ : MethodName)) (z := (⟨"com/example/hopwise/hopwise/node/Message$Answer$Kind", "carriesBlock", "()Z"⟩ : MethodName)) hown (mvT hZ (hw _ (List.mem_of_getElem? (i := 4) rfl))) (mvT hZ (hw _ (List.mem_of_getElem? (i := 5) rfl))) (notFace_of_selects (args := #[]) (mvT hZ (hw _ (List.mem_of_getElem? (i := 7) rfl)))) (mvT hZ (hw _ (List.mem_of_getElem? (i := 7) rfl))) (mvT hZ (hw _ (List.mem_of_getElem? (i := 6) rfl))) (by decide) (backOf (W := 0) (rm1 l Z aw hw [] w_NO_ROUTE w_FOUND w_COLLIDED h0 n0 Z0 S_FOUND S_COLLIDED) hZ (hw _ (List.mem_of_getElem? (i := 8) rfl)) (hw _ (List.mem_of_getElem? (i := 2) rfl)) (by decide) (by decide)) q39a q39c (g := (mkF m 84 #[.val (.int p0), .val (.int v2), .val (.ref w_NO_ROUTE), .val (.int (0 : Int32))] [(.ref w_NO_ROUTE)])) rfl (by rw [hml]; rfl) (Steps.refl _) (argsL := []) (rest := []) (lenOf pd_0 rfl) rfl (by show 2 * 0 + _ ≤ _; exact Nat.le_of_eq rfl) (hb hby at_84) (fun _ _ => ⟨rfl, e37, (by decide : 0 + 0 ≤ _), (by decide : 0 + 0 ≤ _)⟩)
          dsimp only [Pt.U, Pt.locs, Pt.cells, Pt.slots] at X39 l39 y39 z39 st39 hQ39
          subst l39 y39 z39
          obtain ⟨rfl, N39q, e39⟩ := hQ39
          have N39 := Fr.app N0 N39q
          have pre40 : ∀ t, Steps p.tables e below (T39.setTop (mkF m 88 #[.val (.int p0), .val (.int v2), .val (.ref w_NO_ROUTE), .val (.int (0 : Int32))] [(.int (0 : Int32)), (.int (f1 w_NO_ROUTE w_FOUND w_COLLIDED))])) t → Steps p.tables e below (s₁.setTop (entryFrame m #[(.int p0)] maxLocals)) t := fun t k => pre38 t (by
            show Steps p.tables e below (T37.setTop (mkF m 84 #[.val (.int p0), .val (.int v2), .val (.ref w_NO_ROUTE), .val (.int (0 : Int32))] [(.ref w_NO_ROUTE)])) _
            refine st39.trans ?_
            show Steps p.tables e below (T39.setTop (mkF m 87 #[.val (.int p0), .val (.int v2), .val (.ref w_NO_ROUTE), .val (.int (0 : Int32))] [(.int (f1 w_NO_ROUTE w_FOUND w_COLLIDED))])) _
            refine XS.iloadN X39.here hx rfl (hb hby at_87) rfl ?_
            exact k)
          obtain ⟨j42, hj42, pre43⟩ : ∃ (j42 : Int32), j42 = (if (f1 w_NO_ROUTE w_FOUND w_COLLIDED) = (0 : Int32) then (1 : Int32) else (0 : Int32)) ∧ ∀ t, Steps p.tables e below (T39.setTop (mkF m 96 #[.val (.int p0), .val (.int v2), .val (.ref w_NO_ROUTE), .val (.int (0 : Int32))] [(.int j42)])) t → Steps p.tables e below (s₁.setTop (entryFrame m #[(.int p0)] maxLocals)) t := by
            by_cases hc41 : (f1 w_NO_ROUTE w_FOUND w_COLLIDED) = (0 : Int32)
            · exact ⟨(1 : Int32), (by rw [if_pos hc41]), fun t k => pre40 t (by
                show Steps p.tables e below (T39.setTop (mkF m 88 #[.val (.int p0), .val (.int v2), .val (.ref w_NO_ROUTE), .val (.int (0 : Int32))] [(.int (0 : Int32)), (.int (f1 w_NO_ROUTE w_FOUND w_COLLIDED))])) _
                refine XS.icmpNo X39.here hx rfl (hb hby at_88) rfl (teq hc41).2 ?_
                show Steps p.tables e below (T39.setTop (mkF m 91 #[.val (.int p0), .val (.int v2), .val (.ref w_NO_ROUTE), .val (.int (0 : Int32))] [])) _
                refine XS.iconst X39.here hx rfl (hb hby at_91) ?_
                show Steps p.tables e below (T39.setTop (mkF m 92 #[.val (.int p0), .val (.int v2), .val (.ref w_NO_ROUTE), .val (.int (0 : Int32))] [(.int (1 : Int32))])) _
                refine XS.goto X39.here hx rfl (pc0 := 92) (pc' := 96) rfl (hb hby at_92) (by decide) (by decide) ?_
                exact k)⟩
            · exact ⟨(0 : Int32), (by rw [if_neg hc41]), fun t k => pre40 t (by
                show Steps p.tables e below (T39.setTop (mkF m 88 #[.val (.int p0), .val (.int v2), .val (.ref w_NO_ROUTE), .val (.int (0 : Int32))] [(.int (0 : Int32)), (.int (f1 w_NO_ROUTE w_FOUND w_COLLIDED))])) _
                refine XS.icmpYes X39.here hx rfl (pc0 := 88) (pc' := 95) rfl (hb hby at_88) rfl (feq hc41).2 (by decide) (by decide) ?_
                show Steps p.tables e below (T39.setTop (mkF m 95 #[.val (.int p0), .val (.int v2), .val (.ref w_NO_ROUTE), .val (.int (0 : Int32))] [])) _
                refine XS.iconst X39.here hx rfl (hb hby at_95) ?_
                exact k)⟩
          obtain ⟨fs, hr, hrun, hended, hW, hsame⟩ := X39.leave (v := some (.int (nar .boolean j42))) (fun h => by rw [Bd.returns] at h; cases h)
          refine ⟨_, _, pre43 _ ?_, hrun, hended, _, _, rfl, ?_, ⟨_, rfl⟩, hW, hsame.mono (by decide) (by decide)⟩
          · show Steps p.tables e below (T39.setTop (mkF m 96 #[.val (.int p0), .val (.int v2), .val (.ref w_NO_ROUTE), .val (.int (0 : Int32))] [(.int j42)])) _
            exact retN X39 hx (t := .boolean) Bd.returns (by simp) (hb hby at_96) hr
          · show Q0 Z p0 w_FOUND w_COLLIDED w_NOT_FOUND w_INSERTED w_NO_ROUTE w_LOOP h0 n0 _ T39.heap _
            rw [e39]
            have hv : (nar .boolean j42) = f0 p0 w_FOUND w_COLLIDED w_NOT_FOUND w_INSERTED w_NO_ROUTE w_LOOP := (by subst hj42 hv2; simp only [f0, if_neg hc5, if_neg hc15, if_neg hc25, if_pos hc35])
            exact ⟨congrArg (fun z => some (Value.int z)) (hv.trans hlaw), N39⟩
        · have pre44 : ∀ t, Steps p.tables e below (s₁.setTop (mkF m 65 #[.val (.int p0), .val (.int v2), .unset, .unset] [(.int (4 : Int32)), (.int v2)])) t → Steps p.tables e below (s₁.setTop (entryFrame m #[(.int p0)] maxLocals)) t := fun t k => pre34 t (by
            show Steps p.tables e below (s₁.setTop (mkF m 51 #[.val (.int p0), .val (.int v2), .unset, .unset] [(.int (3 : Int32)), (.int v2)])) _
            refine XS.icmpYes X0.here hx rfl (pc0 := 51) (pc' := 63) rfl (hb hby at_51) rfl (feq hc35).2 (by decide) (by decide) ?_
            show Steps p.tables e below (s₁.setTop (mkF m 63 #[.val (.int p0), .val (.int v2), .unset, .unset] [])) _
            refine XS.iloadN X0.here hx rfl (hb hby at_63) rfl ?_
            show Steps p.tables e below (s₁.setTop (mkF m 64 #[.val (.int p0), .val (.int v2), .unset, .unset] [(.int v2)])) _
            refine XS.iconst X0.here hx rfl (hb hby at_64) ?_
            exact k)
          by_cases hc45 : v2 = (4 : Int32)
          · have pre46 : ∀ t, Steps p.tables e below (s₁.setTop (mkF m 68 #[.val (.int p0), .val (.int v2), .unset, .unset] [])) t → Steps p.tables e below (s₁.setTop (entryFrame m #[(.int p0)] maxLocals)) t := fun t k => pre44 t (by
              show Steps p.tables e below (s₁.setTop (mkF m 65 #[.val (.int p0), .val (.int v2), .unset, .unset] [(.int (4 : Int32)), (.int v2)])) _
              refine XS.icmpNo X0.here hx rfl (hb hby at_65) rfl (teq hc45).2 ?_
              exact k)
            obtain ⟨T47, X47, e47, st47⟩ := getS2 X0 hx hZ hown (host := "") (Or.inl (hw _ (List.mem_of_getElem? (i := 19) rfl))) Via.refl e0 S_LOOP (g := (mkF m 68 #[.val (.int p0), .val (.int v2), .unset, .unset] [])) rfl (hb hby at_68)
            have pre48 : ∀ t, Steps p.tables e below (T47.setTop (mkF m 84 #[.val (.int p0), .val (.int v2), .val (.ref w_LOOP), .val (.int (0 : Int32))] [(.ref w_LOOP)])) t → Steps p.tables e below (s₁.setTop (entryFrame m #[(.int p0)] maxLocals)) t := fun t k => pre46 t (by
              show Steps p.tables e below (s₁.setTop (mkF m 68 #[.val (.int p0), .val (.int v2), .unset, .unset] [])) _
              refine st47 _ ?_
              show Steps p.tables e below (T47.setTop (mkF m 71 #[.val (.int p0), .val (.int v2), .unset, .unset] [(.ref w_LOOP)])) _
              refine XS.astoreN X47.here hx rfl (hb hby at_71) rfl rfl (l' := #[.val (.int p0), .val (.int v2), .val (.ref w_LOOP), .unset]) rfl ?_
              show Steps p.tables e below (T47.setTop (mkF m 72 #[.val (.int p0), .val (.int v2), .val (.ref w_LOOP), .unset] [])) _
              refine XS.iconst X47.here hx rfl (hb hby at_72) ?_
              show Steps p.tables e below (T47.setTop (mkF m 73 #[.val (.int p0), .val (.int v2), .val (.ref w_LOOP), .unset] [(.int (0 : Int32))])) _
              refine XS.istoreN X47.here hx rfl (hb hby at_73) rfl (l' := #[.val (.int p0), .val (.int v2), .val (.ref w_LOOP), .val (.int (0 : Int32))]) rfl ?_
              show Steps p.tables e below (T47.setTop (mkF m 74 #[.val (.int p0), .val (.int v2), .val (.ref w_LOOP), .val (.int (0 : Int32))] [])) _
              refine XS.goto X47.here hx rfl (pc0 := 74) (pc' := 83) rfl (hb hby at_74) (by decide) (by decide) ?_
              show Steps p.tables e below (T47.setTop (mkF m 83 #[.val (.int p0), .val (.int v2), .val (.ref w_LOOP), .val (.int (0 : Int32))] [])) _
              refine XS.aloadN X47.here hx rfl (hb hby at_83) rfl rfl ?_
              exact k)
            obtain ⟨cq49, kq49, q49a, q49b, q49c⟩ := isOf hZ e47 E_w_LOOP
            obtain ⟨_, _, ⟨T49, L49, k49, n49⟩, -, X49, ⟨Lc49, hQ49, l49, y49, z49⟩, st49⟩ := X47.virtualBack hx (y := (⟨"com/example/hopwise/hopwise/node/Message$Answer$Kind", "carriesBlock", "()Z"⟩ : MethodName)) (z := (⟨"com/example/hopwise/hopwise/node/Message$Answer$Kind", "carriesBlock", "()Z"⟩ : MethodName)) hown (mvT hZ (hw _ (List.mem_of_getElem? (i := 4) rfl))) (mvT hZ (hw _ (List.mem_of_getElem? (i := 5) rfl))) (notFace_of_selects (args := #[]) (mvT hZ (hw _ (List.mem_of_getElem? (i := 7) rfl)))) (mvT hZ (hw _ (List.mem_of_getElem? (i := 7) rfl))) (mvT hZ (hw _ (List.mem_of_getElem? (i := 6) rfl))) (by decide) (backOf (W := 0) (rm1 l Z aw hw [] w_LOOP w_FOUND w_COLLIDED h0 n0 Z0 S_FOUND S_COLLIDED) hZ (hw _ (List.mem_of_getElem? (i := 8) rfl)) (hw _ (List.mem_of_getElem? (i := 2) rfl)) (by decide) (by decide)) q49a q49c (g := (mkF m 84 #[.val (.int p0), .val (.int v2), .val (.ref w_LOOP), .val (.int (0 : Int32))] [(.ref w_LOOP)])) rfl (by rw [hml]; rfl) (Steps.refl _) (argsL := []) (rest := []) (lenOf pd_0 rfl) rfl (by show 2 * 0 + _ ≤ _; exact Nat.le_of_eq rfl) (hb hby at_84) (fun _ _ => ⟨rfl, e47, (by decide : 0 + 0 ≤ _), (by decide : 0 + 0 ≤ _)⟩)
            dsimp only [Pt.U, Pt.locs, Pt.cells, Pt.slots] at X49 l49 y49 z49 st49 hQ49
            subst l49 y49 z49
            obtain ⟨rfl, N49q, e49⟩ := hQ49
            have N49 := Fr.app N0 N49q
            have pre50 : ∀ t, Steps p.tables e below (T49.setTop (mkF m 88 #[.val (.int p0), .val (.int v2), .val (.ref w_LOOP), .val (.int (0 : Int32))] [(.int (0 : Int32)), (.int (f1 w_LOOP w_FOUND w_COLLIDED))])) t → Steps p.tables e below (s₁.setTop (entryFrame m #[(.int p0)] maxLocals)) t := fun t k => pre48 t (by
              show Steps p.tables e below (T47.setTop (mkF m 84 #[.val (.int p0), .val (.int v2), .val (.ref w_LOOP), .val (.int (0 : Int32))] [(.ref w_LOOP)])) _
              refine st49.trans ?_
              show Steps p.tables e below (T49.setTop (mkF m 87 #[.val (.int p0), .val (.int v2), .val (.ref w_LOOP), .val (.int (0 : Int32))] [(.int (f1 w_LOOP w_FOUND w_COLLIDED))])) _
              refine XS.iloadN X49.here hx rfl (hb hby at_87) rfl ?_
              exact k)
            obtain ⟨j52, hj52, pre53⟩ : ∃ (j52 : Int32), j52 = (if (f1 w_LOOP w_FOUND w_COLLIDED) = (0 : Int32) then (1 : Int32) else (0 : Int32)) ∧ ∀ t, Steps p.tables e below (T49.setTop (mkF m 96 #[.val (.int p0), .val (.int v2), .val (.ref w_LOOP), .val (.int (0 : Int32))] [(.int j52)])) t → Steps p.tables e below (s₁.setTop (entryFrame m #[(.int p0)] maxLocals)) t := by
              by_cases hc51 : (f1 w_LOOP w_FOUND w_COLLIDED) = (0 : Int32)
              · exact ⟨(1 : Int32), (by rw [if_pos hc51]), fun t k => pre50 t (by
                  show Steps p.tables e below (T49.setTop (mkF m 88 #[.val (.int p0), .val (.int v2), .val (.ref w_LOOP), .val (.int (0 : Int32))] [(.int (0 : Int32)), (.int (f1 w_LOOP w_FOUND w_COLLIDED))])) _
                  refine XS.icmpNo X49.here hx rfl (hb hby at_88) rfl (teq hc51).2 ?_
                  show Steps p.tables e below (T49.setTop (mkF m 91 #[.val (.int p0), .val (.int v2), .val (.ref w_LOOP), .val (.int (0 : Int32))] [])) _
                  refine XS.iconst X49.here hx rfl (hb hby at_91) ?_
                  show Steps p.tables e below (T49.setTop (mkF m 92 #[.val (.int p0), .val (.int v2), .val (.ref w_LOOP), .val (.int (0 : Int32))] [(.int (1 : Int32))])) _
                  refine XS.goto X49.here hx rfl (pc0 := 92) (pc' := 96) rfl (hb hby at_92) (by decide) (by decide) ?_
                  exact k)⟩
              · exact ⟨(0 : Int32), (by rw [if_neg hc51]), fun t k => pre50 t (by
                  show Steps p.tables e below (T49.setTop (mkF m 88 #[.val (.int p0), .val (.int v2), .val (.ref w_LOOP), .val (.int (0 : Int32))] [(.int (0 : Int32)), (.int (f1 w_LOOP w_FOUND w_COLLIDED))])) _
                  refine XS.icmpYes X49.here hx rfl (pc0 := 88) (pc' := 95) rfl (hb hby at_88) rfl (feq hc51).2 (by decide) (by decide) ?_
                  show Steps p.tables e below (T49.setTop (mkF m 95 #[.val (.int p0), .val (.int v2), .val (.ref w_LOOP), .val (.int (0 : Int32))] [])) _
                  refine XS.iconst X49.here hx rfl (hb hby at_95) ?_
                  exact k)⟩
            obtain ⟨fs, hr, hrun, hended, hW, hsame⟩ := X49.leave (v := some (.int (nar .boolean j52))) (fun h => by rw [Bd.returns] at h; cases h)
            refine ⟨_, _, pre53 _ ?_, hrun, hended, _, _, rfl, ?_, ⟨_, rfl⟩, hW, hsame.mono (by decide) (by decide)⟩
            · show Steps p.tables e below (T49.setTop (mkF m 96 #[.val (.int p0), .val (.int v2), .val (.ref w_LOOP), .val (.int (0 : Int32))] [(.int j52)])) _
              exact retN X49 hx (t := .boolean) Bd.returns (by simp) (hb hby at_96) hr
            · show Q0 Z p0 w_FOUND w_COLLIDED w_NOT_FOUND w_INSERTED w_NO_ROUTE w_LOOP h0 n0 _ T49.heap _
              rw [e49]
              have hv : (nar .boolean j52) = f0 p0 w_FOUND w_COLLIDED w_NOT_FOUND w_INSERTED w_NO_ROUTE w_LOOP := (by subst hj52 hv2; simp only [f0, if_neg hc5, if_neg hc15, if_neg hc25, if_neg hc35, if_pos hc45])
              exact ⟨congrArg (fun z => some (Value.int z)) (hv.trans hlaw), N49⟩
          · have pre54 : ∀ t, Steps p.tables e below (s₁.setTop (mkF m 77 #[.val (.int p0), .val (.int v2), .unset, .unset] [])) t → Steps p.tables e below (s₁.setTop (entryFrame m #[(.int p0)] maxLocals)) t := fun t k => pre44 t (by
              show Steps p.tables e below (s₁.setTop (mkF m 65 #[.val (.int p0), .val (.int v2), .unset, .unset] [(.int (4 : Int32)), (.int v2)])) _
              refine XS.icmpYes X0.here hx rfl (pc0 := 65) (pc' := 77) rfl (hb hby at_65) rfl (feq hc45).2 (by decide) (by decide) ?_
              exact k)
            obtain ⟨T55, X55, e55, st55⟩ := getS2 X0 hx hZ hown (host := "") (Or.inl (hw _ (List.mem_of_getElem? (i := 18) rfl))) Via.refl e0 S_COLLIDED (g := (mkF m 77 #[.val (.int p0), .val (.int v2), .unset, .unset] [])) rfl (hb hby at_77)
            have pre56 : ∀ t, Steps p.tables e below (T55.setTop (mkF m 84 #[.val (.int p0), .val (.int v2), .val (.ref w_COLLIDED), .val (.int (1 : Int32))] [(.ref w_COLLIDED)])) t → Steps p.tables e below (s₁.setTop (entryFrame m #[(.int p0)] maxLocals)) t := fun t k => pre54 t (by
              show Steps p.tables e below (s₁.setTop (mkF m 77 #[.val (.int p0), .val (.int v2), .unset, .unset] [])) _
              refine st55 _ ?_
              show Steps p.tables e below (T55.setTop (mkF m 80 #[.val (.int p0), .val (.int v2), .unset, .unset] [(.ref w_COLLIDED)])) _
              refine XS.astoreN X55.here hx rfl (hb hby at_80) rfl rfl (l' := #[.val (.int p0), .val (.int v2), .val (.ref w_COLLIDED), .unset]) rfl ?_
              show Steps p.tables e below (T55.setTop (mkF m 81 #[.val (.int p0), .val (.int v2), .val (.ref w_COLLIDED), .unset] [])) _
              refine XS.iconst X55.here hx rfl (hb hby at_81) ?_
              show Steps p.tables e below (T55.setTop (mkF m 82 #[.val (.int p0), .val (.int v2), .val (.ref w_COLLIDED), .unset] [(.int (1 : Int32))])) _
              refine XS.istoreN X55.here hx rfl (hb hby at_82) rfl (l' := #[.val (.int p0), .val (.int v2), .val (.ref w_COLLIDED), .val (.int (1 : Int32))]) rfl ?_
              show Steps p.tables e below (T55.setTop (mkF m 83 #[.val (.int p0), .val (.int v2), .val (.ref w_COLLIDED), .val (.int (1 : Int32))] [])) _
              refine XS.aloadN X55.here hx rfl (hb hby at_83) rfl rfl ?_
              exact k)
            obtain ⟨cq57, kq57, q57a, q57b, q57c⟩ := isOf hZ e55 E_w_COLLIDED
            obtain ⟨_, _, ⟨T57, L57, k57, n57⟩, -, X57, ⟨Lc57, hQ57, l57, y57, z57⟩, st57⟩ := X55.virtualBack hx (y := (⟨"com/example/hopwise/hopwise/node/Message$Answer$Kind", "carriesBlock", "()Z"⟩ : MethodName)) (z := (⟨"com/example/hopwise/hopwise/node/Message$Answer$Kind", "carriesBlock", "()Z"⟩ : MethodName)) hown (mvT hZ (hw _ (List.mem_of_getElem? (i := 4) rfl))) (mvT hZ (hw _ (List.mem_of_getElem? (i := 5) rfl))) (notFace_of_selects (args := #[]) (mvT hZ (hw _ (List.mem_of_getElem? (i := 7) rfl)))) (mvT hZ (hw _ (List.mem_of_getElem? (i := 7) rfl))) (mvT hZ (hw _ (List.mem_of_getElem? (i := 6) rfl))) (by decide) (backOf (W := 0) (rm1 l Z aw hw [] w_COLLIDED w_FOUND w_COLLIDED h0 n0 Z0 S_FOUND S_COLLIDED) hZ (hw _ (List.mem_of_getElem? (i := 8) rfl)) (hw _ (List.mem_of_getElem? (i := 2) rfl)) (by decide) (by decide)) q57a q57c (g := (mkF m 84 #[.val (.int p0), .val (.int v2), .val (.ref w_COLLIDED), .val (.int (1 : Int32))] [(.ref w_COLLIDED)])) rfl (by rw [hml]; rfl) (Steps.refl _) (argsL := []) (rest := []) (lenOf pd_0 rfl) rfl (by show 2 * 0 + _ ≤ _; exact Nat.le_of_eq rfl) (hb hby at_84) (fun _ _ => ⟨rfl, e55, (by decide : 0 + 0 ≤ _), (by decide : 0 + 0 ≤ _)⟩)
            dsimp only [Pt.U, Pt.locs, Pt.cells, Pt.slots] at X57 l57 y57 z57 st57 hQ57
            subst l57 y57 z57
            obtain ⟨rfl, N57q, e57⟩ := hQ57
            have N57 := Fr.app N0 N57q
            have pre58 : ∀ t, Steps p.tables e below (T57.setTop (mkF m 88 #[.val (.int p0), .val (.int v2), .val (.ref w_COLLIDED), .val (.int (1 : Int32))] [(.int (1 : Int32)), (.int (f1 w_COLLIDED w_FOUND w_COLLIDED))])) t → Steps p.tables e below (s₁.setTop (entryFrame m #[(.int p0)] maxLocals)) t := fun t k => pre56 t (by
              show Steps p.tables e below (T55.setTop (mkF m 84 #[.val (.int p0), .val (.int v2), .val (.ref w_COLLIDED), .val (.int (1 : Int32))] [(.ref w_COLLIDED)])) _
              refine st57.trans ?_
              show Steps p.tables e below (T57.setTop (mkF m 87 #[.val (.int p0), .val (.int v2), .val (.ref w_COLLIDED), .val (.int (1 : Int32))] [(.int (f1 w_COLLIDED w_FOUND w_COLLIDED))])) _
              refine XS.iloadN X57.here hx rfl (hb hby at_87) rfl ?_
              exact k)
            obtain ⟨j60, hj60, pre61⟩ : ∃ (j60 : Int32), j60 = (if (f1 w_COLLIDED w_FOUND w_COLLIDED) = (1 : Int32) then (1 : Int32) else (0 : Int32)) ∧ ∀ t, Steps p.tables e below (T57.setTop (mkF m 96 #[.val (.int p0), .val (.int v2), .val (.ref w_COLLIDED), .val (.int (1 : Int32))] [(.int j60)])) t → Steps p.tables e below (s₁.setTop (entryFrame m #[(.int p0)] maxLocals)) t := by
              by_cases hc59 : (f1 w_COLLIDED w_FOUND w_COLLIDED) = (1 : Int32)
              · exact ⟨(1 : Int32), (by rw [if_pos hc59]), fun t k => pre58 t (by
                  show Steps p.tables e below (T57.setTop (mkF m 88 #[.val (.int p0), .val (.int v2), .val (.ref w_COLLIDED), .val (.int (1 : Int32))] [(.int (1 : Int32)), (.int (f1 w_COLLIDED w_FOUND w_COLLIDED))])) _
                  refine XS.icmpNo X57.here hx rfl (hb hby at_88) rfl (teq hc59).2 ?_
                  show Steps p.tables e below (T57.setTop (mkF m 91 #[.val (.int p0), .val (.int v2), .val (.ref w_COLLIDED), .val (.int (1 : Int32))] [])) _
                  refine XS.iconst X57.here hx rfl (hb hby at_91) ?_
                  show Steps p.tables e below (T57.setTop (mkF m 92 #[.val (.int p0), .val (.int v2), .val (.ref w_COLLIDED), .val (.int (1 : Int32))] [(.int (1 : Int32))])) _
                  refine XS.goto X57.here hx rfl (pc0 := 92) (pc' := 96) rfl (hb hby at_92) (by decide) (by decide) ?_
                  exact k)⟩
              · exact ⟨(0 : Int32), (by rw [if_neg hc59]), fun t k => pre58 t (by
                  show Steps p.tables e below (T57.setTop (mkF m 88 #[.val (.int p0), .val (.int v2), .val (.ref w_COLLIDED), .val (.int (1 : Int32))] [(.int (1 : Int32)), (.int (f1 w_COLLIDED w_FOUND w_COLLIDED))])) _
                  refine XS.icmpYes X57.here hx rfl (pc0 := 88) (pc' := 95) rfl (hb hby at_88) rfl (feq hc59).2 (by decide) (by decide) ?_
                  show Steps p.tables e below (T57.setTop (mkF m 95 #[.val (.int p0), .val (.int v2), .val (.ref w_COLLIDED), .val (.int (1 : Int32))] [])) _
                  refine XS.iconst X57.here hx rfl (hb hby at_95) ?_
                  exact k)⟩
            obtain ⟨fs, hr, hrun, hended, hW, hsame⟩ := X57.leave (v := some (.int (nar .boolean j60))) (fun h => by rw [Bd.returns] at h; cases h)
            refine ⟨_, _, pre61 _ ?_, hrun, hended, _, _, rfl, ?_, ⟨_, rfl⟩, hW, hsame.mono (by decide) (by decide)⟩
            · show Steps p.tables e below (T57.setTop (mkF m 96 #[.val (.int p0), .val (.int v2), .val (.ref w_COLLIDED), .val (.int (1 : Int32))] [(.int j60)])) _
              exact retN X57 hx (t := .boolean) Bd.returns (by simp) (hb hby at_96) hr
            · show Q0 Z p0 w_FOUND w_COLLIDED w_NOT_FOUND w_INSERTED w_NO_ROUTE w_LOOP h0 n0 _ T57.heap _
              rw [e57]
              have hv : (nar .boolean j60) = f0 p0 w_FOUND w_COLLIDED w_NOT_FOUND w_INSERTED w_NO_ROUTE w_LOOP := (by subst hj60 hv2; simp only [f0, if_neg hc5, if_neg hc15, if_neg hc25, if_neg hc35, if_neg hc45])
              exact ⟨congrArg (fun z => some (Value.int z)) (hv.trans hlaw), N57⟩
theorem own_law (p0 : Int32) (w_FOUND : Addr) (w_COLLIDED : Addr) (w_NOT_FOUND : Addr) (w_INSERTED : Addr) (w_NO_ROUTE : Addr) (w_LOOP : Addr) (h_NOT_FOUND_FOUND : w_NOT_FOUND ≠ w_FOUND) (h_NOT_FOUND_COLLIDED : w_NOT_FOUND ≠ w_COLLIDED) (h_INSERTED_FOUND : w_INSERTED ≠ w_FOUND) (h_INSERTED_COLLIDED : w_INSERTED ≠ w_COLLIDED) (h_NO_ROUTE_FOUND : w_NO_ROUTE ≠ w_FOUND) (h_NO_ROUTE_COLLIDED : w_NO_ROUTE ≠ w_COLLIDED) (h_LOOP_FOUND : w_LOOP ≠ w_FOUND) (h_LOOP_COLLIDED : w_LOOP ≠ w_COLLIDED) : f0 p0 w_FOUND w_COLLIDED w_NOT_FOUND w_INSERTED w_NO_ROUTE w_LOOP = 1 := by
  have n1 : ¬ ((1 : Int32) = 0) := by decide
  unfold f0 f1
  simp only [h_NOT_FOUND_FOUND, h_NOT_FOUND_COLLIDED, h_INSERTED_FOUND, h_INSERTED_COLLIDED, h_NO_ROUTE_FOUND, h_NO_ROUTE_COLLIDED, h_LOOP_FOUND, h_LOOP_COLLIDED, if_true, if_false]
  repeat' split
  all_goals first | rfl | (exfalso; rename_i q; exact q rfl) | (exfalso; simp_all; done)

set_option maxRecDepth 65536 in
set_option maxHeartbeats 40000000 in
theorem comes_1 {Post : Tables → Env → Array Value → State → Outcome → State → Prop} (hpost : ∀ tb e args s v u, (limb_1_1.after args s (.returned v) u = true ∧ limb_1_2.after args s (.returned v) u = true ∧ True) → FrameEnd s (.returned v) u (Jvm.fieldLocs frame_1_writes args s ++ Jvm.arrayLocs frame_1_arrays args s ++ Jvm.staticLocs frame_1_statics s) 0 0 → Post tb e args s (.returned v) u) :
    ArmFor flags0 classFile x code maxLocals ret World_1 tables_1 room_1 Calls_1 rest_1 Pre_1 Post := by
  intro l hfl _ _ p e ha hc hk s m args below hf hA hF happ hP
  obtain ⟨hcalls, hrest, hpre⟩ := hP
  obtain ⟨-, -, -, hnamed, -, -, -, hat⟩ := (Spec.applies_iff hf).mp happ
  obtain ⟨hg, hn⟩ := and_e (Cond.before_iff.mp (show (Jvm.Cond.and given_1 narrow_1).before args s = true from hpre))
  obtain ⟨g1, g2⟩ := and_e hg
  obtain ⟨w0, rfl⟩ : ∃ w0 : Value, args = #[w0] := by
    have hs : args.size = 1 := by simpa [Cond.value, given_1] using g1
    obtain ⟨L⟩ := args
    match L, hs with
    | [w0], _ => exact ⟨w0, rfl⟩
  have hw := fun d (hd : d ∈ tables_1) => atoms_spec (ws := Jvm.Cond.code x code maxLocals ret :: tables_1) hat d (List.mem_cons_of_mem _ hd)
  have hfit : Fit s := fun {y c} hc i hi => by
    obtain ⟨ha, rfl⟩ := Array.getElem?_eq_some_iff.mp hc
    have q := List.all_eq_true.mp ((Array.all_eq_true_iff_forall_mem.mp hF) _ (Array.getElem_mem ha)) i (List.mem_range.mpr hi)
    simpa [Array.getElem?_eq_getElem hi] using q
  obtain ⟨i0, ei0⟩ := is_v g2
  obtain rfl : w0 = (.int i0) := Option.some.inj ei0
  obtain ⟨nn1, nn2⟩ := and_e hn
  obtain ⟨nn3, nn4⟩ := and_e nn2
  obtain ⟨nn5, nn6⟩ := and_e nn4
  obtain ⟨nn7, nn8⟩ := and_e nn6
  obtain ⟨nn9, nn10⟩ := and_e nn8
  obtain ⟨nn11, nn12⟩ := and_e nn10
  obtain ⟨nn13, nn14⟩ := and_e nn12
  obtain ⟨nn15, nn16⟩ := and_e nn14
  obtain ⟨nn17, nn18⟩ := and_e nn16
  obtain ⟨nn19, nn20⟩ := and_e nn18
  obtain ⟨nn21, nn22⟩ := and_e nn20
  obtain ⟨z_FOUND, ez_FOUND⟩ := exa_v nn1
  have S_FOUND : Sta s s.heap "com/example/hopwise/hopwise/node/Message$Answer$Kind" "FOUND" "Lcom/example/hopwise/hopwise/node/Message$Answer$Kind;" (.ref z_FOUND) := Sta.start ez_FOUND (Or.inr ⟨hw _ (List.mem_of_getElem? (i := 2) rfl), hw _ (List.mem_of_getElem? (i := 3) rfl)⟩)
  have E_FOUND : Exa s s.heap z_FOUND "com/example/hopwise/hopwise/node/Message$Answer$Kind" := Exa.start ez_FOUND nn1
  obtain ⟨z_NO_ROUTE, ez_NO_ROUTE⟩ := exa_v nn3
  have S_NO_ROUTE : Sta s s.heap "com/example/hopwise/hopwise/node/Message$Answer$Kind" "NO_ROUTE" "Lcom/example/hopwise/hopwise/node/Message$Answer$Kind;" (.ref z_NO_ROUTE) := Sta.start ez_NO_ROUTE (Or.inr ⟨hw _ (List.mem_of_getElem? (i := 2) rfl), hw _ (List.mem_of_getElem? (i := 11) rfl)⟩)
  have E_NO_ROUTE : Exa s s.heap z_NO_ROUTE "com/example/hopwise/hopwise/node/Message$Answer$Kind" := Exa.start ez_NO_ROUTE nn3
  obtain ⟨z_COLLIDED, ez_COLLIDED⟩ := exa_v nn9
  have S_COLLIDED : Sta s s.heap "com/example/hopwise/hopwise/node/Message$Answer$Kind" "COLLIDED" "Lcom/example/hopwise/hopwise/node/Message$Answer$Kind;" (.ref z_COLLIDED) := Sta.start ez_COLLIDED (Or.inr ⟨hw _ (List.mem_of_getElem? (i := 2) rfl), hw _ (List.mem_of_getElem? (i := 13) rfl)⟩)
  have E_COLLIDED : Exa s s.heap z_COLLIDED "com/example/hopwise/hopwise/node/Message$Answer$Kind" := Exa.start ez_COLLIDED nn9
  obtain ⟨z_INSERTED, ez_INSERTED⟩ := exa_v nn13
  have S_INSERTED : Sta s s.heap "com/example/hopwise/hopwise/node/Message$Answer$Kind" "INSERTED" "Lcom/example/hopwise/hopwise/node/Message$Answer$Kind;" (.ref z_INSERTED) := Sta.start ez_INSERTED (Or.inr ⟨hw _ (List.mem_of_getElem? (i := 2) rfl), hw _ (List.mem_of_getElem? (i := 15) rfl)⟩)
  have E_INSERTED : Exa s s.heap z_INSERTED "com/example/hopwise/hopwise/node/Message$Answer$Kind" := Exa.start ez_INSERTED nn13
  obtain ⟨z_NOT_FOUND, ez_NOT_FOUND⟩ := exa_v nn17
  have S_NOT_FOUND : Sta s s.heap "com/example/hopwise/hopwise/node/Message$Answer$Kind" "NOT_FOUND" "Lcom/example/hopwise/hopwise/node/Message$Answer$Kind;" (.ref z_NOT_FOUND) := Sta.start ez_NOT_FOUND (Or.inr ⟨hw _ (List.mem_of_getElem? (i := 2) rfl), hw _ (List.mem_of_getElem? (i := 17) rfl)⟩)
  have E_NOT_FOUND : Exa s s.heap z_NOT_FOUND "com/example/hopwise/hopwise/node/Message$Answer$Kind" := Exa.start ez_NOT_FOUND nn17
  obtain ⟨z_LOOP, ez_LOOP⟩ := exa_v nn21
  have S_LOOP : Sta s s.heap "com/example/hopwise/hopwise/node/Message$Answer$Kind" "LOOP" "Lcom/example/hopwise/hopwise/node/Message$Answer$Kind;" (.ref z_LOOP) := Sta.start ez_LOOP (Or.inr ⟨hw _ (List.mem_of_getElem? (i := 2) rfl), hw _ (List.mem_of_getElem? (i := 20) rfl)⟩)
  have E_LOOP : Exa s s.heap z_LOOP "com/example/hopwise/hopwise/node/Message$Answer$Kind" := Exa.start ez_LOOP nn21
  have F_ordinal_NO_ROUTE : Fld s s.heap z_NO_ROUTE "java/lang/Enum" "ordinal" "I" (.int (3 : Int32)) := Fld.start ((fld_at ez_NO_ROUTE).symm.trans (own_eq_int nn5))
  have F_ordinal_FOUND : Fld s s.heap z_FOUND "java/lang/Enum" "ordinal" "I" (.int (0 : Int32)) := Fld.start ((fld_at ez_FOUND).symm.trans (own_eq_int nn7))
  have F_ordinal_COLLIDED : Fld s s.heap z_COLLIDED "java/lang/Enum" "ordinal" "I" (.int (5 : Int32)) := Fld.start ((fld_at ez_COLLIDED).symm.trans (own_eq_int nn11))
  have F_ordinal_INSERTED : Fld s s.heap z_INSERTED "java/lang/Enum" "ordinal" "I" (.int (2 : Int32)) := Fld.start ((fld_at ez_INSERTED).symm.trans (own_eq_int nn15))
  have F_ordinal_NOT_FOUND : Fld s s.heap z_NOT_FOUND "java/lang/Enum" "ordinal" "I" (.int (1 : Int32)) := Fld.start ((fld_at ez_NOT_FOUND).symm.trans (own_eq_int nn19))
  have F_ordinal_LOOP : Fld s s.heap z_LOOP "java/lang/Enum" "ordinal" "I" (.int (4 : Int32)) := Fld.start ((fld_at ez_LOOP).symm.trans (own_eq_int nn22))
  obtain ⟨n, o, h1, h2, h3, _, L, rfl, ⟨rfl, N⟩, hq⟩ := rm0 l s _ hw tables_1 i0 z_FOUND z_COLLIDED z_NOT_FOUND z_INSERTED z_NO_ROUTE z_LOOP s.heap s.heap.size (Nat.le_refl _) S_FOUND S_COLLIDED E_FOUND S_NOT_FOUND E_NOT_FOUND S_INSERTED E_INSERTED S_NO_ROUTE E_NO_ROUTE S_LOOP E_LOOP E_COLLIDED (own_law i0 z_FOUND z_COLLIDED z_NOT_FOUND z_INSERTED z_NO_ROUTE z_LOOP (F_ordinal_NOT_FOUND.ne F_ordinal_FOUND (by decide)) (F_ordinal_NOT_FOUND.ne F_ordinal_COLLIDED (by decide)) (F_ordinal_INSERTED.ne F_ordinal_FOUND (by decide)) (F_ordinal_INSERTED.ne F_ordinal_COLLIDED (by decide)) (F_ordinal_NO_ROUTE.ne F_ordinal_FOUND (by decide)) (F_ordinal_NO_ROUTE.ne F_ordinal_COLLIDED (by decide)) (F_ordinal_LOOP.ne F_ordinal_FOUND (by decide)) (F_ordinal_LOOP.ne F_ordinal_COLLIDED (by decide))) p e ha hc hk s m _ below hf ((Spec.applies_iff_loose hf).mp happ).1 ⟨rfl, State.Warmed39.refl s, rfl⟩ trivial
  refine ⟨n, _, h1, h2, h3, hpost _ _ _ _ _ _ ⟨Cond.after_iff.mpr rfl, Cond.after_iff.mpr (eq_i res_at (Term.int_eval (1)) rfl), trivial⟩ ⟨hq.1, hq.2.1, (hq.2.2.sift fun y hy => Or.inr (N y hy)).mono (by decide) (by decide)⟩⟩
theorem main_1_1 : Claimed_1_1 := comes_1 fun _ _ _ _ _ _ h hF => ⟨h.1, hF⟩
theorem main_1_2 : Claimed_1_2 := comes_1 fun _ _ _ _ _ _ h hF => ⟨h.2.1, hF⟩
end Jvm.Pilot.@@N@@
namespace Jvm.Pilot.@@N@@
open Jvm Jvm.ClassFile Sem Op Lib Jvm.Free Jvm.Stand Jvm.Pilot.@@N@@.Jvm.D
/-! MADE BY PROGRAM (witnessworld.py) out of the Statement's table words and the real class files: 12 classes; the members and pool entries that the words name. The judged class is class 1, her method 1. -/
namespace start1
open Jvm.ClassFile
def u (s : String) : CpInfo := .utf8 (stringToUtf16 s)
/-- a pool by its gaps: so many unusable entries, then the entry; so many at the end -/
def gap : Nat → List CpInfo → List CpInfo
  | 0, r => r
  | n + 1, r => .unusable :: gap n r
def poolList (es : List (Nat × CpInfo)) (last : Nat) : List CpInfo := es.foldr (fun e r => gap e.1 (e.2 :: r)) (gap last [])
def pool (es : List (Nat × CpInfo)) (last : Nat) : Array CpInfo := ⟨poolList es last⟩
def fileOf (pool : Array CpInfo) (this : Nat) (attrs : Array Attribute := #[]) (ms : Array MethodInfo := #[]) (fl : Nat := 33) (sup : Nat := 0) (ifs : Array Nat := #[]) (fds : Array FieldInfo := #[]) : ClassFile where
  minorVersion := 0
  majorVersion := 65
  constantPool := pool
  accessFlags := fl
  thisClass := this
  superClass := sup
  interfaces := ifs
  fields := fds
  methods := ms
  attributes := attrs
def plain (name : String) (sup : Option ClassId) : Class where
  name := name
  kind := .ordinary
  loader := none
  accessFlags := 33
  super := sup
  interfaces := #[]
  cf := none
  fields := #[]
  methods := #[]
  instanceTypes := #[]
  staticTypes := #[]
  resolved := #[]
  callSites := []
  init := .initialized
  statics := none
  mirror := none

def pool0 : Array CpInfo := pool [(5, u "<init>"), (0, u "()V"), (1, .class_ 10), (1, u "java/lang/Object")] 113

def k0m0 : Method := { name := "<init>", desc := "()V", sig := { parameters := [], returnType := none }, accessFlags := 1, code := none }
/-- java/lang/Object -/
def k0 : Class := { plain "java/lang/Object" none with
  accessFlags := 33
  interfaces := #[]
  cf := some (fileOf pool0 8 #[] #[{ accessFlags := 1, nameIndex := 5, descriptorIndex := 6, attributes := #[] }] 33 0 #[] #[])
  fields := #[]
  methods := #[k0m0]
  instanceTypes := #[]
  staticTypes := #[]
  resolved := Array.replicate 124 none
  statics := none }

def pool1 : Array CpInfo := pool [(2, .class_ 4), (1, u "java/lang/Object"), (0, u "<init>"), (0, u "()V"), (0, .integer 2147483647), (0, .fieldref 9 10), (0, .class_ 11), (0, .nameAndType 12 13), (0, u "com/example/hopwise/hopwise/node/Message$Answer$Kind"), (0, u "FOUND"), (0, u "Lcom/example/hopwise/hopwise/node/Message$Answer$Kind;"), (0, .fieldref 9 15), (0, .nameAndType 16 13), (0, u "NOT_FOUND"), (0, .fieldref 9 18), (0, .nameAndType 19 13), (0, u "INSERTED"), (0, .fieldref 9 21), (0, .nameAndType 22 13), (0, u "NO_ROUTE"), (0, .fieldref 9 24), (0, .nameAndType 25 13), (0, u "LOOP"), (0, .fieldref 9 27), (0, .nameAndType 28 13), (0, u "COLLIDED"), (0, .methodref 9 30), (0, .nameAndType 31 32), (0, u "carriesBlock"), (0, u "()Z"), (0, .class_ 34), (0, u "com/example/hopwise/hopwise/node/KindCarriesBlockPinLaw"), (2, u "law"), (0, u "(I)Z")] 10

def k1m0 : Method := { name := "<init>", desc := "()V", sig := { parameters := [], returnType := none }, accessFlags := 1, code := none }
def k1c1 : Code := { maxStack := 2, maxLocals := 4, code := code, exceptionTable := #[], attributes := #[] }
def k1m1 : Method := { name := "law", desc := "(I)Z", sig := { parameters := [.int], returnType := some .boolean }, accessFlags := 9, code := some k1c1 }
/-- com/example/hopwise/hopwise/node/KindCarriesBlockPinLaw -/
def k1 : Class := { plain "com/example/hopwise/hopwise/node/KindCarriesBlockPinLaw" (some 0) with
  accessFlags := 49
  interfaces := #[]
  cf := some (fileOf pool1 33 #[] #[{ accessFlags := 1, nameIndex := 5, descriptorIndex := 6, attributes := #[] }, { accessFlags := 9, nameIndex := 37, descriptorIndex := 38, attributes := #[] }] 49 2 #[] #[])
  fields := #[]
  methods := #[k1m0, k1m1]
  instanceTypes := #[]
  staticTypes := #[]
  resolved := Array.replicate 49 none
  statics := none }

def pool2 : Array CpInfo := pool [(1, .class_ 2), (0, u "java/lang/constant/Constable"), (0, .class_ 4), (0, u "java/lang/Object")] 6

/-- java/lang/constant/Constable -/
def k2 : Class := { plain "java/lang/constant/Constable" (some 0) with
  accessFlags := 1537
  interfaces := #[]
  cf := some (fileOf pool2 1 #[] #[] 1537 3 #[] #[])
  fields := #[]
  methods := #[]
  instanceTypes := #[]
  staticTypes := #[]
  resolved := Array.replicate 11 none
  statics := none }

def pool3 : Array CpInfo := pool [(1, .class_ 2), (0, u "java/lang/Comparable"), (0, .class_ 4), (0, u "java/lang/Object")] 7

/-- java/lang/Comparable -/
def k3 : Class := { plain "java/lang/Comparable" (some 0) with
  accessFlags := 1537
  interfaces := #[]
  cf := some (fileOf pool3 1 #[] #[] 1537 3 #[] #[])
  fields := #[]
  methods := #[]
  instanceTypes := #[]
  staticTypes := #[]
  resolved := Array.replicate 12 none
  statics := none }

def pool4 : Array CpInfo := pool [(1, .class_ 2), (0, u "java/io/Serializable"), (0, .class_ 4), (0, u "java/lang/Object")] 2

/-- java/io/Serializable -/
def k4 : Class := { plain "java/io/Serializable" (some 0) with
  accessFlags := 1537
  interfaces := #[]
  cf := some (fileOf pool4 1 #[] #[] 1537 3 #[] #[])
  fields := #[]
  methods := #[]
  instanceTypes := #[]
  staticTypes := #[]
  resolved := Array.replicate 7 none
  statics := none }

def pool5 : Array CpInfo := pool [(2, .class_ 4), (1, u "java/lang/Enum"), (0, u "name"), (0, u "Ljava/lang/String;"), (2, u "ordinal"), (0, u "I"), (1, .class_ 14), (1, u "java/lang/Object"), (4, u "hash"), (86, .class_ 108), (1, u "java/lang/Enum$EnumDesc"), (2, .class_ 112), (0, u "java/lang/constant/Constable"), (0, .class_ 114), (0, u "java/lang/Comparable"), (0, .class_ 116), (0, u "java/io/Serializable")] 87

/-- java/lang/Enum -/
def k5 : Class := { plain "java/lang/Enum" (some 0) with
  accessFlags := 1057
  interfaces := #[2, 3, 4]
  cf := some (fileOf pool5 2 #[.nestMembers #[106]] #[] 1057 12 #[111, 113, 115] #[{ accessFlags := 18, nameIndex := 5, descriptorIndex := 6, attributes := #[] }, { accessFlags := 18, nameIndex := 9, descriptorIndex := 10, attributes := #[] }, { accessFlags := 2, nameIndex := 19, descriptorIndex := 10, attributes := #[] }])
  fields := #[{ name := "name", type := (.object "java/lang/String"), accessFlags := 18, slot := 0, constantValue := 0 }, { name := "ordinal", type := .int, accessFlags := 18, slot := 1, constantValue := 0 }, { name := "hash", type := .int, accessFlags := 2, slot := 2, constantValue := 0 }]
  methods := #[]
  instanceTypes := #[(.object "java/lang/String"), .int, .int]
  staticTypes := #[]
  resolved := Array.replicate 204 none
  statics := none }

def pool6 : Array CpInfo := pool [(1, .class_ 2), (0, u "com/example/hopwise/hopwise/node/Message$Answer$Kind"), (0, .fieldref 1 4), (0, .nameAndType 5 6), (0, u "FOUND"), (0, u "Lcom/example/hopwise/hopwise/node/Message$Answer$Kind;"), (2, u "NOT_FOUND"), (2, u "INSERTED"), (2, u "NO_ROUTE"), (2, u "LOOP"), (0, .fieldref 1 20), (0, .nameAndType 21 6), (0, u "COLLIDED"), (2, u "$VALUES"), (0, u "[Lcom/example/hopwise/hopwise/node/Message$Answer$Kind;"), (6, .class_ 34), (1, u "java/lang/Enum"), (8, u "code"), (0, u "B"), (32, u "carriesBlock"), (0, u "()Z"), (9, .class_ 89), (0, u "com/example/hopwise/hopwise/node/Message")] 5

def k6c0 : Code := { maxStack := 2, maxLocals := 1, code := prog_94_method_4_code, exceptionTable := #[], attributes := #[] }
def k6m0 : Method := { name := "carriesBlock", desc := "()Z", sig := { parameters := [], returnType := some .boolean }, accessFlags := 0, code := some k6c0 }
/-- com/example/hopwise/hopwise/node/Message$Answer$Kind -/
def k6 : Class := { plain "com/example/hopwise/hopwise/node/Message$Answer$Kind" (some 5) with
  accessFlags := 16432
  interfaces := #[]
  cf := some (fileOf pool6 1 #[.nestHost 88] #[{ accessFlags := 0, nameIndex := 77, descriptorIndex := 78, attributes := #[] }] 16432 32 #[] #[{ accessFlags := 16409, nameIndex := 5, descriptorIndex := 6, attributes := #[] }, { accessFlags := 16409, nameIndex := 9, descriptorIndex := 6, attributes := #[] }, { accessFlags := 16409, nameIndex := 12, descriptorIndex := 6, attributes := #[] }, { accessFlags := 16409, nameIndex := 15, descriptorIndex := 6, attributes := #[] }, { accessFlags := 16409, nameIndex := 18, descriptorIndex := 6, attributes := #[] }, { accessFlags := 16409, nameIndex := 21, descriptorIndex := 6, attributes := #[] }, { accessFlags := 18, nameIndex := 43, descriptorIndex := 44, attributes := #[] }, { accessFlags := 4122, nameIndex := 24, descriptorIndex := 25, attributes := #[] }])
  fields := #[{ name := "FOUND", type := (.object "com/example/hopwise/hopwise/node/Message$Answer$Kind"), accessFlags := 16409, slot := 0, constantValue := 0 }, { name := "NOT_FOUND", type := (.object "com/example/hopwise/hopwise/node/Message$Answer$Kind"), accessFlags := 16409, slot := 1, constantValue := 0 }, { name := "INSERTED", type := (.object "com/example/hopwise/hopwise/node/Message$Answer$Kind"), accessFlags := 16409, slot := 2, constantValue := 0 }, { name := "NO_ROUTE", type := (.object "com/example/hopwise/hopwise/node/Message$Answer$Kind"), accessFlags := 16409, slot := 3, constantValue := 0 }, { name := "LOOP", type := (.object "com/example/hopwise/hopwise/node/Message$Answer$Kind"), accessFlags := 16409, slot := 4, constantValue := 0 }, { name := "COLLIDED", type := (.object "com/example/hopwise/hopwise/node/Message$Answer$Kind"), accessFlags := 16409, slot := 5, constantValue := 0 }, { name := "code", type := .byte, accessFlags := 18, slot := 3, constantValue := 0 }, { name := "$VALUES", type := (.array (.object "com/example/hopwise/hopwise/node/Message$Answer$Kind")), accessFlags := 4122, slot := 6, constantValue := 0 }]
  methods := #[k6m0]
  instanceTypes := #[(.object "java/lang/String"), .int, .int, .byte]
  staticTypes := #[(.object "com/example/hopwise/hopwise/node/Message$Answer$Kind"), (.object "com/example/hopwise/hopwise/node/Message$Answer$Kind"), (.object "com/example/hopwise/hopwise/node/Message$Answer$Kind"), (.object "com/example/hopwise/hopwise/node/Message$Answer$Kind"), (.object "com/example/hopwise/hopwise/node/Message$Answer$Kind"), (.object "com/example/hopwise/hopwise/node/Message$Answer$Kind"), (.array (.object "com/example/hopwise/hopwise/node/Message$Answer$Kind"))]
  resolved := Array.replicate 95 none
  statics := some 0 }

def pool7 : Array CpInfo := pool [(1, u "java/lang/Cloneable"), (0, .class_ 1), (0, u "java/lang/Object"), (0, .class_ 3)] 3

/-- java/lang/Cloneable -/
def k7 : Class := { plain "java/lang/Cloneable" (some 0) with
  accessFlags := 1537
  interfaces := #[]
  cf := some (fileOf pool7 2 #[] #[] 1537 4 #[] #[])
  fields := #[]
  methods := #[]
  instanceTypes := #[]
  staticTypes := #[]
  resolved := Array.replicate 8 none
  statics := none }

/-- the primitive byte -/
def k8 : Class := { plain "byte" none with kind := .primitive 'B', accessFlags := 0x411 }
/-- [B -/
def k9 : Class := { plain "[B" (some 0) with kind := .array 8 .byte, interfaces := #[7, 4], accessFlags := 1041 }

/-- the primitive int -/
def k10 : Class := { plain "int" none with kind := .primitive 'I', accessFlags := 0x411 }
/-- [I -/
def k11 : Class := { plain "[I" (some 0) with kind := .array 10 .int, interfaces := #[7, 4], accessFlags := 1041 }

def heap : Heap := #[{ cls := 6, slots := #[.ref 1, .ref 5, .ref 4, .ref 2, .ref 6, .ref 3, .null], vm := .statics 6 },
  { cls := 6, slots := #[.null, .int 0, .int 0, .int 0], vm := .none },
  { cls := 6, slots := #[.null, .int 3, .int 0, .int 0], vm := .none },
  { cls := 6, slots := #[.null, .int 5, .int 0, .int 0], vm := .none },
  { cls := 6, slots := #[.null, .int 2, .int 0, .int 0], vm := .none },
  { cls := 6, slots := #[.null, .int 1, .int 0, .int 0], vm := .none },
  { cls := 6, slots := #[.null, .int 4, .int 0, .int 0], vm := .none }]
def classes : Array Class := #[k0, k1, k2, k3, k4, k5, k6, k7, k8, k9, k10, k11]
def interned : List (Array UInt16 × Addr) := []
def slotsUsed : Nat := 31
def theMethod : MethodId := ⟨1, 1⟩
def args0 : Array Value := #[.int 5]
def aboutOver (below : List Frame) : State where
  vm := { classes := classes, interned := interned.toArray }
  heap := heap
  slotsUsed := slotsUsed
  threads := #[{ frames := .invoking theMethod args0 :: below }]
def below0 : List Frame := [.native { method := ⟨0, 0⟩, args := #[] }]
def about1 : State := aboutOver below0
def p0 : Program := .bare "" "" ""
def e0 : Env := launch0.env 0 0 0
theorem w_frames : about1.frames = Frame.invoking theMethod args0 :: below0 := rfl
set_option maxRecDepth 65536 in
theorem w_args : argsFit about1.vm theMethod args0 = true := by decide +kernel
set_option maxRecDepth 65536 in
theorem w_heap : heapFits about1 = true := by decide +kernel
set_option maxRecDepth 65536 in
theorem w_runnable : about1.curStatus? = some .runnable := by decide +kernel
set_option maxRecDepth 65536 in
theorem w_alone : about1.alone = true := by decide +kernel
set_option maxRecDepth 65536 in
theorem w_named : about1.methodNamed? x = some theMethod := by decide +kernel
set_option maxRecDepth 65536 in
theorem w_hears : about1.hears theMethod below0 = true := by decide +kernel
set_option maxRecDepth 65536 in
theorem w_ripe : about1.ripe theMethod args0 below0 = true := by decide +kernel
theorem w_running : about1.status = .running := rfl
set_option maxRecDepth 65536 in
theorem w_room : about1.hasRoom e0.platform room_1 = true :=
  launch0.hasRoom_least _ room_1 (by decide +kernel) (by decide +kernel) (by decide +kernel) (by decide +kernel) (by decide +kernel) (by decide +kernel)
theorem allAtoms_all (ts : List Jvm.Cond) (a : Array Jvm.Value) (st : Jvm.State) : (allAtoms ts).before a st = ts.all (fun c => c.before a st) := by
  induction ts with
  | nil => rfl
  | cons c t ih =>
    show (Jvm.Cond.and c (allAtoms t)).before a st = _
    rw [Jvm.Cond.before_and, ih, List.all_cons]
def words1 : List Jvm.Cond := Jvm.Cond.code x code maxLocals ret :: tables_1
/-- a 'code' word, met by the world's own term for the bytes: nothing is compared byte by byte -/
theorem code_word {y : MethodName} {bytes : ByteArray} {mx : Nat} {rt : Option FieldType} {a : Array Value} {s : State} {m : MethodId} {meth : Method} {c : Code} (h1 : s.methodNamed? y = some m) (h2 : s.vm.method? m = some meth) (h3 : meth.code = some c) (h4 : c.code = bytes)
    (h5 : (c.maxLocals == mx && c.exceptionTable.isEmpty && decide (c.maxStack ≤ mostOperands) && decide (meth.sig.returnType = rt) && !meth.locks && decide (parseMethodDescriptor y.desc = some meth.sig)) = true) : (Jvm.Cond.code y bytes mx rt).before a s = true := by
  simp only [Bool.and_eq_true, beq_iff_eq, Bool.not_eq_true', decide_eq_true_eq] at h5
  obtain ⟨⟨⟨⟨⟨g1, g2⟩, g3⟩, g4⟩, g5⟩, g6⟩ := h5
  simp [Cond.before, Cond.holds, Cond.value, h1, h2, h3, h4, g1, g2, g3, g4, g5, g6]
def isCode : Jvm.Cond → Bool
  | .code _ _ _ _ => true
  | _ => false
theorem all_split {L : List Jvm.Cond} {P : Jvm.Cond → Bool} (h1 : L.all (fun c => isCode c || P c) = true) (h2 : ∀ c ∈ L.filter isCode, P c = true) : L.all P = true := by
  refine List.all_eq_true.mpr fun c hc => ?_
  have h := List.all_eq_true.mp h1 c hc
  rcases Bool.eq_false_or_eq_true (isCode c) with hi | hi
  · exact h2 c (List.mem_filter.mpr ⟨hc, hi⟩)
  · simpa [hi] using h
set_option maxRecDepth 65536 in
theorem w_c0 : (Jvm.Cond.code x code maxLocals ret).before args0 about1 = true := code_word (m := ⟨1, 1⟩) (meth := k1m1) (c := k1c1) (by decide +kernel) rfl rfl rfl (by decide +kernel)
set_option maxRecDepth 65536 in
theorem w_c1 : (Jvm.Cond.code ({ cls := "com/example/hopwise/hopwise/node/Message$Answer$Kind", name := "carriesBlock", desc := "()Z" } : Jvm.MethodName) prog_94_method_4_code (1 : Nat) (Option.some Jvm.ClassFile.FieldType.boolean)).before args0 about1 = true := code_word (m := ⟨6, 0⟩) (meth := k6m0) (c := k6c0) (by decide +kernel) rfl rfl rfl (by decide +kernel)
def codes1 : List Jvm.Cond := [Jvm.Cond.code x code maxLocals ret, Jvm.Cond.code ({ cls := "com/example/hopwise/hopwise/node/Message$Answer$Kind", name := "carriesBlock", desc := "()Z" } : Jvm.MethodName) prog_94_method_4_code (1 : Nat) (Option.some Jvm.ClassFile.FieldType.boolean)]
set_option maxRecDepth 65536 in
theorem codes_eq : words1.filter isCode = codes1 := rfl
theorem w_codes : ∀ c ∈ words1.filter isCode, c.before args0 about1 = true := by
  rw [codes_eq]
  intro c hc
  simp only [codes1, List.mem_cons, List.not_mem_nil, or_false] at hc
  rcases hc with rfl | rfl
  · exact w_c0
  · exact w_c1
set_option maxRecDepth 65536 in
theorem w_t1 : words1.all (fun c => isCode c || c.before args0 about1) = true := by decide +kernel
theorem w_tables : (allAtoms (Jvm.Cond.code x code maxLocals ret :: tables_1)).before args0 about1 = true := by
  rw [allAtoms_all]
  show words1.all (fun c => c.before args0 about1) = true
  refine all_split ?_ w_codes
  rw [w_t1]
set_option maxRecDepth 65536 in
theorem w_case : (Jvm.Cond.and given_1 narrow_1).before args0 about1 = true := by decide +kernel
theorem w_applies : (headSpec (Jvm.Cond.code x code maxLocals ret :: tables_1) room_1).applies x e0.platform about1 = true :=
  (Spec.applies_iff w_frames).mpr ⟨w_running, w_runnable, w_alone, w_named, w_hears, w_ripe, w_room, w_tables⟩
theorem atStart : AtStart classFile x code maxLocals ret World_1 tables_1 room_1 Calls_1 rest_1 Pre_1 launch0 p0 e0 about1 theMethod args0 below0 :=
  ⟨lists_1, trivial, launch0.admits_env _ _ _, launch0.least_env, fairChoices_fair.cas, fairChoices_fair.clock, w_frames, w_args, w_heap, w_applies, trivial, trivial, w_case⟩
end start1
theorem witness_1 : WitnessClaimed_1 := ⟨start1.p0, start1.e0, start1.about1, start1.theMethod, start1.args0, start1.below0, start1.atStart⟩
end Jvm.Pilot.@@N@@
