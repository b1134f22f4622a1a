import JvmDerived
import JvmDerived.Pilot.@@N@@Statement
import JvmDerived.Pilot.@@N@@Code
set_option linter.unusedVariables false
set_option linter.unusedSimpArgs false
namespace Jvm.RoadKit
open Sem ClassFile Op Lib Jvm.Stand Jvm.Free Jvm.LawKit
section New
variable {p : Program} {l : Launch} {e : Env} {R : Room} {s : State} {m : MethodId} {args : Array Value} {below : List Frame} {meth : Method} {c : Code} {T : State} {locs : List Loc} {cells slots : Nat}
theorem retI (X : Stand p l e R s m args below meth c T locs cells slots) (hx : p.tables.exec = Jvm.exec) {pc : Nat} {Ls : Array Slot} {z : Int32} {rest : List Value} (hret : meth.sig.returnType = some .int) (hd : decode c.code pc = .ok (.ireturn, 1)) {fs : List Frame}
    (hl : ∀ (f : JFrame) (acts : List Action), f.method = m → f.locked = none → f.entered = [] → (doReturn e (T.setTop f) acts (some (.int z))).1 = T.setFrames fs) : Steps p.tables e below (T.setTop (mkF m pc Ls (.int z :: rest))) (T.setFrames fs) := by
  have hm' : T.vm.method? m = some meth := X.method'
  have hn : narrow .int (.int z) = .int z := rfl
  show Steps p.tables e below (T.setTop { method := m, pc := pc, locals := Ls, stack := _ :: rest, locked := none }) _
  jvm_step X.here [X.here.top, hx, hd, hm', hret, hn]
  first | (intro acts; rw [hl _ acts rfl rfl rfl]) | rw [hl _ _ rfl rfl rfl]
  exact Steps.refl _
end New
end Jvm.RoadKit
namespace Jvm.Pilot.@@N@@
open Jvm Jvm.ClassFile Sem Op Lib Jvm.Free Jvm.Stand Jvm.LawKit Jvm.RoadKit Bundle Jvm.Pilot.@@N@@.Jvm.D
theorem own_eq_int {args : Array Value} {s : State} {t : Term} {k : Int32} (h : (Cond.eq t (.int k)).value args s none s [] = some true) : t.eval args s none [] s = some (.int k) := by
  obtain ⟨x, y, ha, hb, hk, -⟩ := cmp_v (Or.inl h)
  have hb' : (Term.int k).eval args s none [] s = some (.int k) := rfl
  rw [hb'] at hb; cases hb
  cases x with
  | int z =>
    have := Cond.value.eq_def
    simp [Cond.value, ha, hb'] at h
    rw [ha, h]
  | _ => simp [Kin, Value.isRef] at hk

theorem pn_0 : plainName "com/example/tercet/tercet/Situation" = true := by first | (simp [plainName, overriddenIn]; done) | decide +kernel
theorem d2_0 : decode prog_45_method_6_code 0 = .ok (.iload_n 0, 1) := by decide +kernel
theorem d2_1 : decode prog_45_method_6_code 1 = .ok (.ifCond .ne 9, 3) := by decide +kernel
theorem d2_4 : decode prog_45_method_6_code 4 = .ok (.aload_n 2, 1) := by decide +kernel
theorem d2_5 : decode prog_45_method_6_code 5 = .ok (.astore 5, 2) := by decide +kernel
theorem d2_7 : decode prog_45_method_6_code 7 = .ok (.goto 17, 3) := by decide +kernel
theorem d2_10 : decode prog_45_method_6_code 10 = .ok (.iload_n 1, 1) := by decide +kernel
theorem d2_11 : decode prog_45_method_6_code 11 = .ok (.ifCond .ne 9, 3) := by decide +kernel
theorem d2_14 : decode prog_45_method_6_code 14 = .ok (.aload_n 3, 1) := by decide +kernel
theorem d2_15 : decode prog_45_method_6_code 15 = .ok (.astore 5, 2) := by decide +kernel
theorem d2_17 : decode prog_45_method_6_code 17 = .ok (.goto 7, 3) := by decide +kernel
theorem d2_20 : decode prog_45_method_6_code 20 = .ok (.aload 4, 2) := by decide +kernel
theorem d2_22 : decode prog_45_method_6_code 22 = .ok (.astore 5, 2) := by decide +kernel
theorem d2_24 : decode prog_45_method_6_code 24 = .ok (.aload 5, 2) := by decide +kernel
theorem ef_2 (m : MethodId) (x0 : Int32) (x1 : Int32) (x2 : Addr) (x3 : Addr) (x4 : Addr) : entryFrame m #[(.int x0), (.int x1), (.ref x2), (.ref x3), (.ref x4)] 6 = mkF m 0 #[.val (.int x0), .val (.int x1), .val (.ref x2), .val (.ref x3), .val (.ref x4), .unset] [] := by first | (simp [entryFrame, mkF, argsToLocals, Value.category]; done) | rfl
def f2 (p0 : Int32) (p1 : Int32) (a2 : Addr) (a3 : Addr) (a4 : Addr) : Addr := (let j5 : Addr := (if p0 = (0 : Int32) then a2 else (if p1 = (0 : Int32) then a3 else a4)); j5)
def Q2 (Z : State) (p0 : Int32) (p1 : Int32) (a2 : Addr) (a3 : Addr) (a4 : Addr) (h0 : Heap) (n0 : Nat) (v : Option Value) (h : Heap) (L : List Loc) : Prop := v = some (.ref (f2 p0 p1 a2 a3 a4)) ∧ Fr n0 L ∧ h = h0
theorem d2_26 : decode prog_45_method_6_code 26 = .ok (.areturn, 1) := by decide +kernel
set_option maxRecDepth 65536 in
set_option maxHeartbeats 40000000 in
theorem rm2 (l : Launch) (Z : State) (aw : Array Value) (hw : ∀ d ∈ tables_1, d.before aw Z = true) (ws : List Jvm.Cond) (p0 : Int32) (p1 : Int32) (a2 : Addr) (a3 : Addr) (a4 : Addr) (h0 : Heap) (n0 : Nat) (Z0 : n0 ≤ h0.size) :
    MetFree l (⟨"com/example/tercet/tercet/Situation", "change", "(IILcom/example/tercet/tercet/Situation;Lcom/example/tercet/tercet/Situation;Lcom/example/tercet/tercet/Situation;)Lcom/example/tercet/tercet/Situation;"⟩ : MethodName) (head1 (Jvm.Cond.code (⟨"com/example/tercet/tercet/Situation", "change", "(IILcom/example/tercet/tercet/Situation;Lcom/example/tercet/tercet/Situation;Lcom/example/tercet/tercet/Situation;)Lcom/example/tercet/tercet/Situation;"⟩ : MethodName) prog_45_method_6_code 6 (some (.object "com/example/tercet/tercet/Situation")) :: ws) ({ frames := 0, cells := 0, slots := 0, locals := 0 } : Room)) (fun a U => a = #[(.int p0), (.int p1), (.ref a2), (.ref a3), (.ref a4)] ∧ Z.Warmed39 U.vm ∧ U.heap = h0) (fun _ _ _ _ _ => True) (fun _ U o U' => ∃ v L, o = .returned v ∧ Q2 Z p0 p1 a2 a3 a4 h0 n0 v U'.heap L ∧ FrameEnd U o U' L ({ frames := 0, cells := 0, slots := 0, locals := 0 } : Room).cells ({ frames := 0, cells := 0, slots := 0, locals := 0 } : Room).slots) := by
  refine MetFree.of_bodySF (plainFor_of_name pn_0) hisR ?_
  intro p e s m args below meth c s₁ Bd hml0 hP hK
  obtain ⟨rfl, hZ, hh⟩ := hP
  have hx := Bd.exec
  have hby := Bd.bytes
  have hml : c.maxLocals = 6 := hml0
  have hown : s.vm.findClass "com/example/tercet/tercet/Situation" = some m.cls := findClass_of_methodNamed Bd.named
  have hnm := (name_of_methodNamed Bd.named Bd.method).1
  have X0 : Stand p l e ({ frames := 0, cells := 0, slots := 0, locals := 0 } : Room) s m #[(.int p0), (.int p1), (.ref a2), (.ref a3), (.ref a4)] below meth c s₁ [] 0 0 := Stand.of_body Bd
  have e0 : s₁.heap = h0 := by rw [← hh, Bd.state]; rfl
  have N0 := Fr.nil n0
  have pre0 : ∀ t, Steps p.tables e below (s₁.setTop (mkF m 0 #[.val (.int p0), .val (.int p1), .val (.ref a2), .val (.ref a3), .val (.ref a4), .unset] [])) t → Steps p.tables e below (s₁.setTop (entryFrame m #[(.int p0), (.int p1), (.ref a2), (.ref a3), (.ref a4)] 6)) t := fun t k => castTop (ef_2 m p0 p1 a2 a3 a4) k
  have pre1 : ∀ t, Steps p.tables e below (s₁.setTop (mkF m 1 #[.val (.int p0), .val (.int p1), .val (.ref a2), .val (.ref a3), .val (.ref a4), .unset] [(.int p0)])) t → Steps p.tables e below (s₁.setTop (entryFrame m #[(.int p0), (.int p1), (.ref a2), (.ref a3), (.ref a4)] 6)) t := fun t k => pre0 t (by
    show Steps p.tables e below (s₁.setTop (mkF m 0 #[.val (.int p0), .val (.int p1), .val (.ref a2), .val (.ref a3), .val (.ref a4), .unset] [])) _
    refine XS.iloadN X0.here hx rfl (hb hby d2_0) rfl ?_
    exact k)
  obtain ⟨j5, hj5, pre6⟩ : ∃ (j5 : Addr), j5 = (if p0 = (0 : Int32) then a2 else (if p1 = (0 : Int32) then a3 else a4)) ∧ ∀ t, Steps p.tables e below (s₁.setTop (mkF m 24 #[.val (.int p0), .val (.int p1), .val (.ref a2), .val (.ref a3), .val (.ref a4), .val (.ref j5)] [])) t → Steps p.tables e below (s₁.setTop (entryFrame m #[(.int p0), (.int p1), (.ref a2), (.ref a3), (.ref a4)] 6)) t := by
    by_cases hc2 : p0 = (0 : Int32)
    · exact ⟨a2, (by rw [if_pos hc2]), fun t k => pre1 t (by
        show Steps p.tables e below (s₁.setTop (mkF m 1 #[.val (.int p0), .val (.int p1), .val (.ref a2), .val (.ref a3), .val (.ref a4), .unset] [(.int p0)])) _
        refine XS.ifNo X0.here hx rfl (hb hby d2_1) rfl ((if0 _ _).trans (teq hc2).2) ?_
        show Steps p.tables e below (s₁.setTop (mkF m 4 #[.val (.int p0), .val (.int p1), .val (.ref a2), .val (.ref a3), .val (.ref a4), .unset] [])) _
        refine XS.aloadN X0.here hx rfl (hb hby d2_4) rfl rfl ?_
        show Steps p.tables e below (s₁.setTop (mkF m 5 #[.val (.int p0), .val (.int p1), .val (.ref a2), .val (.ref a3), .val (.ref a4), .unset] [(.ref a2)])) _
        refine XS.astore X0.here hx rfl (hb hby d2_5) rfl rfl (l' := #[.val (.int p0), .val (.int p1), .val (.ref a2), .val (.ref a3), .val (.ref a4), .val (.ref a2)]) rfl ?_
        show Steps p.tables e below (s₁.setTop (mkF m 7 #[.val (.int p0), .val (.int p1), .val (.ref a2), .val (.ref a3), .val (.ref a4), .val (.ref a2)] [])) _
        refine XS.goto X0.here hx rfl (pc0 := 7) (pc' := 24) rfl (hb hby d2_7) (by decide) (by decide) ?_
        exact k)⟩
    · have pre3 : ∀ t, Steps p.tables e below (s₁.setTop (mkF m 11 #[.val (.int p0), .val (.int p1), .val (.ref a2), .val (.ref a3), .val (.ref a4), .unset] [(.int p1)])) t → Steps p.tables e below (s₁.setTop (entryFrame m #[(.int p0), (.int p1), (.ref a2), (.ref a3), (.ref a4)] 6)) t := fun t k => pre1 t (by
        show Steps p.tables e below (s₁.setTop (mkF m 1 #[.val (.int p0), .val (.int p1), .val (.ref a2), .val (.ref a3), .val (.ref a4), .unset] [(.int p0)])) _
        refine XS.ifYes X0.here hx rfl (pc0 := 1) (pc' := 10) rfl (hb hby d2_1) rfl ((if0 _ _).trans (feq hc2).2) (by decide) (by decide) ?_
        show Steps p.tables e below (s₁.setTop (mkF m 10 #[.val (.int p0), .val (.int p1), .val (.ref a2), .val (.ref a3), .val (.ref a4), .unset] [])) _
        refine XS.iloadN X0.here hx rfl (hb hby d2_10) rfl ?_
        exact k)
      by_cases hc4 : p1 = (0 : Int32)
      · exact ⟨a3, (by rw [if_neg hc2, if_pos hc4]), fun t k => pre3 t (by
          show Steps p.tables e below (s₁.setTop (mkF m 11 #[.val (.int p0), .val (.int p1), .val (.ref a2), .val (.ref a3), .val (.ref a4), .unset] [(.int p1)])) _
          refine XS.ifNo X0.here hx rfl (hb hby d2_11) rfl ((if0 _ _).trans (teq hc4).2) ?_
          show Steps p.tables e below (s₁.setTop (mkF m 14 #[.val (.int p0), .val (.int p1), .val (.ref a2), .val (.ref a3), .val (.ref a4), .unset] [])) _
          refine XS.aloadN X0.here hx rfl (hb hby d2_14) rfl rfl ?_
          show Steps p.tables e below (s₁.setTop (mkF m 15 #[.val (.int p0), .val (.int p1), .val (.ref a2), .val (.ref a3), .val (.ref a4), .unset] [(.ref a3)])) _
          refine XS.astore X0.here hx rfl (hb hby d2_15) rfl rfl (l' := #[.val (.int p0), .val (.int p1), .val (.ref a2), .val (.ref a3), .val (.ref a4), .val (.ref a3)]) rfl ?_
          show Steps p.tables e below (s₁.setTop (mkF m 17 #[.val (.int p0), .val (.int p1), .val (.ref a2), .val (.ref a3), .val (.ref a4), .val (.ref a3)] [])) _
          refine XS.goto X0.here hx rfl (pc0 := 17) (pc' := 24) rfl (hb hby d2_17) (by decide) (by decide) ?_
          exact k)⟩
      · exact ⟨a4, (by rw [if_neg hc2, if_neg hc4]), fun t k => pre3 t (by
          show Steps p.tables e below (s₁.setTop (mkF m 11 #[.val (.int p0), .val (.int p1), .val (.ref a2), .val (.ref a3), .val (.ref a4), .unset] [(.int p1)])) _
          refine XS.ifYes X0.here hx rfl (pc0 := 11) (pc' := 20) rfl (hb hby d2_11) rfl ((if0 _ _).trans (feq hc4).2) (by decide) (by decide) ?_
          show Steps p.tables e below (s₁.setTop (mkF m 20 #[.val (.int p0), .val (.int p1), .val (.ref a2), .val (.ref a3), .val (.ref a4), .unset] [])) _
          refine XS.aload X0.here hx rfl (hb hby d2_20) rfl rfl ?_
          show Steps p.tables e below (s₁.setTop (mkF m 22 #[.val (.int p0), .val (.int p1), .val (.ref a2), .val (.ref a3), .val (.ref a4), .unset] [(.ref a4)])) _
          refine XS.astore X0.here hx rfl (hb hby d2_22) rfl rfl (l' := #[.val (.int p0), .val (.int p1), .val (.ref a2), .val (.ref a3), .val (.ref a4), .val (.ref a4)]) rfl ?_
          exact k)⟩
  obtain ⟨fs, hr, hrun, hended, hW, hsame⟩ := X0.leave (v := some (.ref j5)) (fun h => by rw [Bd.returns] at h; cases h)
  refine ⟨_, _, pre6 _ ?_, hrun, hended, _, _, rfl, ?_, ⟨_, rfl⟩, hW, hsame.mono (by decide) (by decide)⟩
  · show Steps p.tables e below (s₁.setTop (mkF m 24 #[.val (.int p0), .val (.int p1), .val (.ref a2), .val (.ref a3), .val (.ref a4), .val (.ref j5)] [])) _
    refine XS.aload X0.here hx rfl (hb hby d2_24) rfl rfl ?_
    show Steps p.tables e below (s₁.setTop (mkF m 26 #[.val (.int p0), .val (.int p1), .val (.ref a2), .val (.ref a3), .val (.ref a4), .val (.ref j5)] [(.ref j5)])) _
    jvm_step X0.here [X0.here.top, hx, (hb hby d2_26), X0.method', Bd.returns, Value.isRef, FieldType.isReference]
    first | (intro acts; rw [hr _ acts rfl rfl rfl]) | rw [hr _ _ rfl rfl rfl]
    exact Steps.refl _
  · show Q2 Z p0 p1 a2 a3 a4 h0 n0 _ s₁.heap _
    rw [e0]
    exact ⟨congrArg (fun z => some (Value.ref z)) (by subst hj5; rfl), N0, rfl⟩
theorem d1_0 : decode prog_45_method_4_code 0 = .ok (.iload_n 3, 1) := by decide +kernel
theorem d1_1 : decode prog_45_method_4_code 1 = .ok (.ifCond .ne 16, 3) := by decide +kernel
theorem d1_4 : decode prog_45_method_4_code 4 = .ok (.iload 4, 2) := by decide +kernel
theorem d1_6 : decode prog_45_method_4_code 6 = .ok (.ifCond .ne 11, 3) := by decide +kernel
theorem d1_9 : decode prog_45_method_4_code 9 = .ok (.getstatic 3, 3) := by decide +kernel
theorem d1_12 : decode prog_45_method_4_code 12 = .ok (.astore 6, 2) := by decide +kernel
theorem d1_14 : decode prog_45_method_4_code 14 = .ok (.goto 115, 3) := by decide +kernel
theorem d1_17 : decode prog_45_method_4_code 17 = .ok (.iload 4, 2) := by decide +kernel
theorem d1_19 : decode prog_45_method_4_code 19 = .ok (.ifCond .ne 22, 3) := by decide +kernel
theorem d1_41 : decode prog_45_method_4_code 41 = .ok (.iload_n 3, 1) := by decide +kernel
theorem d1_42 : decode prog_45_method_4_code 42 = .ok (.ifCond .ne 22, 3) := by decide +kernel
theorem d1_45 : decode prog_45_method_4_code 45 = .ok (.iload_n 0, 1) := by decide +kernel
theorem d1_46 : decode prog_45_method_4_code 46 = .ok (.iload_n 2, 1) := by decide +kernel
theorem d1_47 : decode prog_45_method_4_code 47 = .ok (.getstatic 16, 3) := by decide +kernel
theorem d1_50 : decode prog_45_method_4_code 50 = .ok (.getstatic 22, 3) := by decide +kernel
theorem d1_53 : decode prog_45_method_4_code 53 = .ok (.getstatic 19, 3) := by decide +kernel
theorem pd_1 : parseMethodDescriptor "(IILcom/example/tercet/tercet/Situation;Lcom/example/tercet/tercet/Situation;Lcom/example/tercet/tercet/Situation;)Lcom/example/tercet/tercet/Situation;" = some ⟨[.int, .int, (.object "com/example/tercet/tercet/Situation"), (.object "com/example/tercet/tercet/Situation"), (.object "com/example/tercet/tercet/Situation")], some (.object "com/example/tercet/tercet/Situation")⟩ := by decide +kernel
theorem d1_56 : decode prog_45_method_4_code 56 = .ok (.invokestatic 65, 3) := by decide +kernel
theorem d1_59 : decode prog_45_method_4_code 59 = .ok (.astore 6, 2) := by decide +kernel
theorem d1_61 : decode prog_45_method_4_code 61 = .ok (.goto 68, 3) := by decide +kernel
theorem d1_22 : decode prog_45_method_4_code 22 = .ok (.iload_n 0, 1) := by decide +kernel
theorem d1_23 : decode prog_45_method_4_code 23 = .ok (.iload_n 1, 1) := by decide +kernel
theorem d1_24 : decode prog_45_method_4_code 24 = .ok (.getstatic 7, 3) := by decide +kernel
theorem d1_27 : decode prog_45_method_4_code 27 = .ok (.getstatic 13, 3) := by decide +kernel
theorem d1_30 : decode prog_45_method_4_code 30 = .ok (.getstatic 10, 3) := by decide +kernel
theorem d1_33 : decode prog_45_method_4_code 33 = .ok (.invokestatic 65, 3) := by decide +kernel
theorem d1_36 : decode prog_45_method_4_code 36 = .ok (.astore 6, 2) := by decide +kernel
theorem d1_38 : decode prog_45_method_4_code 38 = .ok (.goto 91, 3) := by decide +kernel
theorem d1_64 : decode prog_45_method_4_code 64 = .ok (.iload 5, 2) := by decide +kernel
theorem d1_66 : decode prog_45_method_4_code 66 = .ok (.ifCond .eq 22, 3) := by decide +kernel
theorem d1_88 : decode prog_45_method_4_code 88 = .ok (.iload_n 0, 1) := by decide +kernel
theorem d1_89 : decode prog_45_method_4_code 89 = .ok (.ifCond .ne 11, 3) := by decide +kernel
theorem d1_92 : decode prog_45_method_4_code 92 = .ok (.getstatic 25, 3) := by decide +kernel
theorem d1_95 : decode prog_45_method_4_code 95 = .ok (.astore 6, 2) := by decide +kernel
theorem d1_97 : decode prog_45_method_4_code 97 = .ok (.goto 32, 3) := by decide +kernel
theorem d1_100 : decode prog_45_method_4_code 100 = .ok (.iload_n 1, 1) := by decide +kernel
theorem d1_101 : decode prog_45_method_4_code 101 = .ok (.ifCond .ne 11, 3) := by decide +kernel
theorem d1_104 : decode prog_45_method_4_code 104 = .ok (.getstatic 34, 3) := by decide +kernel
theorem d1_107 : decode prog_45_method_4_code 107 = .ok (.astore 6, 2) := by decide +kernel
theorem d1_109 : decode prog_45_method_4_code 109 = .ok (.goto 20, 3) := by decide +kernel
theorem d1_112 : decode prog_45_method_4_code 112 = .ok (.iload_n 2, 1) := by decide +kernel
theorem d1_113 : decode prog_45_method_4_code 113 = .ok (.ifCond .ne 11, 3) := by decide +kernel
theorem d1_116 : decode prog_45_method_4_code 116 = .ok (.getstatic 31, 3) := by decide +kernel
theorem d1_119 : decode prog_45_method_4_code 119 = .ok (.astore 6, 2) := by decide +kernel
theorem d1_121 : decode prog_45_method_4_code 121 = .ok (.goto 8, 3) := by decide +kernel
theorem d1_124 : decode prog_45_method_4_code 124 = .ok (.getstatic 28, 3) := by decide +kernel
theorem d1_127 : decode prog_45_method_4_code 127 = .ok (.astore 6, 2) := by decide +kernel
theorem d1_69 : decode prog_45_method_4_code 69 = .ok (.iload_n 0, 1) := by decide +kernel
theorem d1_70 : decode prog_45_method_4_code 70 = .ok (.iload_n 1, 1) := by decide +kernel
theorem d1_71 : decode prog_45_method_4_code 71 = .ok (.getstatic 37, 3) := by decide +kernel
theorem d1_74 : decode prog_45_method_4_code 74 = .ok (.getstatic 43, 3) := by decide +kernel
theorem d1_77 : decode prog_45_method_4_code 77 = .ok (.getstatic 40, 3) := by decide +kernel
theorem d1_80 : decode prog_45_method_4_code 80 = .ok (.invokestatic 65, 3) := by decide +kernel
theorem d1_83 : decode prog_45_method_4_code 83 = .ok (.astore 6, 2) := by decide +kernel
theorem d1_85 : decode prog_45_method_4_code 85 = .ok (.goto 44, 3) := by decide +kernel
theorem d1_129 : decode prog_45_method_4_code 129 = .ok (.aload 6, 2) := by decide +kernel
theorem ef_1 (m : MethodId) (x0 : Int32) (x1 : Int32) (x2 : Int32) (x3 : Int32) (x4 : Int32) (x5 : Int32) : entryFrame m #[(.int x0), (.int x1), (.int x2), (.int x3), (.int x4), (.int x5)] 7 = mkF m 0 #[.val (.int x0), .val (.int x1), .val (.int x2), .val (.int x3), .val (.int x4), .val (.int x5), .unset] [] := by first | (simp [entryFrame, mkF, argsToLocals, Value.category]; done) | rfl
def f1 (p0 : Int32) (p1 : Int32) (p2 : Int32) (p3 : Int32) (p4 : Int32) (p5 : Int32) (w_UNCHANGED : Addr) (w_INSERT_BY_THEIRS : Addr) (w_DELETE_BY_THEIRS : Addr) (w_CHANGE_BY_THEIRS : Addr) (w_INSERT_BY_OURS : Addr) (w_DELETE_BY_OURS : Addr) (w_CHANGE_BY_OURS : Addr) (w_BOTH_INSERTED : Addr) (w_DELETED_BY_OURS_CHANGED_BY_THEIRS : Addr) (w_CHANGED_BY_OURS_DELETED_BY_THEIRS : Addr) (w_BOTH_CHANGED : Addr) (w_SAME_INSERTION : Addr) (w_SAME_DELETION : Addr) (w_SAME_CHANGE : Addr) : Addr := (let j49 : Addr := (if p3 = (0 : Int32) then (if p4 = (0 : Int32) then w_UNCHANGED else (f2 p0 p2 w_INSERT_BY_THEIRS w_DELETE_BY_THEIRS w_CHANGE_BY_THEIRS)) else (if p4 = (0 : Int32) then (f2 p0 p1 w_INSERT_BY_OURS w_DELETE_BY_OURS w_CHANGE_BY_OURS) else (if p5 = (0 : Int32) then (if p0 = (0 : Int32) then w_BOTH_INSERTED else (if p1 = (0 : Int32) then w_DELETED_BY_OURS_CHANGED_BY_THEIRS else (if p2 = (0 : Int32) then w_CHANGED_BY_OURS_DELETED_BY_THEIRS else w_BOTH_CHANGED))) else (f2 p0 p1 w_SAME_INSERTION w_SAME_DELETION w_SAME_CHANGE)))); j49)
def Q1 (Z : State) (p0 : Int32) (p1 : Int32) (p2 : Int32) (p3 : Int32) (p4 : Int32) (p5 : Int32) (w_UNCHANGED : Addr) (w_INSERT_BY_THEIRS : Addr) (w_DELETE_BY_THEIRS : Addr) (w_CHANGE_BY_THEIRS : Addr) (w_INSERT_BY_OURS : Addr) (w_DELETE_BY_OURS : Addr) (w_CHANGE_BY_OURS : Addr) (w_BOTH_INSERTED : Addr) (w_DELETED_BY_OURS_CHANGED_BY_THEIRS : Addr) (w_CHANGED_BY_OURS_DELETED_BY_THEIRS : Addr) (w_BOTH_CHANGED : Addr) (w_SAME_INSERTION : Addr) (w_SAME_DELETION : Addr) (w_SAME_CHANGE : Addr) (h0 : Heap) (n0 : Nat) (v : Option Value) (h : Heap) (L : List Loc) : Prop := v = some (.ref (f1 p0 p1 p2 p3 p4 p5 w_UNCHANGED w_INSERT_BY_THEIRS w_DELETE_BY_THEIRS w_CHANGE_BY_THEIRS w_INSERT_BY_OURS w_DELETE_BY_OURS w_CHANGE_BY_OURS w_BOTH_INSERTED w_DELETED_BY_OURS_CHANGED_BY_THEIRS w_CHANGED_BY_OURS_DELETED_BY_THEIRS w_BOTH_CHANGED w_SAME_INSERTION w_SAME_DELETION w_SAME_CHANGE)) ∧ Fr n0 L ∧ h = h0
theorem d1_131 : decode prog_45_method_4_code 131 = .ok (.areturn, 1) := by decide +kernel
set_option maxRecDepth 65536 in
set_option maxHeartbeats 40000000 in
theorem rm1 (l : Launch) (Z : State) (aw : Array Value) (hw : ∀ d ∈ tables_1, d.before aw Z = true) (ws : List Jvm.Cond) (p0 : Int32) (p1 : Int32) (p2 : Int32) (p3 : Int32) (p4 : Int32) (p5 : Int32) (w_UNCHANGED : Addr) (w_INSERT_BY_THEIRS : Addr) (w_DELETE_BY_THEIRS : Addr) (w_CHANGE_BY_THEIRS : Addr) (w_INSERT_BY_OURS : Addr) (w_DELETE_BY_OURS : Addr) (w_CHANGE_BY_OURS : Addr) (w_BOTH_INSERTED : Addr) (w_DELETED_BY_OURS_CHANGED_BY_THEIRS : Addr) (w_CHANGED_BY_OURS_DELETED_BY_THEIRS : Addr) (w_BOTH_CHANGED : Addr) (w_SAME_INSERTION : Addr) (w_SAME_DELETION : Addr) (w_SAME_CHANGE : Addr) (h0 : Heap) (n0 : Nat) (Z0 : n0 ≤ h0.size) (S_UNCHANGED : Sta Z h0 "com/example/tercet/tercet/Situation" "UNCHANGED" "Lcom/example/tercet/tercet/Situation;" (.ref w_UNCHANGED)) (S_INSERT_BY_THEIRS : Sta Z h0 "com/example/tercet/tercet/Situation" "INSERT_BY_THEIRS" "Lcom/example/tercet/tercet/Situation;" (.ref w_INSERT_BY_THEIRS)) (S_DELETE_BY_THEIRS : Sta Z h0 "com/example/tercet/tercet/Situation" "DELETE_BY_THEIRS" "Lcom/example/tercet/tercet/Situation;" (.ref w_DELETE_BY_THEIRS)) (S_CHANGE_BY_THEIRS : Sta Z h0 "com/example/tercet/tercet/Situation" "CHANGE_BY_THEIRS" "Lcom/example/tercet/tercet/Situation;" (.ref w_CHANGE_BY_THEIRS)) (S_INSERT_BY_OURS : Sta Z h0 "com/example/tercet/tercet/Situation" "INSERT_BY_OURS" "Lcom/example/tercet/tercet/Situation;" (.ref w_INSERT_BY_OURS)) (S_DELETE_BY_OURS : Sta Z h0 "com/example/tercet/tercet/Situation" "DELETE_BY_OURS" "Lcom/example/tercet/tercet/Situation;" (.ref w_DELETE_BY_OURS)) (S_CHANGE_BY_OURS : Sta Z h0 "com/example/tercet/tercet/Situation" "CHANGE_BY_OURS" "Lcom/example/tercet/tercet/Situation;" (.ref w_CHANGE_BY_OURS)) (S_BOTH_INSERTED : Sta Z h0 "com/example/tercet/tercet/Situation" "BOTH_INSERTED" "Lcom/example/tercet/tercet/Situation;" (.ref w_BOTH_INSERTED)) (S_DELETED_BY_OURS_CHANGED_BY_THEIRS : Sta Z h0 "com/example/tercet/tercet/Situation" "DELETED_BY_OURS_CHANGED_BY_THEIRS" "Lcom/example/tercet/tercet/Situation;" (.ref w_DELETED_BY_OURS_CHANGED_BY_THEIRS)) (S_CHANGED_BY_OURS_DELETED_BY_THEIRS : Sta Z h0 "com/example/tercet/tercet/Situation" "CHANGED_BY_OURS_DELETED_BY_THEIRS" "Lcom/example/tercet/tercet/Situation;" (.ref w_CHANGED_BY_OURS_DELETED_BY_THEIRS)) (S_BOTH_CHANGED : Sta Z h0 "com/example/tercet/tercet/Situation" "BOTH_CHANGED" "Lcom/example/tercet/tercet/Situation;" (.ref w_BOTH_CHANGED)) (S_SAME_INSERTION : Sta Z h0 "com/example/tercet/tercet/Situation" "SAME_INSERTION" "Lcom/example/tercet/tercet/Situation;" (.ref w_SAME_INSERTION)) (S_SAME_DELETION : Sta Z h0 "com/example/tercet/tercet/Situation" "SAME_DELETION" "Lcom/example/tercet/tercet/Situation;" (.ref w_SAME_DELETION)) (S_SAME_CHANGE : Sta Z h0 "com/example/tercet/tercet/Situation" "SAME_CHANGE" "Lcom/example/tercet/tercet/Situation;" (.ref w_SAME_CHANGE)) :
    MetFree l (⟨"com/example/tercet/tercet/Situation", "of", "(IIIZZZ)Lcom/example/tercet/tercet/Situation;"⟩ : MethodName) (head1 (Jvm.Cond.code (⟨"com/example/tercet/tercet/Situation", "of", "(IIIZZZ)Lcom/example/tercet/tercet/Situation;"⟩ : MethodName) prog_45_method_4_code 7 (some (.object "com/example/tercet/tercet/Situation")) :: ws) ({ frames := 1, cells := 0, slots := 0, locals := 17 } : Room)) (fun a U => a = #[(.int p0), (.int p1), (.int p2), (.int p3), (.int p4), (.int p5)] ∧ Z.Warmed39 U.vm ∧ U.heap = h0) (fun _ _ _ _ _ => True) (fun _ U o U' => ∃ v L, o = .returned v ∧ Q1 Z p0 p1 p2 p3 p4 p5 w_UNCHANGED w_INSERT_BY_THEIRS w_DELETE_BY_THEIRS w_CHANGE_BY_THEIRS w_INSERT_BY_OURS w_DELETE_BY_OURS w_CHANGE_BY_OURS w_BOTH_INSERTED w_DELETED_BY_OURS_CHANGED_BY_THEIRS w_CHANGED_BY_OURS_DELETED_BY_THEIRS w_BOTH_CHANGED w_SAME_INSERTION w_SAME_DELETION w_SAME_CHANGE h0 n0 v U'.heap L ∧ FrameEnd U o U' L ({ frames := 1, cells := 0, slots := 0, locals := 17 } : Room).cells ({ frames := 1, cells := 0, slots := 0, locals := 17 } : Room).slots) := by
  refine MetFree.of_bodySF (plainFor_of_name pn_0) hisR ?_
  intro p e s m args below meth c s₁ Bd hml0 hP hK
  obtain ⟨rfl, hZ, hh⟩ := hP
  have hx := Bd.exec
  have hby := Bd.bytes
  have hml : c.maxLocals = 7 := hml0
  have hown : s.vm.findClass "com/example/tercet/tercet/Situation" = some m.cls := findClass_of_methodNamed Bd.named
  have hnm := (name_of_methodNamed Bd.named Bd.method).1
  have X0 : Stand p l e ({ frames := 1, cells := 0, slots := 0, locals := 17 } : Room) s m #[(.int p0), (.int p1), (.int p2), (.int p3), (.int p4), (.int p5)] below meth c s₁ [] 0 0 := Stand.of_body Bd
  have e0 : s₁.heap = h0 := by rw [← hh, Bd.state]; rfl
  have N0 := Fr.nil n0
  have pre0 : ∀ t, Steps p.tables e below (s₁.setTop (mkF m 0 #[.val (.int p0), .val (.int p1), .val (.int p2), .val (.int p3), .val (.int p4), .val (.int p5), .unset] [])) t → Steps p.tables e below (s₁.setTop (entryFrame m #[(.int p0), (.int p1), (.int p2), (.int p3), (.int p4), (.int p5)] 7)) t := fun t k => castTop (ef_1 m p0 p1 p2 p3 p4 p5) k
  have pre1 : ∀ t, Steps p.tables e below (s₁.setTop (mkF m 1 #[.val (.int p0), .val (.int p1), .val (.int p2), .val (.int p3), .val (.int p4), .val (.int p5), .unset] [(.int p3)])) t → Steps p.tables e below (s₁.setTop (entryFrame m #[(.int p0), (.int p1), (.int p2), (.int p3), (.int p4), (.int p5)] 7)) t := fun t k => pre0 t (by
    show Steps p.tables e below (s₁.setTop (mkF m 0 #[.val (.int p0), .val (.int p1), .val (.int p2), .val (.int p3), .val (.int p4), .val (.int p5), .unset] [])) _
    refine XS.iloadN X0.here hx rfl (hb hby d1_0) rfl ?_
    exact k)
  obtain ⟨T51, LjT51, j49, X51, N51, e51, hj49, pre50⟩ : ∃ (T51 : State) (LjT51 : List Loc) (j49 : Addr), Stand p l e ({ frames := 1, cells := 0, slots := 0, locals := 17 } : Room) s m #[(.int p0), (.int p1), (.int p2), (.int p3), (.int p4), (.int p5)] below meth c T51 LjT51 0 0 ∧ Fr n0 LjT51 ∧ T51.heap = h0 ∧ j49 = (if p3 = (0 : Int32) then (if p4 = (0 : Int32) then w_UNCHANGED else (f2 p0 p2 w_INSERT_BY_THEIRS w_DELETE_BY_THEIRS w_CHANGE_BY_THEIRS)) else (if p4 = (0 : Int32) then (f2 p0 p1 w_INSERT_BY_OURS w_DELETE_BY_OURS w_CHANGE_BY_OURS) else (if p5 = (0 : Int32) then (if p0 = (0 : Int32) then w_BOTH_INSERTED else (if p1 = (0 : Int32) then w_DELETED_BY_OURS_CHANGED_BY_THEIRS else (if p2 = (0 : Int32) then w_CHANGED_BY_OURS_DELETED_BY_THEIRS else w_BOTH_CHANGED))) else (f2 p0 p1 w_SAME_INSERTION w_SAME_DELETION w_SAME_CHANGE)))) ∧ ∀ t, Steps p.tables e below (T51.setTop (mkF m 129 #[.val (.int p0), .val (.int p1), .val (.int p2), .val (.int p3), .val (.int p4), .val (.int p5), .val (.ref j49)] [])) t → Steps p.tables e below (s₁.setTop (entryFrame m #[(.int p0), (.int p1), (.int p2), (.int p3), (.int p4), (.int p5)] 7)) t := by
    by_cases hc2 : p3 = (0 : Int32)
    · have pre3 : ∀ t, Steps p.tables e below (s₁.setTop (mkF m 6 #[.val (.int p0), .val (.int p1), .val (.int p2), .val (.int p3), .val (.int p4), .val (.int p5), .unset] [(.int p4)])) t → Steps p.tables e below (s₁.setTop (entryFrame m #[(.int p0), (.int p1), (.int p2), (.int p3), (.int p4), (.int p5)] 7)) t := fun t k => pre1 t (by
        show Steps p.tables e below (s₁.setTop (mkF m 1 #[.val (.int p0), .val (.int p1), .val (.int p2), .val (.int p3), .val (.int p4), .val (.int p5), .unset] [(.int p3)])) _
        refine XS.ifNo X0.here hx rfl (hb hby d1_1) rfl ((if0 _ _).trans (teq hc2).2) ?_
        show Steps p.tables e below (s₁.setTop (mkF m 4 #[.val (.int p0), .val (.int p1), .val (.int p2), .val (.int p3), .val (.int p4), .val (.int p5), .unset] [])) _
        refine XS.iload X0.here hx rfl (hb hby d1_4) rfl ?_
        exact k)
      by_cases hc4 : p4 = (0 : Int32)
      · have pre5 : ∀ t, Steps p.tables e below (s₁.setTop (mkF m 9 #[.val (.int p0), .val (.int p1), .val (.int p2), .val (.int p3), .val (.int p4), .val (.int p5), .unset] [])) t → Steps p.tables e below (s₁.setTop (entryFrame m #[(.int p0), (.int p1), (.int p2), (.int p3), (.int p4), (.int p5)] 7)) t := fun t k => pre3 t (by
          show Steps p.tables e below (s₁.setTop (mkF m 6 #[.val (.int p0), .val (.int p1), .val (.int p2), .val (.int p3), .val (.int p4), .val (.int p5), .unset] [(.int p4)])) _
          refine XS.ifNo X0.here hx rfl (hb hby d1_6) rfl ((if0 _ _).trans (teq hc4).2) ?_
          exact k)
        obtain ⟨T6, X6, e6, st6⟩ := getS2 X0 hx hZ hown (host := "") (Or.inl (hw _ (List.mem_of_getElem? (i := 30) rfl))) Via.refl e0 S_UNCHANGED (g := (mkF m 9 #[.val (.int p0), .val (.int p1), .val (.int p2), .val (.int p3), .val (.int p4), .val (.int p5), .unset] [])) rfl (hb hby d1_9)
        exact ⟨_, _, w_UNCHANGED, X6, N0, e6, (by rw [if_pos hc2, if_pos hc4]), fun t k => pre5 t (by
          show Steps p.tables e below (s₁.setTop (mkF m 9 #[.val (.int p0), .val (.int p1), .val (.int p2), .val (.int p3), .val (.int p4), .val (.int p5), .unset] [])) _
          refine st6 _ ?_
          show Steps p.tables e below (T6.setTop (mkF m 12 #[.val (.int p0), .val (.int p1), .val (.int p2), .val (.int p3), .val (.int p4), .val (.int p5), .unset] [(.ref w_UNCHANGED)])) _
          refine XS.astore X6.here hx rfl (hb hby d1_12) rfl rfl (l' := #[.val (.int p0), .val (.int p1), .val (.int p2), .val (.int p3), .val (.int p4), .val (.int p5), .val (.ref w_UNCHANGED)]) rfl ?_
          show Steps p.tables e below (T6.setTop (mkF m 14 #[.val (.int p0), .val (.int p1), .val (.int p2), .val (.int p3), .val (.int p4), .val (.int p5), .val (.ref w_UNCHANGED)] [])) _
          refine XS.goto X6.here hx rfl (pc0 := 14) (pc' := 129) rfl (hb hby d1_14) (by decide) (by decide) ?_
          exact k)⟩
      · have pre7 : ∀ t, Steps p.tables e below (s₁.setTop (mkF m 47 #[.val (.int p0), .val (.int p1), .val (.int p2), .val (.int p3), .val (.int p4), .val (.int p5), .unset] [(.int p2), (.int p0)])) t → Steps p.tables e below (s₁.setTop (entryFrame m #[(.int p0), (.int p1), (.int p2), (.int p3), (.int p4), (.int p5)] 7)) t := fun t k => pre3 t (by
          show Steps p.tables e below (s₁.setTop (mkF m 6 #[.val (.int p0), .val (.int p1), .val (.int p2), .val (.int p3), .val (.int p4), .val (.int p5), .unset] [(.int p4)])) _
          refine XS.ifYes X0.here hx rfl (pc0 := 6) (pc' := 17) rfl (hb hby d1_6) rfl ((if0 _ _).trans (feq hc4).2) (by decide) (by decide) ?_
          show Steps p.tables e below (s₁.setTop (mkF m 17 #[.val (.int p0), .val (.int p1), .val (.int p2), .val (.int p3), .val (.int p4), .val (.int p5), .unset] [])) _
          refine XS.iload X0.here hx rfl (hb hby d1_17) rfl ?_
          show Steps p.tables e below (s₁.setTop (mkF m 19 #[.val (.int p0), .val (.int p1), .val (.int p2), .val (.int p3), .val (.int p4), .val (.int p5), .unset] [(.int p4)])) _
          refine XS.ifYes X0.here hx rfl (pc0 := 19) (pc' := 41) rfl (hb hby d1_19) rfl ((if0 _ _).trans (feq (hc4 : ¬ (p4 = (0 : Int32)))).2) (by decide) (by decide) ?_
          show Steps p.tables e below (s₁.setTop (mkF m 41 #[.val (.int p0), .val (.int p1), .val (.int p2), .val (.int p3), .val (.int p4), .val (.int p5), .unset] [])) _
          refine XS.iloadN X0.here hx rfl (hb hby d1_41) rfl ?_
          show Steps p.tables e below (s₁.setTop (mkF m 42 #[.val (.int p0), .val (.int p1), .val (.int p2), .val (.int p3), .val (.int p4), .val (.int p5), .unset] [(.int p3)])) _
          refine XS.ifNo X0.here hx rfl (hb hby d1_42) rfl ((if0 _ _).trans (teq (hc2 : p3 = (0 : Int32))).2) ?_
          show Steps p.tables e below (s₁.setTop (mkF m 45 #[.val (.int p0), .val (.int p1), .val (.int p2), .val (.int p3), .val (.int p4), .val (.int p5), .unset] [])) _
          refine XS.iloadN X0.here hx rfl (hb hby d1_45) rfl ?_
          show Steps p.tables e below (s₁.setTop (mkF m 46 #[.val (.int p0), .val (.int p1), .val (.int p2), .val (.int p3), .val (.int p4), .val (.int p5), .unset] [(.int p0)])) _
          refine XS.iloadN X0.here hx rfl (hb hby d1_46) rfl ?_
          exact k)
        obtain ⟨T8, X8, e8, st8⟩ := getS2 X0 hx hZ hown (host := "") (Or.inl (hw _ (List.mem_of_getElem? (i := 24) rfl))) Via.refl e0 S_INSERT_BY_THEIRS (g := (mkF m 47 #[.val (.int p0), .val (.int p1), .val (.int p2), .val (.int p3), .val (.int p4), .val (.int p5), .unset] [(.int p2), (.int p0)])) rfl (hb hby d1_47)
        have pre9 : ∀ t, Steps p.tables e below (T8.setTop (mkF m 50 #[.val (.int p0), .val (.int p1), .val (.int p2), .val (.int p3), .val (.int p4), .val (.int p5), .unset] [(.ref w_INSERT_BY_THEIRS), (.int p2), (.int p0)])) t → Steps p.tables e below (s₁.setTop (entryFrame m #[(.int p0), (.int p1), (.int p2), (.int p3), (.int p4), (.int p5)] 7)) t := fun t k => pre7 t (by
          show Steps p.tables e below (s₁.setTop (mkF m 47 #[.val (.int p0), .val (.int p1), .val (.int p2), .val (.int p3), .val (.int p4), .val (.int p5), .unset] [(.int p2), (.int p0)])) _
          refine st8 _ ?_
          exact k)
        obtain ⟨T10, X10, e10, st10⟩ := getS2 X8 hx hZ hown (host := "") (Or.inl (hw _ (List.mem_of_getElem? (i := 26) rfl))) Via.refl e8 S_DELETE_BY_THEIRS (g := (mkF m 50 #[.val (.int p0), .val (.int p1), .val (.int p2), .val (.int p3), .val (.int p4), .val (.int p5), .unset] [(.ref w_INSERT_BY_THEIRS), (.int p2), (.int p0)])) rfl (hb hby d1_50)
        have pre11 : ∀ t, Steps p.tables e below (T10.setTop (mkF m 53 #[.val (.int p0), .val (.int p1), .val (.int p2), .val (.int p3), .val (.int p4), .val (.int p5), .unset] [(.ref w_DELETE_BY_THEIRS), (.ref w_INSERT_BY_THEIRS), (.int p2), (.int p0)])) t → Steps p.tables e below (s₁.setTop (entryFrame m #[(.int p0), (.int p1), (.int p2), (.int p3), (.int p4), (.int p5)] 7)) t := fun t k => pre9 t (by
          show Steps p.tables e below (T8.setTop (mkF m 50 #[.val (.int p0), .val (.int p1), .val (.int p2), .val (.int p3), .val (.int p4), .val (.int p5), .unset] [(.ref w_INSERT_BY_THEIRS), (.int p2), (.int p0)])) _
          refine st10 _ ?_
          exact k)
        obtain ⟨T12, X12, e12, st12⟩ := getS2 X10 hx hZ hown (host := "") (Or.inl (hw _ (List.mem_of_getElem? (i := 28) rfl))) Via.refl e10 S_CHANGE_BY_THEIRS (g := (mkF m 53 #[.val (.int p0), .val (.int p1), .val (.int p2), .val (.int p3), .val (.int p4), .val (.int p5), .unset] [(.ref w_DELETE_BY_THEIRS), (.ref w_INSERT_BY_THEIRS), (.int p2), (.int p0)])) rfl (hb hby d1_53)
        have pre13 : ∀ t, Steps p.tables e below (T12.setTop (mkF m 56 #[.val (.int p0), .val (.int p1), .val (.int p2), .val (.int p3), .val (.int p4), .val (.int p5), .unset] [(.ref w_CHANGE_BY_THEIRS), (.ref w_DELETE_BY_THEIRS), (.ref w_INSERT_BY_THEIRS), (.int p2), (.int p0)])) t → Steps p.tables e below (s₁.setTop (entryFrame m #[(.int p0), (.int p1), (.int p2), (.int p3), (.int p4), (.int p5)] 7)) t := fun t k => pre11 t (by
          show Steps p.tables e below (T10.setTop (mkF m 53 #[.val (.int p0), .val (.int p1), .val (.int p2), .val (.int p3), .val (.int p4), .val (.int p5), .unset] [(.ref w_DELETE_BY_THEIRS), (.ref w_INSERT_BY_THEIRS), (.int p2), (.int p0)])) _
          refine st12 _ ?_
          exact k)
        obtain ⟨_, _, ⟨T14, L14, k14, n14⟩, -, X14, ⟨Lc14, hQ14, l14, y14, z14⟩, st14⟩ := Jvm.LawKit.callS X12 hx (y := (⟨"com/example/tercet/tercet/Situation", "change", "(IILcom/example/tercet/tercet/Situation;Lcom/example/tercet/tercet/Situation;Lcom/example/tercet/tercet/Situation;)Lcom/example/tercet/tercet/Situation;"⟩ : MethodName)) hown (mvT hZ (hw _ (List.mem_of_getElem? (i := 10) rfl))) (mvT hZ (hw _ (List.mem_of_getElem? (i := 11) rfl))) (mvT hZ (hw _ (List.mem_of_getElem? (i := 2) rfl))) (mvT hZ (hw _ (List.mem_of_getElem? (i := 12) rfl))) (by decide) (backOf (W := 0) (rm2 l Z aw hw [] p0 p2 w_INSERT_BY_THEIRS w_DELETE_BY_THEIRS w_CHANGE_BY_THEIRS h0 n0 Z0) hZ (hw _ (List.mem_of_getElem? (i := 12) rfl)) (hw _ (List.mem_of_getElem? (i := 2) rfl)) (by decide) (by decide)) (g := (mkF m 56 #[.val (.int p0), .val (.int p1), .val (.int p2), .val (.int p3), .val (.int p4), .val (.int p5), .unset] [(.ref w_CHANGE_BY_THEIRS), (.ref w_DELETE_BY_THEIRS), (.ref w_INSERT_BY_THEIRS), (.int p2), (.int p0)])) rfl (by rw [hml]; rfl) (argsL := [(.int p0), (.int p2), (.ref w_INSERT_BY_THEIRS), (.ref w_DELETE_BY_THEIRS), (.ref w_CHANGE_BY_THEIRS)]) (rest := []) (lenOf pd_1 rfl) rfl (by show 2 * 0 + _ ≤ _; exact Nat.le_of_eq rfl) (hb hby d1_56) (fun _ _ => ⟨rfl, e12, (by decide : 0 + 0 ≤ _), (by decide : 0 + 0 ≤ _)⟩)
        dsimp only [Pt.U, Pt.locs, Pt.cells, Pt.slots] at X14 l14 y14 z14 st14 hQ14
        subst l14 y14 z14
        obtain ⟨rfl, N14q, e14⟩ := hQ14
        have N14 := Fr.app N0 N14q
        exact ⟨_, _, (f2 p0 p2 w_INSERT_BY_THEIRS w_DELETE_BY_THEIRS w_CHANGE_BY_THEIRS), X14, N14, e14, (by rw [if_pos hc2, if_neg hc4]), fun t k => pre13 t (by
          show Steps p.tables e below (T12.setTop (mkF m 56 #[.val (.int p0), .val (.int p1), .val (.int p2), .val (.int p3), .val (.int p4), .val (.int p5), .unset] [(.ref w_CHANGE_BY_THEIRS), (.ref w_DELETE_BY_THEIRS), (.ref w_INSERT_BY_THEIRS), (.int p2), (.int p0)])) _
          refine st14 _ ?_
          show Steps p.tables e below (T14.setTop (mkF m 59 #[.val (.int p0), .val (.int p1), .val (.int p2), .val (.int p3), .val (.int p4), .val (.int p5), .unset] [(.ref (f2 p0 p2 w_INSERT_BY_THEIRS w_DELETE_BY_THEIRS w_CHANGE_BY_THEIRS))])) _
          refine XS.astore X14.here hx rfl (hb hby d1_59) rfl rfl (l' := #[.val (.int p0), .val (.int p1), .val (.int p2), .val (.int p3), .val (.int p4), .val (.int p5), .val (.ref (f2 p0 p2 w_INSERT_BY_THEIRS w_DELETE_BY_THEIRS w_CHANGE_BY_THEIRS))]) rfl ?_
          show Steps p.tables e below (T14.setTop (mkF m 61 #[.val (.int p0), .val (.int p1), .val (.int p2), .val (.int p3), .val (.int p4), .val (.int p5), .val (.ref (f2 p0 p2 w_INSERT_BY_THEIRS w_DELETE_BY_THEIRS w_CHANGE_BY_THEIRS))] [])) _
          refine XS.goto X14.here hx rfl (pc0 := 61) (pc' := 129) rfl (hb hby d1_61) (by decide) (by decide) ?_
          exact k)⟩
    · have pre15 : ∀ t, Steps p.tables e below (s₁.setTop (mkF m 19 #[.val (.int p0), .val (.int p1), .val (.int p2), .val (.int p3), .val (.int p4), .val (.int p5), .unset] [(.int p4)])) t → Steps p.tables e below (s₁.setTop (entryFrame m #[(.int p0), (.int p1), (.int p2), (.int p3), (.int p4), (.int p5)] 7)) t := fun t k => pre1 t (by
        show Steps p.tables e below (s₁.setTop (mkF m 1 #[.val (.int p0), .val (.int p1), .val (.int p2), .val (.int p3), .val (.int p4), .val (.int p5), .unset] [(.int p3)])) _
        refine XS.ifYes X0.here hx rfl (pc0 := 1) (pc' := 17) rfl (hb hby d1_1) rfl ((if0 _ _).trans (feq hc2).2) (by decide) (by decide) ?_
        show Steps p.tables e below (s₁.setTop (mkF m 17 #[.val (.int p0), .val (.int p1), .val (.int p2), .val (.int p3), .val (.int p4), .val (.int p5), .unset] [])) _
        refine XS.iload X0.here hx rfl (hb hby d1_17) rfl ?_
        exact k)
      by_cases hc16 : p4 = (0 : Int32)
      · have pre17 : ∀ t, Steps p.tables e below (s₁.setTop (mkF m 24 #[.val (.int p0), .val (.int p1), .val (.int p2), .val (.int p3), .val (.int p4), .val (.int p5), .unset] [(.int p1), (.int p0)])) t → Steps p.tables e below (s₁.setTop (entryFrame m #[(.int p0), (.int p1), (.int p2), (.int p3), (.int p4), (.int p5)] 7)) t := fun t k => pre15 t (by
          show Steps p.tables e below (s₁.setTop (mkF m 19 #[.val (.int p0), .val (.int p1), .val (.int p2), .val (.int p3), .val (.int p4), .val (.int p5), .unset] [(.int p4)])) _
          refine XS.ifNo X0.here hx rfl (hb hby d1_19) rfl ((if0 _ _).trans (teq hc16).2) ?_
          show Steps p.tables e below (s₁.setTop (mkF m 22 #[.val (.int p0), .val (.int p1), .val (.int p2), .val (.int p3), .val (.int p4), .val (.int p5), .unset] [])) _
          refine XS.iloadN X0.here hx rfl (hb hby d1_22) rfl ?_
          show Steps p.tables e below (s₁.setTop (mkF m 23 #[.val (.int p0), .val (.int p1), .val (.int p2), .val (.int p3), .val (.int p4), .val (.int p5), .unset] [(.int p0)])) _
          refine XS.iloadN X0.here hx rfl (hb hby d1_23) rfl ?_
          exact k)
        obtain ⟨T18, X18, e18, st18⟩ := getS2 X0 hx hZ hown (host := "") (Or.inl (hw _ (List.mem_of_getElem? (i := 4) rfl))) Via.refl e0 S_INSERT_BY_OURS (g := (mkF m 24 #[.val (.int p0), .val (.int p1), .val (.int p2), .val (.int p3), .val (.int p4), .val (.int p5), .unset] [(.int p1), (.int p0)])) rfl (hb hby d1_24)
        have pre19 : ∀ t, Steps p.tables e below (T18.setTop (mkF m 27 #[.val (.int p0), .val (.int p1), .val (.int p2), .val (.int p3), .val (.int p4), .val (.int p5), .unset] [(.ref w_INSERT_BY_OURS), (.int p1), (.int p0)])) t → Steps p.tables e below (s₁.setTop (entryFrame m #[(.int p0), (.int p1), (.int p2), (.int p3), (.int p4), (.int p5)] 7)) t := fun t k => pre17 t (by
          show Steps p.tables e below (s₁.setTop (mkF m 24 #[.val (.int p0), .val (.int p1), .val (.int p2), .val (.int p3), .val (.int p4), .val (.int p5), .unset] [(.int p1), (.int p0)])) _
          refine st18 _ ?_
          exact k)
        obtain ⟨T20, X20, e20, st20⟩ := getS2 X18 hx hZ hown (host := "") (Or.inl (hw _ (List.mem_of_getElem? (i := 6) rfl))) Via.refl e18 S_DELETE_BY_OURS (g := (mkF m 27 #[.val (.int p0), .val (.int p1), .val (.int p2), .val (.int p3), .val (.int p4), .val (.int p5), .unset] [(.ref w_INSERT_BY_OURS), (.int p1), (.int p0)])) rfl (hb hby d1_27)
        have pre21 : ∀ t, Steps p.tables e below (T20.setTop (mkF m 30 #[.val (.int p0), .val (.int p1), .val (.int p2), .val (.int p3), .val (.int p4), .val (.int p5), .unset] [(.ref w_DELETE_BY_OURS), (.ref w_INSERT_BY_OURS), (.int p1), (.int p0)])) t → Steps p.tables e below (s₁.setTop (entryFrame m #[(.int p0), (.int p1), (.int p2), (.int p3), (.int p4), (.int p5)] 7)) t := fun t k => pre19 t (by
          show Steps p.tables e below (T18.setTop (mkF m 27 #[.val (.int p0), .val (.int p1), .val (.int p2), .val (.int p3), .val (.int p4), .val (.int p5), .unset] [(.ref w_INSERT_BY_OURS), (.int p1), (.int p0)])) _
          refine st20 _ ?_
          exact k)
        obtain ⟨T22, X22, e22, st22⟩ := getS2 X20 hx hZ hown (host := "") (Or.inl (hw _ (List.mem_of_getElem? (i := 8) rfl))) Via.refl e20 S_CHANGE_BY_OURS (g := (mkF m 30 #[.val (.int p0), .val (.int p1), .val (.int p2), .val (.int p3), .val (.int p4), .val (.int p5), .unset] [(.ref w_DELETE_BY_OURS), (.ref w_INSERT_BY_OURS), (.int p1), (.int p0)])) rfl (hb hby d1_30)
        have pre23 : ∀ t, Steps p.tables e below (T22.setTop (mkF m 33 #[.val (.int p0), .val (.int p1), .val (.int p2), .val (.int p3), .val (.int p4), .val (.int p5), .unset] [(.ref w_CHANGE_BY_OURS), (.ref w_DELETE_BY_OURS), (.ref w_INSERT_BY_OURS), (.int p1), (.int p0)])) t → Steps p.tables e below (s₁.setTop (entryFrame m #[(.int p0), (.int p1), (.int p2), (.int p3), (.int p4), (.int p5)] 7)) t := fun t k => pre21 t (by
          show Steps p.tables e below (T20.setTop (mkF m 30 #[.val (.int p0), .val (.int p1), .val (.int p2), .val (.int p3), .val (.int p4), .val (.int p5), .unset] [(.ref w_DELETE_BY_OURS), (.ref w_INSERT_BY_OURS), (.int p1), (.int p0)])) _
          refine st22 _ ?_
          exact k)
        obtain ⟨_, _, ⟨T24, L24, k24, n24⟩, -, X24, ⟨Lc24, hQ24, l24, y24, z24⟩, st24⟩ := Jvm.LawKit.callS X22 hx (y := (⟨"com/example/tercet/tercet/Situation", "change", "(IILcom/example/tercet/tercet/Situation;Lcom/example/tercet/tercet/Situation;Lcom/example/tercet/tercet/Situation;)Lcom/example/tercet/tercet/Situation;"⟩ : MethodName)) hown (mvT hZ (hw _ (List.mem_of_getElem? (i := 10) rfl))) (mvT hZ (hw _ (List.mem_of_getElem? (i := 11) rfl))) (mvT hZ (hw _ (List.mem_of_getElem? (i := 2) rfl))) (mvT hZ (hw _ (List.mem_of_getElem? (i := 12) rfl))) (by decide) (backOf (W := 0) (rm2 l Z aw hw [] p0 p1 w_INSERT_BY_OURS w_DELETE_BY_OURS w_CHANGE_BY_OURS h0 n0 Z0) hZ (hw _ (List.mem_of_getElem? (i := 12) rfl)) (hw _ (List.mem_of_getElem? (i := 2) rfl)) (by decide) (by decide)) (g := (mkF m 33 #[.val (.int p0), .val (.int p1), .val (.int p2), .val (.int p3), .val (.int p4), .val (.int p5), .unset] [(.ref w_CHANGE_BY_OURS), (.ref w_DELETE_BY_OURS), (.ref w_INSERT_BY_OURS), (.int p1), (.int p0)])) rfl (by rw [hml]; rfl) (argsL := [(.int p0), (.int p1), (.ref w_INSERT_BY_OURS), (.ref w_DELETE_BY_OURS), (.ref w_CHANGE_BY_OURS)]) (rest := []) (lenOf pd_1 rfl) rfl (by show 2 * 0 + _ ≤ _; exact Nat.le_of_eq rfl) (hb hby d1_33) (fun _ _ => ⟨rfl, e22, (by decide : 0 + 0 ≤ _), (by decide : 0 + 0 ≤ _)⟩)
        dsimp only [Pt.U, Pt.locs, Pt.cells, Pt.slots] at X24 l24 y24 z24 st24 hQ24
        subst l24 y24 z24
        obtain ⟨rfl, N24q, e24⟩ := hQ24
        have N24 := Fr.app N0 N24q
        exact ⟨_, _, (f2 p0 p1 w_INSERT_BY_OURS w_DELETE_BY_OURS w_CHANGE_BY_OURS), X24, N24, e24, (by rw [if_neg hc2, if_pos hc16]), fun t k => pre23 t (by
          show Steps p.tables e below (T22.setTop (mkF m 33 #[.val (.int p0), .val (.int p1), .val (.int p2), .val (.int p3), .val (.int p4), .val (.int p5), .unset] [(.ref w_CHANGE_BY_OURS), (.ref w_DELETE_BY_OURS), (.ref w_INSERT_BY_OURS), (.int p1), (.int p0)])) _
          refine st24 _ ?_
          show Steps p.tables e below (T24.setTop (mkF m 36 #[.val (.int p0), .val (.int p1), .val (.int p2), .val (.int p3), .val (.int p4), .val (.int p5), .unset] [(.ref (f2 p0 p1 w_INSERT_BY_OURS w_DELETE_BY_OURS w_CHANGE_BY_OURS))])) _
          refine XS.astore X24.here hx rfl (hb hby d1_36) rfl rfl (l' := #[.val (.int p0), .val (.int p1), .val (.int p2), .val (.int p3), .val (.int p4), .val (.int p5), .val (.ref (f2 p0 p1 w_INSERT_BY_OURS w_DELETE_BY_OURS w_CHANGE_BY_OURS))]) rfl ?_
          show Steps p.tables e below (T24.setTop (mkF m 38 #[.val (.int p0), .val (.int p1), .val (.int p2), .val (.int p3), .val (.int p4), .val (.int p5), .val (.ref (f2 p0 p1 w_INSERT_BY_OURS w_DELETE_BY_OURS w_CHANGE_BY_OURS))] [])) _
          refine XS.goto X24.here hx rfl (pc0 := 38) (pc' := 129) rfl (hb hby d1_38) (by decide) (by decide) ?_
          exact k)⟩
      · have pre25 : ∀ t, Steps p.tables e below (s₁.setTop (mkF m 66 #[.val (.int p0), .val (.int p1), .val (.int p2), .val (.int p3), .val (.int p4), .val (.int p5), .unset] [(.int p5)])) t → Steps p.tables e below (s₁.setTop (entryFrame m #[(.int p0), (.int p1), (.int p2), (.int p3), (.int p4), (.int p5)] 7)) t := fun t k => pre15 t (by
          show Steps p.tables e below (s₁.setTop (mkF m 19 #[.val (.int p0), .val (.int p1), .val (.int p2), .val (.int p3), .val (.int p4), .val (.int p5), .unset] [(.int p4)])) _
          refine XS.ifYes X0.here hx rfl (pc0 := 19) (pc' := 41) rfl (hb hby d1_19) rfl ((if0 _ _).trans (feq hc16).2) (by decide) (by decide) ?_
          show Steps p.tables e below (s₁.setTop (mkF m 41 #[.val (.int p0), .val (.int p1), .val (.int p2), .val (.int p3), .val (.int p4), .val (.int p5), .unset] [])) _
          refine XS.iloadN X0.here hx rfl (hb hby d1_41) rfl ?_
          show Steps p.tables e below (s₁.setTop (mkF m 42 #[.val (.int p0), .val (.int p1), .val (.int p2), .val (.int p3), .val (.int p4), .val (.int p5), .unset] [(.int p3)])) _
          refine XS.ifYes X0.here hx rfl (pc0 := 42) (pc' := 64) rfl (hb hby d1_42) rfl ((if0 _ _).trans (feq (hc2 : ¬ (p3 = (0 : Int32)))).2) (by decide) (by decide) ?_
          show Steps p.tables e below (s₁.setTop (mkF m 64 #[.val (.int p0), .val (.int p1), .val (.int p2), .val (.int p3), .val (.int p4), .val (.int p5), .unset] [])) _
          refine XS.iload X0.here hx rfl (hb hby d1_64) rfl ?_
          exact k)
        by_cases hc26 : p5 = (0 : Int32)
        · have pre27 : ∀ t, Steps p.tables e below (s₁.setTop (mkF m 89 #[.val (.int p0), .val (.int p1), .val (.int p2), .val (.int p3), .val (.int p4), .val (.int p5), .unset] [(.int p0)])) t → Steps p.tables e below (s₁.setTop (entryFrame m #[(.int p0), (.int p1), (.int p2), (.int p3), (.int p4), (.int p5)] 7)) t := fun t k => pre25 t (by
            show Steps p.tables e below (s₁.setTop (mkF m 66 #[.val (.int p0), .val (.int p1), .val (.int p2), .val (.int p3), .val (.int p4), .val (.int p5), .unset] [(.int p5)])) _
            refine XS.ifYes X0.here hx rfl (pc0 := 66) (pc' := 88) rfl (hb hby d1_66) rfl ((if0 _ _).trans (teq hc26).1) (by decide) (by decide) ?_
            show Steps p.tables e below (s₁.setTop (mkF m 88 #[.val (.int p0), .val (.int p1), .val (.int p2), .val (.int p3), .val (.int p4), .val (.int p5), .unset] [])) _
            refine XS.iloadN X0.here hx rfl (hb hby d1_88) rfl ?_
            exact k)
          by_cases hc28 : p0 = (0 : Int32)
          · have pre29 : ∀ t, Steps p.tables e below (s₁.setTop (mkF m 92 #[.val (.int p0), .val (.int p1), .val (.int p2), .val (.int p3), .val (.int p4), .val (.int p5), .unset] [])) t → Steps p.tables e below (s₁.setTop (entryFrame m #[(.int p0), (.int p1), (.int p2), (.int p3), (.int p4), (.int p5)] 7)) t := fun t k => pre27 t (by
              show Steps p.tables e below (s₁.setTop (mkF m 89 #[.val (.int p0), .val (.int p1), .val (.int p2), .val (.int p3), .val (.int p4), .val (.int p5), .unset] [(.int p0)])) _
              refine XS.ifNo X0.here hx rfl (hb hby d1_89) rfl ((if0 _ _).trans (teq hc28).2) ?_
              exact k)
            obtain ⟨T30, X30, e30, st30⟩ := getS2 X0 hx hZ hown (host := "") (Or.inl (hw _ (List.mem_of_getElem? (i := 32) rfl))) Via.refl e0 S_BOTH_INSERTED (g := (mkF m 92 #[.val (.int p0), .val (.int p1), .val (.int p2), .val (.int p3), .val (.int p4), .val (.int p5), .unset] [])) rfl (hb hby d1_92)
            exact ⟨_, _, w_BOTH_INSERTED, X30, N0, e30, (by rw [if_neg hc2, if_neg hc16, if_pos hc26, if_pos hc28]), fun t k => pre29 t (by
              show Steps p.tables e below (s₁.setTop (mkF m 92 #[.val (.int p0), .val (.int p1), .val (.int p2), .val (.int p3), .val (.int p4), .val (.int p5), .unset] [])) _
              refine st30 _ ?_
              show Steps p.tables e below (T30.setTop (mkF m 95 #[.val (.int p0), .val (.int p1), .val (.int p2), .val (.int p3), .val (.int p4), .val (.int p5), .unset] [(.ref w_BOTH_INSERTED)])) _
              refine XS.astore X30.here hx rfl (hb hby d1_95) rfl rfl (l' := #[.val (.int p0), .val (.int p1), .val (.int p2), .val (.int p3), .val (.int p4), .val (.int p5), .val (.ref w_BOTH_INSERTED)]) rfl ?_
              show Steps p.tables e below (T30.setTop (mkF m 97 #[.val (.int p0), .val (.int p1), .val (.int p2), .val (.int p3), .val (.int p4), .val (.int p5), .val (.ref w_BOTH_INSERTED)] [])) _
              refine XS.goto X30.here hx rfl (pc0 := 97) (pc' := 129) rfl (hb hby d1_97) (by decide) (by decide) ?_
              exact k)⟩
          · have pre31 : ∀ t, Steps p.tables e below (s₁.setTop (mkF m 101 #[.val (.int p0), .val (.int p1), .val (.int p2), .val (.int p3), .val (.int p4), .val (.int p5), .unset] [(.int p1)])) t → Steps p.tables e below (s₁.setTop (entryFrame m #[(.int p0), (.int p1), (.int p2), (.int p3), (.int p4), (.int p5)] 7)) t := fun t k => pre27 t (by
              show Steps p.tables e below (s₁.setTop (mkF m 89 #[.val (.int p0), .val (.int p1), .val (.int p2), .val (.int p3), .val (.int p4), .val (.int p5), .unset] [(.int p0)])) _
              refine XS.ifYes X0.here hx rfl (pc0 := 89) (pc' := 100) rfl (hb hby d1_89) rfl ((if0 _ _).trans (feq hc28).2) (by decide) (by decide) ?_
              show Steps p.tables e below (s₁.setTop (mkF m 100 #[.val (.int p0), .val (.int p1), .val (.int p2), .val (.int p3), .val (.int p4), .val (.int p5), .unset] [])) _
              refine XS.iloadN X0.here hx rfl (hb hby d1_100) rfl ?_
              exact k)
            by_cases hc32 : p1 = (0 : Int32)
            · have pre33 : ∀ t, Steps p.tables e below (s₁.setTop (mkF m 104 #[.val (.int p0), .val (.int p1), .val (.int p2), .val (.int p3), .val (.int p4), .val (.int p5), .unset] [])) t → Steps p.tables e below (s₁.setTop (entryFrame m #[(.int p0), (.int p1), (.int p2), (.int p3), (.int p4), (.int p5)] 7)) t := fun t k => pre31 t (by
                show Steps p.tables e below (s₁.setTop (mkF m 101 #[.val (.int p0), .val (.int p1), .val (.int p2), .val (.int p3), .val (.int p4), .val (.int p5), .unset] [(.int p1)])) _
                refine XS.ifNo X0.here hx rfl (hb hby d1_101) rfl ((if0 _ _).trans (teq hc32).2) ?_
                exact k)
              obtain ⟨T34, X34, e34, st34⟩ := getS2 X0 hx hZ hown (host := "") (Or.inl (hw _ (List.mem_of_getElem? (i := 38) rfl))) Via.refl e0 S_DELETED_BY_OURS_CHANGED_BY_THEIRS (g := (mkF m 104 #[.val (.int p0), .val (.int p1), .val (.int p2), .val (.int p3), .val (.int p4), .val (.int p5), .unset] [])) rfl (hb hby d1_104)
              exact ⟨_, _, w_DELETED_BY_OURS_CHANGED_BY_THEIRS, X34, N0, e34, (by rw [if_neg hc2, if_neg hc16, if_pos hc26, if_neg hc28, if_pos hc32]), fun t k => pre33 t (by
                show Steps p.tables e below (s₁.setTop (mkF m 104 #[.val (.int p0), .val (.int p1), .val (.int p2), .val (.int p3), .val (.int p4), .val (.int p5), .unset] [])) _
                refine st34 _ ?_
                show Steps p.tables e below (T34.setTop (mkF m 107 #[.val (.int p0), .val (.int p1), .val (.int p2), .val (.int p3), .val (.int p4), .val (.int p5), .unset] [(.ref w_DELETED_BY_OURS_CHANGED_BY_THEIRS)])) _
                refine XS.astore X34.here hx rfl (hb hby d1_107) rfl rfl (l' := #[.val (.int p0), .val (.int p1), .val (.int p2), .val (.int p3), .val (.int p4), .val (.int p5), .val (.ref w_DELETED_BY_OURS_CHANGED_BY_THEIRS)]) rfl ?_
                show Steps p.tables e below (T34.setTop (mkF m 109 #[.val (.int p0), .val (.int p1), .val (.int p2), .val (.int p3), .val (.int p4), .val (.int p5), .val (.ref w_DELETED_BY_OURS_CHANGED_BY_THEIRS)] [])) _
                refine XS.goto X34.here hx rfl (pc0 := 109) (pc' := 129) rfl (hb hby d1_109) (by decide) (by decide) ?_
                exact k)⟩
            · have pre35 : ∀ t, Steps p.tables e below (s₁.setTop (mkF m 113 #[.val (.int p0), .val (.int p1), .val (.int p2), .val (.int p3), .val (.int p4), .val (.int p5), .unset] [(.int p2)])) t → Steps p.tables e below (s₁.setTop (entryFrame m #[(.int p0), (.int p1), (.int p2), (.int p3), (.int p4), (.int p5)] 7)) t := fun t k => pre31 t (by
                show Steps p.tables e below (s₁.setTop (mkF m 101 #[.val (.int p0), .val (.int p1), .val (.int p2), .val (.int p3), .val (.int p4), .val (.int p5), .unset] [(.int p1)])) _
                refine XS.ifYes X0.here hx rfl (pc0 := 101) (pc' := 112) rfl (hb hby d1_101) rfl ((if0 _ _).trans (feq hc32).2) (by decide) (by decide) ?_
                show Steps p.tables e below (s₁.setTop (mkF m 112 #[.val (.int p0), .val (.int p1), .val (.int p2), .val (.int p3), .val (.int p4), .val (.int p5), .unset] [])) _
                refine XS.iloadN X0.here hx rfl (hb hby d1_112) rfl ?_
                exact k)
              by_cases hc36 : p2 = (0 : Int32)
              · have pre37 : ∀ t, Steps p.tables e below (s₁.setTop (mkF m 116 #[.val (.int p0), .val (.int p1), .val (.int p2), .val (.int p3), .val (.int p4), .val (.int p5), .unset] [])) t → Steps p.tables e below (s₁.setTop (entryFrame m #[(.int p0), (.int p1), (.int p2), (.int p3), (.int p4), (.int p5)] 7)) t := fun t k => pre35 t (by
                  show Steps p.tables e below (s₁.setTop (mkF m 113 #[.val (.int p0), .val (.int p1), .val (.int p2), .val (.int p3), .val (.int p4), .val (.int p5), .unset] [(.int p2)])) _
                  refine XS.ifNo X0.here hx rfl (hb hby d1_113) rfl ((if0 _ _).trans (teq hc36).2) ?_
                  exact k)
                obtain ⟨T38, X38, e38, st38⟩ := getS2 X0 hx hZ hown (host := "") (Or.inl (hw _ (List.mem_of_getElem? (i := 36) rfl))) Via.refl e0 S_CHANGED_BY_OURS_DELETED_BY_THEIRS (g := (mkF m 116 #[.val (.int p0), .val (.int p1), .val (.int p2), .val (.int p3), .val (.int p4), .val (.int p5), .unset] [])) rfl (hb hby d1_116)
                exact ⟨_, _, w_CHANGED_BY_OURS_DELETED_BY_THEIRS, X38, N0, e38, (by rw [if_neg hc2, if_neg hc16, if_pos hc26, if_neg hc28, if_neg hc32, if_pos hc36]), fun t k => pre37 t (by
                  show Steps p.tables e below (s₁.setTop (mkF m 116 #[.val (.int p0), .val (.int p1), .val (.int p2), .val (.int p3), .val (.int p4), .val (.int p5), .unset] [])) _
                  refine st38 _ ?_
                  show Steps p.tables e below (T38.setTop (mkF m 119 #[.val (.int p0), .val (.int p1), .val (.int p2), .val (.int p3), .val (.int p4), .val (.int p5), .unset] [(.ref w_CHANGED_BY_OURS_DELETED_BY_THEIRS)])) _
                  refine XS.astore X38.here hx rfl (hb hby d1_119) rfl rfl (l' := #[.val (.int p0), .val (.int p1), .val (.int p2), .val (.int p3), .val (.int p4), .val (.int p5), .val (.ref w_CHANGED_BY_OURS_DELETED_BY_THEIRS)]) rfl ?_
                  show Steps p.tables e below (T38.setTop (mkF m 121 #[.val (.int p0), .val (.int p1), .val (.int p2), .val (.int p3), .val (.int p4), .val (.int p5), .val (.ref w_CHANGED_BY_OURS_DELETED_BY_THEIRS)] [])) _
                  refine XS.goto X38.here hx rfl (pc0 := 121) (pc' := 129) rfl (hb hby d1_121) (by decide) (by decide) ?_
                  exact k)⟩
              · have pre39 : ∀ t, Steps p.tables e below (s₁.setTop (mkF m 124 #[.val (.int p0), .val (.int p1), .val (.int p2), .val (.int p3), .val (.int p4), .val (.int p5), .unset] [])) t → Steps p.tables e below (s₁.setTop (entryFrame m #[(.int p0), (.int p1), (.int p2), (.int p3), (.int p4), (.int p5)] 7)) t := fun t k => pre35 t (by
                  show Steps p.tables e below (s₁.setTop (mkF m 113 #[.val (.int p0), .val (.int p1), .val (.int p2), .val (.int p3), .val (.int p4), .val (.int p5), .unset] [(.int p2)])) _
                  refine XS.ifYes X0.here hx rfl (pc0 := 113) (pc' := 124) rfl (hb hby d1_113) rfl ((if0 _ _).trans (feq hc36).2) (by decide) (by decide) ?_
                  exact k)
                obtain ⟨T40, X40, e40, st40⟩ := getS2 X0 hx hZ hown (host := "") (Or.inl (hw _ (List.mem_of_getElem? (i := 34) rfl))) Via.refl e0 S_BOTH_CHANGED (g := (mkF m 124 #[.val (.int p0), .val (.int p1), .val (.int p2), .val (.int p3), .val (.int p4), .val (.int p5), .unset] [])) rfl (hb hby d1_124)
                exact ⟨_, _, w_BOTH_CHANGED, X40, N0, e40, (by rw [if_neg hc2, if_neg hc16, if_pos hc26, if_neg hc28, if_neg hc32, if_neg hc36]), fun t k => pre39 t (by
                  show Steps p.tables e below (s₁.setTop (mkF m 124 #[.val (.int p0), .val (.int p1), .val (.int p2), .val (.int p3), .val (.int p4), .val (.int p5), .unset] [])) _
                  refine st40 _ ?_
                  show Steps p.tables e below (T40.setTop (mkF m 127 #[.val (.int p0), .val (.int p1), .val (.int p2), .val (.int p3), .val (.int p4), .val (.int p5), .unset] [(.ref w_BOTH_CHANGED)])) _
                  refine XS.astore X40.here hx rfl (hb hby d1_127) rfl rfl (l' := #[.val (.int p0), .val (.int p1), .val (.int p2), .val (.int p3), .val (.int p4), .val (.int p5), .val (.ref w_BOTH_CHANGED)]) rfl ?_
                  exact k)⟩
        · have pre41 : ∀ t, Steps p.tables e below (s₁.setTop (mkF m 71 #[.val (.int p0), .val (.int p1), .val (.int p2), .val (.int p3), .val (.int p4), .val (.int p5), .unset] [(.int p1), (.int p0)])) t → Steps p.tables e below (s₁.setTop (entryFrame m #[(.int p0), (.int p1), (.int p2), (.int p3), (.int p4), (.int p5)] 7)) t := fun t k => pre25 t (by
            show Steps p.tables e below (s₁.setTop (mkF m 66 #[.val (.int p0), .val (.int p1), .val (.int p2), .val (.int p3), .val (.int p4), .val (.int p5), .unset] [(.int p5)])) _
            refine XS.ifNo X0.here hx rfl (hb hby d1_66) rfl ((if0 _ _).trans (feq hc26).1) ?_
            show Steps p.tables e below (s₁.setTop (mkF m 69 #[.val (.int p0), .val (.int p1), .val (.int p2), .val (.int p3), .val (.int p4), .val (.int p5), .unset] [])) _
            refine XS.iloadN X0.here hx rfl (hb hby d1_69) rfl ?_
            show Steps p.tables e below (s₁.setTop (mkF m 70 #[.val (.int p0), .val (.int p1), .val (.int p2), .val (.int p3), .val (.int p4), .val (.int p5), .unset] [(.int p0)])) _
            refine XS.iloadN X0.here hx rfl (hb hby d1_70) rfl ?_
            exact k)
          obtain ⟨T42, X42, e42, st42⟩ := getS2 X0 hx hZ hown (host := "") (Or.inl (hw _ (List.mem_of_getElem? (i := 18) rfl))) Via.refl e0 S_SAME_INSERTION (g := (mkF m 71 #[.val (.int p0), .val (.int p1), .val (.int p2), .val (.int p3), .val (.int p4), .val (.int p5), .unset] [(.int p1), (.int p0)])) rfl (hb hby d1_71)
          have pre43 : ∀ t, Steps p.tables e below (T42.setTop (mkF m 74 #[.val (.int p0), .val (.int p1), .val (.int p2), .val (.int p3), .val (.int p4), .val (.int p5), .unset] [(.ref w_SAME_INSERTION), (.int p1), (.int p0)])) t → Steps p.tables e below (s₁.setTop (entryFrame m #[(.int p0), (.int p1), (.int p2), (.int p3), (.int p4), (.int p5)] 7)) t := fun t k => pre41 t (by
            show Steps p.tables e below (s₁.setTop (mkF m 71 #[.val (.int p0), .val (.int p1), .val (.int p2), .val (.int p3), .val (.int p4), .val (.int p5), .unset] [(.int p1), (.int p0)])) _
            refine st42 _ ?_
            exact k)
          obtain ⟨T44, X44, e44, st44⟩ := getS2 X42 hx hZ hown (host := "") (Or.inl (hw _ (List.mem_of_getElem? (i := 22) rfl))) Via.refl e42 S_SAME_DELETION (g := (mkF m 74 #[.val (.int p0), .val (.int p1), .val (.int p2), .val (.int p3), .val (.int p4), .val (.int p5), .unset] [(.ref w_SAME_INSERTION), (.int p1), (.int p0)])) rfl (hb hby d1_74)
          have pre45 : ∀ t, Steps p.tables e below (T44.setTop (mkF m 77 #[.val (.int p0), .val (.int p1), .val (.int p2), .val (.int p3), .val (.int p4), .val (.int p5), .unset] [(.ref w_SAME_DELETION), (.ref w_SAME_INSERTION), (.int p1), (.int p0)])) t → Steps p.tables e below (s₁.setTop (entryFrame m #[(.int p0), (.int p1), (.int p2), (.int p3), (.int p4), (.int p5)] 7)) t := fun t k => pre43 t (by
            show Steps p.tables e below (T42.setTop (mkF m 74 #[.val (.int p0), .val (.int p1), .val (.int p2), .val (.int p3), .val (.int p4), .val (.int p5), .unset] [(.ref w_SAME_INSERTION), (.int p1), (.int p0)])) _
            refine st44 _ ?_
            exact k)
          obtain ⟨T46, X46, e46, st46⟩ := getS2 X44 hx hZ hown (host := "") (Or.inl (hw _ (List.mem_of_getElem? (i := 20) rfl))) Via.refl e44 S_SAME_CHANGE (g := (mkF m 77 #[.val (.int p0), .val (.int p1), .val (.int p2), .val (.int p3), .val (.int p4), .val (.int p5), .unset] [(.ref w_SAME_DELETION), (.ref w_SAME_INSERTION), (.int p1), (.int p0)])) rfl (hb hby d1_77)
          have pre47 : ∀ t, Steps p.tables e below (T46.setTop (mkF m 80 #[.val (.int p0), .val (.int p1), .val (.int p2), .val (.int p3), .val (.int p4), .val (.int p5), .unset] [(.ref w_SAME_CHANGE), (.ref w_SAME_DELETION), (.ref w_SAME_INSERTION), (.int p1), (.int p0)])) t → Steps p.tables e below (s₁.setTop (entryFrame m #[(.int p0), (.int p1), (.int p2), (.int p3), (.int p4), (.int p5)] 7)) t := fun t k => pre45 t (by
            show Steps p.tables e below (T44.setTop (mkF m 77 #[.val (.int p0), .val (.int p1), .val (.int p2), .val (.int p3), .val (.int p4), .val (.int p5), .unset] [(.ref w_SAME_DELETION), (.ref w_SAME_INSERTION), (.int p1), (.int p0)])) _
            refine st46 _ ?_
            exact k)
          obtain ⟨_, _, ⟨T48, L48, k48, n48⟩, -, X48, ⟨Lc48, hQ48, l48, y48, z48⟩, st48⟩ := Jvm.LawKit.callS X46 hx (y := (⟨"com/example/tercet/tercet/Situation", "change", "(IILcom/example/tercet/tercet/Situation;Lcom/example/tercet/tercet/Situation;Lcom/example/tercet/tercet/Situation;)Lcom/example/tercet/tercet/Situation;"⟩ : MethodName)) hown (mvT hZ (hw _ (List.mem_of_getElem? (i := 10) rfl))) (mvT hZ (hw _ (List.mem_of_getElem? (i := 11) rfl))) (mvT hZ (hw _ (List.mem_of_getElem? (i := 2) rfl))) (mvT hZ (hw _ (List.mem_of_getElem? (i := 12) rfl))) (by decide) (backOf (W := 0) (rm2 l Z aw hw [] p0 p1 w_SAME_INSERTION w_SAME_DELETION w_SAME_CHANGE h0 n0 Z0) hZ (hw _ (List.mem_of_getElem? (i := 12) rfl)) (hw _ (List.mem_of_getElem? (i := 2) rfl)) (by decide) (by decide)) (g := (mkF m 80 #[.val (.int p0), .val (.int p1), .val (.int p2), .val (.int p3), .val (.int p4), .val (.int p5), .unset] [(.ref w_SAME_CHANGE), (.ref w_SAME_DELETION), (.ref w_SAME_INSERTION), (.int p1), (.int p0)])) rfl (by rw [hml]; rfl) (argsL := [(.int p0), (.int p1), (.ref w_SAME_INSERTION), (.ref w_SAME_DELETION), (.ref w_SAME_CHANGE)]) (rest := []) (lenOf pd_1 rfl) rfl (by show 2 * 0 + _ ≤ _; exact Nat.le_of_eq rfl) (hb hby d1_80) (fun _ _ => ⟨rfl, e46, (by decide : 0 + 0 ≤ _), (by decide : 0 + 0 ≤ _)⟩)
          dsimp only [Pt.U, Pt.locs, Pt.cells, Pt.slots] at X48 l48 y48 z48 st48 hQ48
          subst l48 y48 z48
          obtain ⟨rfl, N48q, e48⟩ := hQ48
          have N48 := Fr.app N0 N48q
          exact ⟨_, _, (f2 p0 p1 w_SAME_INSERTION w_SAME_DELETION w_SAME_CHANGE), X48, N48, e48, (by rw [if_neg hc2, if_neg hc16, if_neg hc26]), fun t k => pre47 t (by
            show Steps p.tables e below (T46.setTop (mkF m 80 #[.val (.int p0), .val (.int p1), .val (.int p2), .val (.int p3), .val (.int p4), .val (.int p5), .unset] [(.ref w_SAME_CHANGE), (.ref w_SAME_DELETION), (.ref w_SAME_INSERTION), (.int p1), (.int p0)])) _
            refine st48 _ ?_
            show Steps p.tables e below (T48.setTop (mkF m 83 #[.val (.int p0), .val (.int p1), .val (.int p2), .val (.int p3), .val (.int p4), .val (.int p5), .unset] [(.ref (f2 p0 p1 w_SAME_INSERTION w_SAME_DELETION w_SAME_CHANGE))])) _
            refine XS.astore X48.here hx rfl (hb hby d1_83) rfl rfl (l' := #[.val (.int p0), .val (.int p1), .val (.int p2), .val (.int p3), .val (.int p4), .val (.int p5), .val (.ref (f2 p0 p1 w_SAME_INSERTION w_SAME_DELETION w_SAME_CHANGE))]) rfl ?_
            show Steps p.tables e below (T48.setTop (mkF m 85 #[.val (.int p0), .val (.int p1), .val (.int p2), .val (.int p3), .val (.int p4), .val (.int p5), .val (.ref (f2 p0 p1 w_SAME_INSERTION w_SAME_DELETION w_SAME_CHANGE))] [])) _
            refine XS.goto X48.here hx rfl (pc0 := 85) (pc' := 129) rfl (hb hby d1_85) (by decide) (by decide) ?_
            exact k)⟩
  obtain ⟨fs, hr, hrun, hended, hW, hsame⟩ := X51.leave (v := some (.ref j49)) (fun h => by rw [Bd.returns] at h; cases h)
  refine ⟨_, _, pre50 _ ?_, hrun, hended, _, _, rfl, ?_, ⟨_, rfl⟩, hW, hsame.mono (by decide) (by decide)⟩
  · show Steps p.tables e below (T51.setTop (mkF m 129 #[.val (.int p0), .val (.int p1), .val (.int p2), .val (.int p3), .val (.int p4), .val (.int p5), .val (.ref j49)] [])) _
    refine XS.aload X51.here hx rfl (hb hby d1_129) rfl rfl ?_
    show Steps p.tables e below (T51.setTop (mkF m 131 #[.val (.int p0), .val (.int p1), .val (.int p2), .val (.int p3), .val (.int p4), .val (.int p5), .val (.ref j49)] [(.ref j49)])) _
    jvm_step X51.here [X51.here.top, hx, (hb hby d1_131), X51.method', Bd.returns, Value.isRef, FieldType.isReference]
    first | (intro acts; rw [hr _ acts rfl rfl rfl]) | rw [hr _ _ rfl rfl rfl]
    exact Steps.refl _
  · show Q1 Z p0 p1 p2 p3 p4 p5 w_UNCHANGED w_INSERT_BY_THEIRS w_DELETE_BY_THEIRS w_CHANGE_BY_THEIRS w_INSERT_BY_OURS w_DELETE_BY_OURS w_CHANGE_BY_OURS w_BOTH_INSERTED w_DELETED_BY_OURS_CHANGED_BY_THEIRS w_CHANGED_BY_OURS_DELETED_BY_THEIRS w_BOTH_CHANGED w_SAME_INSERTION w_SAME_DELETION w_SAME_CHANGE h0 n0 _ T51.heap _
    rw [e51]
    exact ⟨congrArg (fun z => some (Value.ref z)) (by subst hj49; rfl), N51, rfl⟩
theorem d3_0 : decode prog_45_method_5_code 0 = .ok (.aload_n 0, 1) := by decide +kernel
theorem d3_1 : decode prog_45_method_5_code 1 = .ok (.getstatic 37, 3) := by decide +kernel
theorem d3_4 : decode prog_45_method_5_code 4 = .ok (.if_acmp .eq 17, 3) := by decide +kernel
theorem d3_21 : decode prog_45_method_5_code 21 = .ok (.iconst 1, 1) := by decide +kernel
theorem d3_22 : decode prog_45_method_5_code 22 = .ok (.goto 4, 3) := by decide +kernel
theorem d3_7 : decode prog_45_method_5_code 7 = .ok (.aload_n 0, 1) := by decide +kernel
theorem d3_8 : decode prog_45_method_5_code 8 = .ok (.getstatic 40, 3) := by decide +kernel
theorem d3_11 : decode prog_45_method_5_code 11 = .ok (.if_acmp .eq 10, 3) := by decide +kernel
theorem d3_14 : decode prog_45_method_5_code 14 = .ok (.aload_n 0, 1) := by decide +kernel
theorem d3_15 : decode prog_45_method_5_code 15 = .ok (.getstatic 43, 3) := by decide +kernel
theorem d3_18 : decode prog_45_method_5_code 18 = .ok (.if_acmp .ne 7, 3) := by decide +kernel
theorem d3_25 : decode prog_45_method_5_code 25 = .ok (.iconst 0, 1) := by decide +kernel
theorem ef_3 (m : MethodId) (x0 : Addr) : entryFrame m #[(.ref x0)] 1 = mkF m 0 #[.val (.ref x0)] [] := by first | (simp [entryFrame, mkF, argsToLocals, Value.category]; done) | rfl
def f3 (a0 : Addr) (w_SAME_INSERTION : Addr) (w_SAME_CHANGE : Addr) (w_SAME_DELETION : Addr) : Int32 := (let j13 : Int32 := (if a0 = w_SAME_INSERTION then (1 : Int32) else (if a0 = w_SAME_CHANGE then (1 : Int32) else (if a0 = w_SAME_DELETION then (1 : Int32) else (0 : Int32)))); (nar .boolean j13))
def Q3 (Z : State) (a0 : Addr) (w_SAME_INSERTION : Addr) (w_SAME_CHANGE : Addr) (w_SAME_DELETION : Addr) (h0 : Heap) (n0 : Nat) (v : Option Value) (h : Heap) (L : List Loc) : Prop := v = some (.int (f3 a0 w_SAME_INSERTION w_SAME_CHANGE w_SAME_DELETION)) ∧ Fr n0 L ∧ h = h0
theorem d3_26 : decode prog_45_method_5_code 26 = .ok (.ireturn, 1) := by decide +kernel
set_option maxRecDepth 65536 in
set_option maxHeartbeats 40000000 in
theorem rm3 (l : Launch) (Z : State) (aw : Array Value) (hw : ∀ d ∈ tables_1, d.before aw Z = true) (ws : List Jvm.Cond) (a0 : Addr) (w_SAME_INSERTION : Addr) (w_SAME_CHANGE : Addr) (w_SAME_DELETION : Addr) (h0 : Heap) (n0 : Nat) (Z0 : n0 ≤ h0.size) (S_SAME_INSERTION : Sta Z h0 "com/example/tercet/tercet/Situation" "SAME_INSERTION" "Lcom/example/tercet/tercet/Situation;" (.ref w_SAME_INSERTION)) (S_SAME_CHANGE : Sta Z h0 "com/example/tercet/tercet/Situation" "SAME_CHANGE" "Lcom/example/tercet/tercet/Situation;" (.ref w_SAME_CHANGE)) (S_SAME_DELETION : Sta Z h0 "com/example/tercet/tercet/Situation" "SAME_DELETION" "Lcom/example/tercet/tercet/Situation;" (.ref w_SAME_DELETION)) :
    MetFree l (⟨"com/example/tercet/tercet/Situation", "isConvergent", "()Z"⟩ : MethodName) (head1 (Jvm.Cond.code (⟨"com/example/tercet/tercet/Situation", "isConvergent", "()Z"⟩ : MethodName) prog_45_method_5_code 1 (some .boolean) :: ws) ({ frames := 0, cells := 0, slots := 0, locals := 0 } : Room)) (fun a U => a = #[(.ref a0)] ∧ Z.Warmed39 U.vm ∧ U.heap = h0) (fun _ _ _ _ _ => True) (fun _ U o U' => ∃ v L, o = .returned v ∧ Q3 Z a0 w_SAME_INSERTION w_SAME_CHANGE w_SAME_DELETION h0 n0 v U'.heap L ∧ FrameEnd U o U' L ({ frames := 0, cells := 0, slots := 0, locals := 0 } : Room).cells ({ frames := 0, cells := 0, slots := 0, locals := 0 } : Room).slots) := by
  refine MetFree.of_bodySF (plainFor_of_name pn_0) hisR ?_
  intro p e s m args below meth c s₁ Bd hml0 hP hK
  obtain ⟨rfl, hZ, hh⟩ := hP
  have hx := Bd.exec
  have hby := Bd.bytes
  have hml : c.maxLocals = 1 := hml0
  have hown : s.vm.findClass "com/example/tercet/tercet/Situation" = some m.cls := findClass_of_methodNamed Bd.named
  have hnm := (name_of_methodNamed Bd.named Bd.method).1
  have X0 : Stand p l e ({ frames := 0, cells := 0, slots := 0, locals := 0 } : Room) s m #[(.ref a0)] below meth c s₁ [] 0 0 := Stand.of_body Bd
  have e0 : s₁.heap = h0 := by rw [← hh, Bd.state]; rfl
  have N0 := Fr.nil n0
  have pre0 : ∀ t, Steps p.tables e below (s₁.setTop (mkF m 0 #[.val (.ref a0)] [])) t → Steps p.tables e below (s₁.setTop (entryFrame m #[(.ref a0)] 1)) t := fun t k => castTop (ef_3 m a0) k
  have pre1 : ∀ t, Steps p.tables e below (s₁.setTop (mkF m 1 #[.val (.ref a0)] [(.ref a0)])) t → Steps p.tables e below (s₁.setTop (entryFrame m #[(.ref a0)] 1)) t := fun t k => pre0 t (by
    show Steps p.tables e below (s₁.setTop (mkF m 0 #[.val (.ref a0)] [])) _
    refine XS.aloadN X0.here hx rfl (hb hby d3_0) rfl rfl ?_
    exact k)
  obtain ⟨T2, X2, e2, st2⟩ := getS2 X0 hx hZ hown (host := "") (Or.inl (hw _ (List.mem_of_getElem? (i := 18) rfl))) Via.refl e0 S_SAME_INSERTION (g := (mkF m 1 #[.val (.ref a0)] [(.ref a0)])) rfl (hb hby d3_1)
  have pre3 : ∀ t, Steps p.tables e below (T2.setTop (mkF m 4 #[.val (.ref a0)] [(.ref w_SAME_INSERTION), (.ref a0)])) t → Steps p.tables e below (s₁.setTop (entryFrame m #[(.ref a0)] 1)) t := fun t k => pre1 t (by
    show Steps p.tables e below (s₁.setTop (mkF m 1 #[.val (.ref a0)] [(.ref a0)])) _
    refine st2 _ ?_
    exact k)
  obtain ⟨T15, LjT15, j13, X15, N15, e15, hj13, pre14⟩ : ∃ (T15 : State) (LjT15 : List Loc) (j13 : Int32), Stand p l e ({ frames := 0, cells := 0, slots := 0, locals := 0 } : Room) s m #[(.ref a0)] below meth c T15 LjT15 0 0 ∧ Fr n0 LjT15 ∧ T15.heap = h0 ∧ j13 = (if a0 = w_SAME_INSERTION then (1 : Int32) else (if a0 = w_SAME_CHANGE then (1 : Int32) else (if a0 = w_SAME_DELETION then (1 : Int32) else (0 : Int32)))) ∧ ∀ t, Steps p.tables e below (T15.setTop (mkF m 26 #[.val (.ref a0)] [(.int j13)])) t → Steps p.tables e below (s₁.setTop (entryFrame m #[(.ref a0)] 1)) t := by
    by_cases hc4 : a0 = w_SAME_INSERTION
    · exact ⟨_, _, (1 : Int32), X2, N0, e2, (by rw [if_pos hc4]), fun t k => pre3 t (by
        show Steps p.tables e below (T2.setTop (mkF m 4 #[.val (.ref a0)] [(.ref w_SAME_INSERTION), (.ref a0)])) _
        refine Jvm.RoadKit.acmp (g := (mkF m 4 #[.val (.ref a0)] [(.ref w_SAME_INSERTION), (.ref a0)])) X2 hx rfl rfl rfl (pc0 := 4) (pc' := 21) (same := true) rfl (hb hby d3_4) rfl (decide_eq_true (congrArg Value.ref hc4)) (by decide) (by decide) ?_
        show Steps p.tables e below (T2.setTop (mkF m 21 #[.val (.ref a0)] [])) _
        refine XS.iconst X2.here hx rfl (hb hby d3_21) ?_
        show Steps p.tables e below (T2.setTop (mkF m 22 #[.val (.ref a0)] [(.int (1 : Int32))])) _
        refine XS.goto X2.here hx rfl (pc0 := 22) (pc' := 26) rfl (hb hby d3_22) (by decide) (by decide) ?_
        exact k)⟩
    · have pre5 : ∀ t, Steps p.tables e below (T2.setTop (mkF m 8 #[.val (.ref a0)] [(.ref a0)])) t → Steps p.tables e below (s₁.setTop (entryFrame m #[(.ref a0)] 1)) t := fun t k => pre3 t (by
        show Steps p.tables e below (T2.setTop (mkF m 4 #[.val (.ref a0)] [(.ref w_SAME_INSERTION), (.ref a0)])) _
        refine Jvm.RoadKit.acmp (g := (mkF m 4 #[.val (.ref a0)] [(.ref w_SAME_INSERTION), (.ref a0)])) X2 hx rfl rfl rfl (pc0 := 4) (pc' := 7) (same := false) rfl (hb hby d3_4) rfl (decide_eq_false fun q => hc4 (Value.ref.inj q)) (by decide) (by decide) ?_
        show Steps p.tables e below (T2.setTop (mkF m 7 #[.val (.ref a0)] [])) _
        refine XS.aloadN X2.here hx rfl (hb hby d3_7) rfl rfl ?_
        exact k)
      obtain ⟨T6, X6, e6, st6⟩ := getS2 X2 hx hZ hown (host := "") (Or.inl (hw _ (List.mem_of_getElem? (i := 20) rfl))) Via.refl e2 S_SAME_CHANGE (g := (mkF m 8 #[.val (.ref a0)] [(.ref a0)])) rfl (hb hby d3_8)
      have pre7 : ∀ t, Steps p.tables e below (T6.setTop (mkF m 11 #[.val (.ref a0)] [(.ref w_SAME_CHANGE), (.ref a0)])) t → Steps p.tables e below (s₁.setTop (entryFrame m #[(.ref a0)] 1)) t := fun t k => pre5 t (by
        show Steps p.tables e below (T2.setTop (mkF m 8 #[.val (.ref a0)] [(.ref a0)])) _
        refine st6 _ ?_
        exact k)
      by_cases hc8 : a0 = w_SAME_CHANGE
      · exact ⟨_, _, (1 : Int32), X6, N0, e6, (by rw [if_neg hc4, if_pos hc8]), fun t k => pre7 t (by
          show Steps p.tables e below (T6.setTop (mkF m 11 #[.val (.ref a0)] [(.ref w_SAME_CHANGE), (.ref a0)])) _
          refine Jvm.RoadKit.acmp (g := (mkF m 11 #[.val (.ref a0)] [(.ref w_SAME_CHANGE), (.ref a0)])) X6 hx rfl rfl rfl (pc0 := 11) (pc' := 21) (same := true) rfl (hb hby d3_11) rfl (decide_eq_true (congrArg Value.ref hc8)) (by decide) (by decide) ?_
          show Steps p.tables e below (T6.setTop (mkF m 21 #[.val (.ref a0)] [])) _
          refine XS.iconst X6.here hx rfl (hb hby d3_21) ?_
          show Steps p.tables e below (T6.setTop (mkF m 22 #[.val (.ref a0)] [(.int (1 : Int32))])) _
          refine XS.goto X6.here hx rfl (pc0 := 22) (pc' := 26) rfl (hb hby d3_22) (by decide) (by decide) ?_
          exact k)⟩
      · have pre9 : ∀ t, Steps p.tables e below (T6.setTop (mkF m 15 #[.val (.ref a0)] [(.ref a0)])) t → Steps p.tables e below (s₁.setTop (entryFrame m #[(.ref a0)] 1)) t := fun t k => pre7 t (by
          show Steps p.tables e below (T6.setTop (mkF m 11 #[.val (.ref a0)] [(.ref w_SAME_CHANGE), (.ref a0)])) _
          refine Jvm.RoadKit.acmp (g := (mkF m 11 #[.val (.ref a0)] [(.ref w_SAME_CHANGE), (.ref a0)])) X6 hx rfl rfl rfl (pc0 := 11) (pc' := 14) (same := false) rfl (hb hby d3_11) rfl (decide_eq_false fun q => hc8 (Value.ref.inj q)) (by decide) (by decide) ?_
          show Steps p.tables e below (T6.setTop (mkF m 14 #[.val (.ref a0)] [])) _
          refine XS.aloadN X6.here hx rfl (hb hby d3_14) rfl rfl ?_
          exact k)
        obtain ⟨T10, X10, e10, st10⟩ := getS2 X6 hx hZ hown (host := "") (Or.inl (hw _ (List.mem_of_getElem? (i := 22) rfl))) Via.refl e6 S_SAME_DELETION (g := (mkF m 15 #[.val (.ref a0)] [(.ref a0)])) rfl (hb hby d3_15)
        have pre11 : ∀ t, Steps p.tables e below (T10.setTop (mkF m 18 #[.val (.ref a0)] [(.ref w_SAME_DELETION), (.ref a0)])) t → Steps p.tables e below (s₁.setTop (entryFrame m #[(.ref a0)] 1)) t := fun t k => pre9 t (by
          show Steps p.tables e below (T6.setTop (mkF m 15 #[.val (.ref a0)] [(.ref a0)])) _
          refine st10 _ ?_
          exact k)
        by_cases hc12 : a0 = w_SAME_DELETION
        · exact ⟨_, _, (1 : Int32), X10, N0, e10, (by rw [if_neg hc4, if_neg hc8, if_pos hc12]), fun t k => pre11 t (by
            show Steps p.tables e below (T10.setTop (mkF m 18 #[.val (.ref a0)] [(.ref w_SAME_DELETION), (.ref a0)])) _
            refine Jvm.RoadKit.acmp (g := (mkF m 18 #[.val (.ref a0)] [(.ref w_SAME_DELETION), (.ref a0)])) X10 hx rfl rfl rfl (pc0 := 18) (pc' := 21) (same := true) rfl (hb hby d3_18) rfl (decide_eq_true (congrArg Value.ref hc12)) (by decide) (by decide) ?_
            show Steps p.tables e below (T10.setTop (mkF m 21 #[.val (.ref a0)] [])) _
            refine XS.iconst X10.here hx rfl (hb hby d3_21) ?_
            show Steps p.tables e below (T10.setTop (mkF m 22 #[.val (.ref a0)] [(.int (1 : Int32))])) _
            refine XS.goto X10.here hx rfl (pc0 := 22) (pc' := 26) rfl (hb hby d3_22) (by decide) (by decide) ?_
            exact k)⟩
        · exact ⟨_, _, (0 : Int32), X10, N0, e10, (by rw [if_neg hc4, if_neg hc8, if_neg hc12]), fun t k => pre11 t (by
            show Steps p.tables e below (T10.setTop (mkF m 18 #[.val (.ref a0)] [(.ref w_SAME_DELETION), (.ref a0)])) _
            refine Jvm.RoadKit.acmp (g := (mkF m 18 #[.val (.ref a0)] [(.ref w_SAME_DELETION), (.ref a0)])) X10 hx rfl rfl rfl (pc0 := 18) (pc' := 25) (same := false) rfl (hb hby d3_18) rfl (decide_eq_false fun q => hc12 (Value.ref.inj q)) (by decide) (by decide) ?_
            show Steps p.tables e below (T10.setTop (mkF m 25 #[.val (.ref a0)] [])) _
            refine XS.iconst X10.here hx rfl (hb hby d3_25) ?_
            exact k)⟩
  obtain ⟨fs, hr, hrun, hended, hW, hsame⟩ := X15.leave (v := some (.int (nar .boolean j13))) (fun h => by rw [Bd.returns] at h; cases h)
  refine ⟨_, _, pre14 _ ?_, hrun, hended, _, _, rfl, ?_, ⟨_, rfl⟩, hW, hsame.mono (by decide) (by decide)⟩
  · show Steps p.tables e below (T15.setTop (mkF m 26 #[.val (.ref a0)] [(.int j13)])) _
    exact retN X15 hx (t := .boolean) Bd.returns (by simp) (hb hby d3_26) hr
  · show Q3 Z a0 w_SAME_INSERTION w_SAME_CHANGE w_SAME_DELETION h0 n0 _ T15.heap _
    rw [e15]
    exact ⟨congrArg (fun z => some (Value.int z)) (by subst hj13; rfl), N15, rfl⟩
theorem own_chg {P : Addr → Prop} (p0 : Int32) (p1 : Int32) (a2 : Addr) (a3 : Addr) (a4 : Addr) (h1 : P a2) (h2 : P a3) (h3 : P a4) : P (f2 p0 p1 a2 a3 a4) := by
  unfold f2
  dsimp only
  split
  · exact h1
  · split
    · exact h2
    · exact h3
theorem own_of {P : Addr → Prop} (p0 : Int32) (p1 : Int32) (p2 : Int32) (p3 : Int32) (p4 : Int32) (p5 : Int32) (w_UNCHANGED : Addr) (w_INSERT_BY_THEIRS : Addr) (w_DELETE_BY_THEIRS : Addr) (w_CHANGE_BY_THEIRS : Addr) (w_INSERT_BY_OURS : Addr) (w_DELETE_BY_OURS : Addr) (w_CHANGE_BY_OURS : Addr) (w_BOTH_INSERTED : Addr) (w_DELETED_BY_OURS_CHANGED_BY_THEIRS : Addr) (w_CHANGED_BY_OURS_DELETED_BY_THEIRS : Addr) (w_BOTH_CHANGED : Addr) (w_SAME_INSERTION : Addr) (w_SAME_DELETION : Addr) (w_SAME_CHANGE : Addr) (h_w_UNCHANGED : P w_UNCHANGED) (h_w_INSERT_BY_THEIRS : P w_INSERT_BY_THEIRS) (h_w_DELETE_BY_THEIRS : P w_DELETE_BY_THEIRS) (h_w_CHANGE_BY_THEIRS : P w_CHANGE_BY_THEIRS) (h_w_INSERT_BY_OURS : P w_INSERT_BY_OURS) (h_w_DELETE_BY_OURS : P w_DELETE_BY_OURS) (h_w_CHANGE_BY_OURS : P w_CHANGE_BY_OURS) (h_w_BOTH_INSERTED : P w_BOTH_INSERTED) (h_w_DELETED_BY_OURS_CHANGED_BY_THEIRS : P w_DELETED_BY_OURS_CHANGED_BY_THEIRS) (h_w_CHANGED_BY_OURS_DELETED_BY_THEIRS : P w_CHANGED_BY_OURS_DELETED_BY_THEIRS) (h_w_BOTH_CHANGED : P w_BOTH_CHANGED) (h_w_SAME_INSERTION : P w_SAME_INSERTION) (h_w_SAME_DELETION : P w_SAME_DELETION) (h_w_SAME_CHANGE : P w_SAME_CHANGE) : P (f1 p0 p1 p2 p3 p4 p5 w_UNCHANGED w_INSERT_BY_THEIRS w_DELETE_BY_THEIRS w_CHANGE_BY_THEIRS w_INSERT_BY_OURS w_DELETE_BY_OURS w_CHANGE_BY_OURS w_BOTH_INSERTED w_DELETED_BY_OURS_CHANGED_BY_THEIRS w_CHANGED_BY_OURS_DELETED_BY_THEIRS w_BOTH_CHANGED w_SAME_INSERTION w_SAME_DELETION w_SAME_CHANGE) := by
  unfold f1
  dsimp only
  repeat' split
  all_goals first | assumption | (apply own_chg <;> assumption)
theorem pn_1 : plainName "com/example/tercet/tercet/SituationIsConvergentPinLaw" = true := by first | (simp [plainName, overriddenIn]; done) | decide +kernel
theorem pd_0 : parseMethodDescriptor "(IIIZZZ)Lcom/example/tercet/tercet/Situation;" = some ⟨[.int, .int, .int, .boolean, .boolean, .boolean], some (.object "com/example/tercet/tercet/Situation")⟩ := by decide +kernel
theorem pd_2 : parseMethodDescriptor "()Z" = some ⟨[], some .boolean⟩ := by decide +kernel
theorem ef_0 (m : MethodId) (x0 : Int32) (x1 : Int32) (x2 : Int32) (x3 : Int32) : entryFrame m #[(.int x0), (.int x1), (.int x2), (.int x3)] maxLocals = mkF m 0 #[.val (.int x0), .val (.int x1), .val (.int x2), .val (.int x3), .unset, .unset, .unset, .unset, .unset] [] := by first | (simp [entryFrame, mkF, argsToLocals, Value.category, maxLocals]; done) | rfl
def f0 (p0 : Int32) (p1 : Int32) (p2 : Int32) (p3 : Int32) (w_UNCHANGED : Addr) (w_INSERT_BY_THEIRS : Addr) (w_DELETE_BY_THEIRS : Addr) (w_CHANGE_BY_THEIRS : Addr) (w_INSERT_BY_OURS : Addr) (w_DELETE_BY_OURS : Addr) (w_CHANGE_BY_OURS : Addr) (w_BOTH_INSERTED : Addr) (w_DELETED_BY_OURS_CHANGED_BY_THEIRS : Addr) (w_CHANGED_BY_OURS_DELETED_BY_THEIRS : Addr) (w_BOTH_CHANGED : Addr) (w_SAME_INSERTION : Addr) (w_SAME_DELETION : Addr) (w_SAME_CHANGE : Addr) : Int32 := (let j3 : Int32 := (if (p3 &&& (1 : Int32)) = (0 : Int32) then (0 : Int32) else (1 : Int32)); (let j7 : Int32 := (if (p3 &&& (2 : Int32)) = (0 : Int32) then (0 : Int32) else (1 : Int32)); (let j11 : Int32 := (if (p3 &&& (4 : Int32)) = (0 : Int32) then (0 : Int32) else (1 : Int32)); (let v16 : Addr := (f1 p0 p1 p2 j3 j7 j11 w_UNCHANGED w_INSERT_BY_THEIRS w_DELETE_BY_THEIRS w_CHANGE_BY_THEIRS w_INSERT_BY_OURS w_DELETE_BY_OURS w_CHANGE_BY_OURS w_BOTH_INSERTED w_DELETED_BY_OURS_CHANGED_BY_THEIRS w_CHANGED_BY_OURS_DELETED_BY_THEIRS w_BOTH_CHANGED w_SAME_INSERTION w_SAME_DELETION w_SAME_CHANGE); (let j25 : Int32 := (if j3 = (0 : Int32) then (0 : Int32) else (if j7 = (0 : Int32) then (0 : Int32) else (if j11 = (0 : Int32) then (0 : Int32) else (1 : Int32)))); (let j31 : Int32 := (if (f3 v16 w_SAME_INSERTION w_SAME_CHANGE w_SAME_DELETION) = j25 then (1 : Int32) else (0 : Int32)); (nar .boolean j31)))))))
def Q0 (Z : State) (p0 : Int32) (p1 : Int32) (p2 : Int32) (p3 : Int32) (w_UNCHANGED : Addr) (w_INSERT_BY_THEIRS : Addr) (w_DELETE_BY_THEIRS : Addr) (w_CHANGE_BY_THEIRS : Addr) (w_INSERT_BY_OURS : Addr) (w_DELETE_BY_OURS : Addr) (w_CHANGE_BY_OURS : Addr) (w_BOTH_INSERTED : Addr) (w_DELETED_BY_OURS_CHANGED_BY_THEIRS : Addr) (w_CHANGED_BY_OURS_DELETED_BY_THEIRS : Addr) (w_BOTH_CHANGED : Addr) (w_SAME_INSERTION : Addr) (w_SAME_DELETION : Addr) (w_SAME_CHANGE : Addr) (h0 : Heap) (n0 : Nat) (v : Option Value) (h : Heap) (L : List Loc) : Prop := v = some (.int (1 : Int32)) ∧ Fr n0 L
set_option maxRecDepth 65536 in
set_option maxHeartbeats 40000000 in
theorem rm0 (l : Launch) (Z : State) (aw : Array Value) (hw : ∀ d ∈ tables_1, d.before aw Z = true) (ws : List Jvm.Cond) (p0 : Int32) (p1 : Int32) (p2 : Int32) (p3 : Int32) (w_UNCHANGED : Addr) (w_INSERT_BY_THEIRS : Addr) (w_DELETE_BY_THEIRS : Addr) (w_CHANGE_BY_THEIRS : Addr) (w_INSERT_BY_OURS : Addr) (w_DELETE_BY_OURS : Addr) (w_CHANGE_BY_OURS : Addr) (w_BOTH_INSERTED : Addr) (w_DELETED_BY_OURS_CHANGED_BY_THEIRS : Addr) (w_CHANGED_BY_OURS_DELETED_BY_THEIRS : Addr) (w_BOTH_CHANGED : Addr) (w_SAME_INSERTION : Addr) (w_SAME_DELETION : Addr) (w_SAME_CHANGE : Addr) (h0 : Heap) (n0 : Nat) (Z0 : n0 ≤ h0.size) (S_UNCHANGED : Sta Z h0 "com/example/tercet/tercet/Situation" "UNCHANGED" "Lcom/example/tercet/tercet/Situation;" (.ref w_UNCHANGED)) (S_INSERT_BY_THEIRS : Sta Z h0 "com/example/tercet/tercet/Situation" "INSERT_BY_THEIRS" "Lcom/example/tercet/tercet/Situation;" (.ref w_INSERT_BY_THEIRS)) (S_DELETE_BY_THEIRS : Sta Z h0 "com/example/tercet/tercet/Situation" "DELETE_BY_THEIRS" "Lcom/example/tercet/tercet/Situation;" (.ref w_DELETE_BY_THEIRS)) (S_CHANGE_BY_THEIRS : Sta Z h0 "com/example/tercet/tercet/Situation" "CHANGE_BY_THEIRS" "Lcom/example/tercet/tercet/Situation;" (.ref w_CHANGE_BY_THEIRS)) (S_INSERT_BY_OURS : Sta Z h0 "com/example/tercet/tercet/Situation" "INSERT_BY_OURS" "Lcom/example/tercet/tercet/Situation;" (.ref w_INSERT_BY_OURS)) (S_DELETE_BY_OURS : Sta Z h0 "com/example/tercet/tercet/Situation" "DELETE_BY_OURS" "Lcom/example/tercet/tercet/Situation;" (.ref w_DELETE_BY_OURS)) (S_CHANGE_BY_OURS : Sta Z h0 "com/example/tercet/tercet/Situation" "CHANGE_BY_OURS" "Lcom/example/tercet/tercet/Situation;" (.ref w_CHANGE_BY_OURS)) (S_BOTH_INSERTED : Sta Z h0 "com/example/tercet/tercet/Situation" "BOTH_INSERTED" "Lcom/example/tercet/tercet/Situation;" (.ref w_BOTH_INSERTED)) (S_DELETED_BY_OURS_CHANGED_BY_THEIRS : Sta Z h0 "com/example/tercet/tercet/Situation" "DELETED_BY_OURS_CHANGED_BY_THEIRS" "Lcom/example/tercet/tercet/Situation;" (.ref w_DELETED_BY_OURS_CHANGED_BY_THEIRS)) (S_CHANGED_BY_OURS_DELETED_BY_THEIRS : Sta Z h0 "com/example/tercet/tercet/Situation" "CHANGED_BY_OURS_DELETED_BY_THEIRS" "Lcom/example/tercet/tercet/Situation;" (.ref w_CHANGED_BY_OURS_DELETED_BY_THEIRS)) (S_BOTH_CHANGED : Sta Z h0 "com/example/tercet/tercet/Situation" "BOTH_CHANGED" "Lcom/example/tercet/tercet/Situation;" (.ref w_BOTH_CHANGED)) (S_SAME_INSERTION : Sta Z h0 "com/example/tercet/tercet/Situation" "SAME_INSERTION" "Lcom/example/tercet/tercet/Situation;" (.ref w_SAME_INSERTION)) (S_SAME_DELETION : Sta Z h0 "com/example/tercet/tercet/Situation" "SAME_DELETION" "Lcom/example/tercet/tercet/Situation;" (.ref w_SAME_DELETION)) (S_SAME_CHANGE : Sta Z h0 "com/example/tercet/tercet/Situation" "SAME_CHANGE" "Lcom/example/tercet/tercet/Situation;" (.ref w_SAME_CHANGE)) (E_w_UNCHANGED : Exa Z h0 w_UNCHANGED "com/example/tercet/tercet/Situation") (E_w_INSERT_BY_THEIRS : Exa Z h0 w_INSERT_BY_THEIRS "com/example/tercet/tercet/Situation") (E_w_DELETE_BY_THEIRS : Exa Z h0 w_DELETE_BY_THEIRS "com/example/tercet/tercet/Situation") (E_w_CHANGE_BY_THEIRS : Exa Z h0 w_CHANGE_BY_THEIRS "com/example/tercet/tercet/Situation") (E_w_INSERT_BY_OURS : Exa Z h0 w_INSERT_BY_OURS "com/example/tercet/tercet/Situation") (E_w_DELETE_BY_OURS : Exa Z h0 w_DELETE_BY_OURS "com/example/tercet/tercet/Situation") (E_w_CHANGE_BY_OURS : Exa Z h0 w_CHANGE_BY_OURS "com/example/tercet/tercet/Situation") (E_w_BOTH_INSERTED : Exa Z h0 w_BOTH_INSERTED "com/example/tercet/tercet/Situation") (E_w_DELETED_BY_OURS_CHANGED_BY_THEIRS : Exa Z h0 w_DELETED_BY_OURS_CHANGED_BY_THEIRS "com/example/tercet/tercet/Situation") (E_w_CHANGED_BY_OURS_DELETED_BY_THEIRS : Exa Z h0 w_CHANGED_BY_OURS_DELETED_BY_THEIRS "com/example/tercet/tercet/Situation") (E_w_BOTH_CHANGED : Exa Z h0 w_BOTH_CHANGED "com/example/tercet/tercet/Situation") (E_w_SAME_INSERTION : Exa Z h0 w_SAME_INSERTION "com/example/tercet/tercet/Situation") (E_w_SAME_DELETION : Exa Z h0 w_SAME_DELETION "com/example/tercet/tercet/Situation") (E_w_SAME_CHANGE : Exa Z h0 w_SAME_CHANGE "com/example/tercet/tercet/Situation") (hlaw : f0 p0 p1 p2 p3 w_UNCHANGED w_INSERT_BY_THEIRS w_DELETE_BY_THEIRS w_CHANGE_BY_THEIRS w_INSERT_BY_OURS w_DELETE_BY_OURS w_CHANGE_BY_OURS w_BOTH_INSERTED w_DELETED_BY_OURS_CHANGED_BY_THEIRS w_CHANGED_BY_OURS_DELETED_BY_THEIRS w_BOTH_CHANGED w_SAME_INSERTION w_SAME_DELETION w_SAME_CHANGE = 1) :
    MetFree l x (head1 (Jvm.Cond.code x code maxLocals ret :: ws) room_1) (fun a U => a = #[(.int p0), (.int p1), (.int p2), (.int p3)] ∧ Z.Warmed39 U.vm ∧ U.heap = h0) (fun _ _ _ _ _ => True) (fun _ U o U' => ∃ v L, o = .returned v ∧ Q0 Z p0 p1 p2 p3 w_UNCHANGED w_INSERT_BY_THEIRS w_DELETE_BY_THEIRS w_CHANGE_BY_THEIRS w_INSERT_BY_OURS w_DELETE_BY_OURS w_CHANGE_BY_OURS w_BOTH_INSERTED w_DELETED_BY_OURS_CHANGED_BY_THEIRS w_CHANGED_BY_OURS_DELETED_BY_THEIRS w_BOTH_CHANGED w_SAME_INSERTION w_SAME_DELETION w_SAME_CHANGE h0 n0 v U'.heap L ∧ FrameEnd U o U' L room_1.cells room_1.slots) := by
  refine MetFree.of_bodySF (plainFor_of_name pn_1) hisR ?_
  intro p e s m args below meth c s₁ Bd hml0 hP hK
  obtain ⟨rfl, hZ, hh⟩ := hP
  have hx := Bd.exec
  have hby := Bd.bytes
  have hml : c.maxLocals = 9 := hml0
  have hown : s.vm.findClass "com/example/tercet/tercet/SituationIsConvergentPinLaw" = some m.cls := findClass_of_methodNamed Bd.named
  have hnm := (name_of_methodNamed Bd.named Bd.method).1
  have X0 : Stand p l e room_1 s m #[(.int p0), (.int p1), (.int p2), (.int p3)] below meth c s₁ [] 0 0 := Stand.of_body Bd
  have e0 : s₁.heap = h0 := by rw [← hh, Bd.state]; rfl
  have N0 := Fr.nil n0
  have pre0 : ∀ t, Steps p.tables e below (s₁.setTop (mkF m 0 #[.val (.int p0), .val (.int p1), .val (.int p2), .val (.int p3), .unset, .unset, .unset, .unset, .unset] [])) t → Steps p.tables e below (s₁.setTop (entryFrame m #[(.int p0), (.int p1), (.int p2), (.int p3)] maxLocals)) t := fun t k => castTop (ef_0 m p0 p1 p2 p3) k
  have pre1 : ∀ t, Steps p.tables e below (s₁.setTop (mkF m 3 #[.val (.int p0), .val (.int p1), .val (.int p2), .val (.int p3), .unset, .unset, .unset, .unset, .unset] [(.int (p3 &&& (1 : Int32)))])) t → Steps p.tables e below (s₁.setTop (entryFrame m #[(.int p0), (.int p1), (.int p2), (.int p3)] maxLocals)) t := fun t k => pre0 t (by
    show Steps p.tables e below (s₁.setTop (mkF m 0 #[.val (.int p0), .val (.int p1), .val (.int p2), .val (.int p3), .unset, .unset, .unset, .unset, .unset] [])) _
    refine XS.iloadN X0.here hx rfl (hb hby at_0) rfl ?_
    show Steps p.tables e below (s₁.setTop (mkF m 1 #[.val (.int p0), .val (.int p1), .val (.int p2), .val (.int p3), .unset, .unset, .unset, .unset, .unset] [(.int p3)])) _
    refine XS.iconst X0.here hx rfl (hb hby at_1) ?_
    show Steps p.tables e below (s₁.setTop (mkF m 2 #[.val (.int p0), .val (.int p1), .val (.int p2), .val (.int p3), .unset, .unset, .unset, .unset, .unset] [(.int (1 : Int32)), (.int p3)])) _
    refine XS.iand X0.here hx rfl (hb hby at_2) rfl ?_
    exact k)
  obtain ⟨j3, hj3, pre4⟩ : ∃ (j3 : Int32), j3 = (if (p3 &&& (1 : Int32)) = (0 : Int32) then (0 : Int32) else (1 : Int32)) ∧ ∀ t, Steps p.tables e below (s₁.setTop (mkF m 11 #[.val (.int p0), .val (.int p1), .val (.int p2), .val (.int p3), .unset, .unset, .unset, .unset, .unset] [(.int j3)])) t → Steps p.tables e below (s₁.setTop (entryFrame m #[(.int p0), (.int p1), (.int p2), (.int p3)] maxLocals)) t := by
    by_cases hc2 : (p3 &&& (1 : Int32)) = (0 : Int32)
    · exact ⟨(0 : Int32), (by rw [if_pos hc2]), fun t k => pre1 t (by
        show Steps p.tables e below (s₁.setTop (mkF m 3 #[.val (.int p0), .val (.int p1), .val (.int p2), .val (.int p3), .unset, .unset, .unset, .unset, .unset] [(.int (p3 &&& (1 : Int32)))])) _
        refine XS.ifYes X0.here hx rfl (pc0 := 3) (pc' := 10) rfl (hb hby at_3) rfl ((if0 _ _).trans (teq hc2).1) (by decide) (by decide) ?_
        show Steps p.tables e below (s₁.setTop (mkF m 10 #[.val (.int p0), .val (.int p1), .val (.int p2), .val (.int p3), .unset, .unset, .unset, .unset, .unset] [])) _
        refine XS.iconst X0.here hx rfl (hb hby at_10) ?_
        exact k)⟩
    · exact ⟨(1 : Int32), (by rw [if_neg hc2]), fun t k => pre1 t (by
        show Steps p.tables e below (s₁.setTop (mkF m 3 #[.val (.int p0), .val (.int p1), .val (.int p2), .val (.int p3), .unset, .unset, .unset, .unset, .unset] [(.int (p3 &&& (1 : Int32)))])) _
        refine XS.ifNo X0.here hx rfl (hb hby at_3) rfl ((if0 _ _).trans (feq hc2).1) ?_
        show Steps p.tables e below (s₁.setTop (mkF m 6 #[.val (.int p0), .val (.int p1), .val (.int p2), .val (.int p3), .unset, .unset, .unset, .unset, .unset] [])) _
        refine XS.iconst X0.here hx rfl (hb hby at_6) ?_
        show Steps p.tables e below (s₁.setTop (mkF m 7 #[.val (.int p0), .val (.int p1), .val (.int p2), .val (.int p3), .unset, .unset, .unset, .unset, .unset] [(.int (1 : Int32))])) _
        refine XS.goto X0.here hx rfl (pc0 := 7) (pc' := 11) rfl (hb hby at_7) (by decide) (by decide) ?_
        exact k)⟩
  have pre5 : ∀ t, Steps p.tables e below (s₁.setTop (mkF m 16 #[.val (.int p0), .val (.int p1), .val (.int p2), .val (.int p3), .val (.int j3), .unset, .unset, .unset, .unset] [(.int (p3 &&& (2 : Int32)))])) t → Steps p.tables e below (s₁.setTop (entryFrame m #[(.int p0), (.int p1), (.int p2), (.int p3)] maxLocals)) t := fun t k => pre4 t (by
    show Steps p.tables e below (s₁.setTop (mkF m 11 #[.val (.int p0), .val (.int p1), .val (.int p2), .val (.int p3), .unset, .unset, .unset, .unset, .unset] [(.int j3)])) _
    refine XS.istore X0.here hx rfl (hb hby at_11) rfl (l' := #[.val (.int p0), .val (.int p1), .val (.int p2), .val (.int p3), .val (.int j3), .unset, .unset, .unset, .unset]) rfl ?_
    show Steps p.tables e below (s₁.setTop (mkF m 13 #[.val (.int p0), .val (.int p1), .val (.int p2), .val (.int p3), .val (.int j3), .unset, .unset, .unset, .unset] [])) _
    refine XS.iloadN X0.here hx rfl (hb hby at_13) rfl ?_
    show Steps p.tables e below (s₁.setTop (mkF m 14 #[.val (.int p0), .val (.int p1), .val (.int p2), .val (.int p3), .val (.int j3), .unset, .unset, .unset, .unset] [(.int p3)])) _
    refine XS.iconst X0.here hx rfl (hb hby at_14) ?_
    show Steps p.tables e below (s₁.setTop (mkF m 15 #[.val (.int p0), .val (.int p1), .val (.int p2), .val (.int p3), .val (.int j3), .unset, .unset, .unset, .unset] [(.int (2 : Int32)), (.int p3)])) _
    refine XS.iand X0.here hx rfl (hb hby at_15) rfl ?_
    exact k)
  obtain ⟨j7, hj7, pre8⟩ : ∃ (j7 : Int32), j7 = (if (p3 &&& (2 : Int32)) = (0 : Int32) then (0 : Int32) else (1 : Int32)) ∧ ∀ t, Steps p.tables e below (s₁.setTop (mkF m 24 #[.val (.int p0), .val (.int p1), .val (.int p2), .val (.int p3), .val (.int j3), .unset, .unset, .unset, .unset] [(.int j7)])) t → Steps p.tables e below (s₁.setTop (entryFrame m #[(.int p0), (.int p1), (.int p2), (.int p3)] maxLocals)) t := by
    by_cases hc6 : (p3 &&& (2 : Int32)) = (0 : Int32)
    · exact ⟨(0 : Int32), (by rw [if_pos hc6]), fun t k => pre5 t (by
        show Steps p.tables e below (s₁.setTop (mkF m 16 #[.val (.int p0), .val (.int p1), .val (.int p2), .val (.int p3), .val (.int j3), .unset, .unset, .unset, .unset] [(.int (p3 &&& (2 : Int32)))])) _
        refine XS.ifYes X0.here hx rfl (pc0 := 16) (pc' := 23) rfl (hb hby at_16) rfl ((if0 _ _).trans (teq hc6).1) (by decide) (by decide) ?_
        show Steps p.tables e below (s₁.setTop (mkF m 23 #[.val (.int p0), .val (.int p1), .val (.int p2), .val (.int p3), .val (.int j3), .unset, .unset, .unset, .unset] [])) _
        refine XS.iconst X0.here hx rfl (hb hby at_23) ?_
        exact k)⟩
    · exact ⟨(1 : Int32), (by rw [if_neg hc6]), fun t k => pre5 t (by
        show Steps p.tables e below (s₁.setTop (mkF m 16 #[.val (.int p0), .val (.int p1), .val (.int p2), .val (.int p3), .val (.int j3), .unset, .unset, .unset, .unset] [(.int (p3 &&& (2 : Int32)))])) _
        refine XS.ifNo X0.here hx rfl (hb hby at_16) rfl ((if0 _ _).trans (feq hc6).1) ?_
        show Steps p.tables e below (s₁.setTop (mkF m 19 #[.val (.int p0), .val (.int p1), .val (.int p2), .val (.int p3), .val (.int j3), .unset, .unset, .unset, .unset] [])) _
        refine XS.iconst X0.here hx rfl (hb hby at_19) ?_
        show Steps p.tables e below (s₁.setTop (mkF m 20 #[.val (.int p0), .val (.int p1), .val (.int p2), .val (.int p3), .val (.int j3), .unset, .unset, .unset, .unset] [(.int (1 : Int32))])) _
        refine XS.goto X0.here hx rfl (pc0 := 20) (pc' := 24) rfl (hb hby at_20) (by decide) (by decide) ?_
        exact k)⟩
  have pre9 : ∀ t, Steps p.tables e below (s₁.setTop (mkF m 29 #[.val (.int p0), .val (.int p1), .val (.int p2), .val (.int p3), .val (.int j3), .val (.int j7), .unset, .unset, .unset] [(.int (p3 &&& (4 : Int32)))])) t → Steps p.tables e below (s₁.setTop (entryFrame m #[(.int p0), (.int p1), (.int p2), (.int p3)] maxLocals)) t := fun t k => pre8 t (by
    show Steps p.tables e below (s₁.setTop (mkF m 24 #[.val (.int p0), .val (.int p1), .val (.int p2), .val (.int p3), .val (.int j3), .unset, .unset, .unset, .unset] [(.int j7)])) _
    refine XS.istore X0.here hx rfl (hb hby at_24) rfl (l' := #[.val (.int p0), .val (.int p1), .val (.int p2), .val (.int p3), .val (.int j3), .val (.int j7), .unset, .unset, .unset]) rfl ?_
    show Steps p.tables e below (s₁.setTop (mkF m 26 #[.val (.int p0), .val (.int p1), .val (.int p2), .val (.int p3), .val (.int j3), .val (.int j7), .unset, .unset, .unset] [])) _
    refine XS.iloadN X0.here hx rfl (hb hby at_26) rfl ?_
    show Steps p.tables e below (s₁.setTop (mkF m 27 #[.val (.int p0), .val (.int p1), .val (.int p2), .val (.int p3), .val (.int j3), .val (.int j7), .unset, .unset, .unset] [(.int p3)])) _
    refine XS.iconst X0.here hx rfl (hb hby at_27) ?_
    show Steps p.tables e below (s₁.setTop (mkF m 28 #[.val (.int p0), .val (.int p1), .val (.int p2), .val (.int p3), .val (.int j3), .val (.int j7), .unset, .unset, .unset] [(.int (4 : Int32)), (.int p3)])) _
    refine XS.iand X0.here hx rfl (hb hby at_28) rfl ?_
    exact k)
  obtain ⟨j11, hj11, pre12⟩ : ∃ (j11 : Int32), j11 = (if (p3 &&& (4 : Int32)) = (0 : Int32) then (0 : Int32) else (1 : Int32)) ∧ ∀ t, Steps p.tables e below (s₁.setTop (mkF m 37 #[.val (.int p0), .val (.int p1), .val (.int p2), .val (.int p3), .val (.int j3), .val (.int j7), .unset, .unset, .unset] [(.int j11)])) t → Steps p.tables e below (s₁.setTop (entryFrame m #[(.int p0), (.int p1), (.int p2), (.int p3)] maxLocals)) t := by
    by_cases hc10 : (p3 &&& (4 : Int32)) = (0 : Int32)
    · exact ⟨(0 : Int32), (by rw [if_pos hc10]), fun t k => pre9 t (by
        show Steps p.tables e below (s₁.setTop (mkF m 29 #[.val (.int p0), .val (.int p1), .val (.int p2), .val (.int p3), .val (.int j3), .val (.int j7), .unset, .unset, .unset] [(.int (p3 &&& (4 : Int32)))])) _
        refine XS.ifYes X0.here hx rfl (pc0 := 29) (pc' := 36) rfl (hb hby at_29) rfl ((if0 _ _).trans (teq hc10).1) (by decide) (by decide) ?_
        show Steps p.tables e below (s₁.setTop (mkF m 36 #[.val (.int p0), .val (.int p1), .val (.int p2), .val (.int p3), .val (.int j3), .val (.int j7), .unset, .unset, .unset] [])) _
        refine XS.iconst X0.here hx rfl (hb hby at_36) ?_
        exact k)⟩
    · exact ⟨(1 : Int32), (by rw [if_neg hc10]), fun t k => pre9 t (by
        show Steps p.tables e below (s₁.setTop (mkF m 29 #[.val (.int p0), .val (.int p1), .val (.int p2), .val (.int p3), .val (.int j3), .val (.int j7), .unset, .unset, .unset] [(.int (p3 &&& (4 : Int32)))])) _
        refine XS.ifNo X0.here hx rfl (hb hby at_29) rfl ((if0 _ _).trans (feq hc10).1) ?_
        show Steps p.tables e below (s₁.setTop (mkF m 32 #[.val (.int p0), .val (.int p1), .val (.int p2), .val (.int p3), .val (.int j3), .val (.int j7), .unset, .unset, .unset] [])) _
        refine XS.iconst X0.here hx rfl (hb hby at_32) ?_
        show Steps p.tables e below (s₁.setTop (mkF m 33 #[.val (.int p0), .val (.int p1), .val (.int p2), .val (.int p3), .val (.int j3), .val (.int j7), .unset, .unset, .unset] [(.int (1 : Int32))])) _
        refine XS.goto X0.here hx rfl (pc0 := 33) (pc' := 37) rfl (hb hby at_33) (by decide) (by decide) ?_
        exact k)⟩
  have pre13 : ∀ t, Steps p.tables e below (s₁.setTop (mkF m 48 #[.val (.int p0), .val (.int p1), .val (.int p2), .val (.int p3), .val (.int j3), .val (.int j7), .val (.int j11), .unset, .unset] [(.int j11), (.int j7), (.int j3), (.int p2), (.int p1), (.int p0)])) t → Steps p.tables e below (s₁.setTop (entryFrame m #[(.int p0), (.int p1), (.int p2), (.int p3)] maxLocals)) t := fun t k => pre12 t (by
    show Steps p.tables e below (s₁.setTop (mkF m 37 #[.val (.int p0), .val (.int p1), .val (.int p2), .val (.int p3), .val (.int j3), .val (.int j7), .unset, .unset, .unset] [(.int j11)])) _
    refine XS.istore X0.here hx rfl (hb hby at_37) rfl (l' := #[.val (.int p0), .val (.int p1), .val (.int p2), .val (.int p3), .val (.int j3), .val (.int j7), .val (.int j11), .unset, .unset]) rfl ?_
    show Steps p.tables e below (s₁.setTop (mkF m 39 #[.val (.int p0), .val (.int p1), .val (.int p2), .val (.int p3), .val (.int j3), .val (.int j7), .val (.int j11), .unset, .unset] [])) _
    refine XS.iloadN X0.here hx rfl (hb hby at_39) rfl ?_
    show Steps p.tables e below (s₁.setTop (mkF m 40 #[.val (.int p0), .val (.int p1), .val (.int p2), .val (.int p3), .val (.int j3), .val (.int j7), .val (.int j11), .unset, .unset] [(.int p0)])) _
    refine XS.iloadN X0.here hx rfl (hb hby at_40) rfl ?_
    show Steps p.tables e below (s₁.setTop (mkF m 41 #[.val (.int p0), .val (.int p1), .val (.int p2), .val (.int p3), .val (.int j3), .val (.int j7), .val (.int j11), .unset, .unset] [(.int p1), (.int p0)])) _
    refine XS.iloadN X0.here hx rfl (hb hby at_41) rfl ?_
    show Steps p.tables e below (s₁.setTop (mkF m 42 #[.val (.int p0), .val (.int p1), .val (.int p2), .val (.int p3), .val (.int j3), .val (.int j7), .val (.int j11), .unset, .unset] [(.int p2), (.int p1), (.int p0)])) _
    refine XS.iload X0.here hx rfl (hb hby at_42) rfl ?_
    show Steps p.tables e below (s₁.setTop (mkF m 44 #[.val (.int p0), .val (.int p1), .val (.int p2), .val (.int p3), .val (.int j3), .val (.int j7), .val (.int j11), .unset, .unset] [(.int j3), (.int p2), (.int p1), (.int p0)])) _
    refine XS.iload X0.here hx rfl (hb hby at_44) rfl ?_
    show Steps p.tables e below (s₁.setTop (mkF m 46 #[.val (.int p0), .val (.int p1), .val (.int p2), .val (.int p3), .val (.int j3), .val (.int j7), .val (.int j11), .unset, .unset] [(.int j7), (.int j3), (.int p2), (.int p1), (.int p0)])) _
    refine XS.iload X0.here hx rfl (hb hby at_46) rfl ?_
    exact k)
  obtain ⟨_, _, ⟨T14, L14, k14, n14⟩, -, X14, ⟨Lc14, hQ14, l14, y14, z14⟩, st14⟩ := Jvm.LawKit.callS X0 hx (y := (⟨"com/example/tercet/tercet/Situation", "of", "(IIIZZZ)Lcom/example/tercet/tercet/Situation;"⟩ : MethodName)) hown (mvT hZ (hw _ (List.mem_of_getElem? (i := 0) rfl))) (mvT hZ (hw _ (List.mem_of_getElem? (i := 1) rfl))) (mvT hZ (hw _ (List.mem_of_getElem? (i := 2) rfl))) (mvT hZ (hw _ (List.mem_of_getElem? (i := 3) rfl))) (by decide) (backOf (W := 0) (rm1 l Z aw hw [] p0 p1 p2 j3 j7 j11 w_UNCHANGED w_INSERT_BY_THEIRS w_DELETE_BY_THEIRS w_CHANGE_BY_THEIRS w_INSERT_BY_OURS w_DELETE_BY_OURS w_CHANGE_BY_OURS w_BOTH_INSERTED w_DELETED_BY_OURS_CHANGED_BY_THEIRS w_CHANGED_BY_OURS_DELETED_BY_THEIRS w_BOTH_CHANGED w_SAME_INSERTION w_SAME_DELETION w_SAME_CHANGE h0 n0 Z0 S_UNCHANGED S_INSERT_BY_THEIRS S_DELETE_BY_THEIRS S_CHANGE_BY_THEIRS S_INSERT_BY_OURS S_DELETE_BY_OURS S_CHANGE_BY_OURS S_BOTH_INSERTED S_DELETED_BY_OURS_CHANGED_BY_THEIRS S_CHANGED_BY_OURS_DELETED_BY_THEIRS S_BOTH_CHANGED S_SAME_INSERTION S_SAME_DELETION S_SAME_CHANGE) hZ (hw _ (List.mem_of_getElem? (i := 3) rfl)) (hw _ (List.mem_of_getElem? (i := 2) rfl)) (by decide) (by decide)) (g := (mkF m 48 #[.val (.int p0), .val (.int p1), .val (.int p2), .val (.int p3), .val (.int j3), .val (.int j7), .val (.int j11), .unset, .unset] [(.int j11), (.int j7), (.int j3), (.int p2), (.int p1), (.int p0)])) rfl (by rw [hml]; rfl) (argsL := [(.int p0), (.int p1), (.int p2), (.int j3), (.int j7), (.int j11)]) (rest := []) (lenOf pd_0 rfl) rfl (by show 2 * 0 + _ ≤ _; exact Nat.le_of_eq rfl) (hb hby at_48) (fun _ _ => ⟨rfl, e0, (by decide : 0 + 0 ≤ _), (by decide : 0 + 0 ≤ _)⟩)
  dsimp only [Pt.U, Pt.locs, Pt.cells, Pt.slots] at X14 l14 y14 z14 st14 hQ14
  subst l14 y14 z14
  obtain ⟨rfl, N14q, e14⟩ := hQ14
  have N14 := Fr.app N0 N14q
  have pre15 : ∀ t, Steps p.tables e below (T14.setTop (mkF m 51 #[.val (.int p0), .val (.int p1), .val (.int p2), .val (.int p3), .val (.int j3), .val (.int j7), .val (.int j11), .unset, .unset] [(.ref (f1 p0 p1 p2 j3 j7 j11 w_UNCHANGED w_INSERT_BY_THEIRS w_DELETE_BY_THEIRS w_CHANGE_BY_THEIRS w_INSERT_BY_OURS w_DELETE_BY_OURS w_CHANGE_BY_OURS w_BOTH_INSERTED w_DELETED_BY_OURS_CHANGED_BY_THEIRS w_CHANGED_BY_OURS_DELETED_BY_THEIRS w_BOTH_CHANGED w_SAME_INSERTION w_SAME_DELETION w_SAME_CHANGE))])) t → Steps p.tables e below (s₁.setTop (entryFrame m #[(.int p0), (.int p1), (.int p2), (.int p3)] maxLocals)) t := fun t k => pre13 t (by
    show Steps p.tables e below (s₁.setTop (mkF m 48 #[.val (.int p0), .val (.int p1), .val (.int p2), .val (.int p3), .val (.int j3), .val (.int j7), .val (.int j11), .unset, .unset] [(.int j11), (.int j7), (.int j3), (.int p2), (.int p1), (.int p0)])) _
    refine st14 _ ?_
    exact k)
  obtain ⟨v16, hv16⟩ : ∃ z : Addr, z = (f1 p0 p1 p2 j3 j7 j11 w_UNCHANGED w_INSERT_BY_THEIRS w_DELETE_BY_THEIRS w_CHANGE_BY_THEIRS w_INSERT_BY_OURS w_DELETE_BY_OURS w_CHANGE_BY_OURS w_BOTH_INSERTED w_DELETED_BY_OURS_CHANGED_BY_THEIRS w_CHANGED_BY_OURS_DELETED_BY_THEIRS w_BOTH_CHANGED w_SAME_INSERTION w_SAME_DELETION w_SAME_CHANGE) := ⟨_, rfl⟩
  have pre17 : ∀ t, Steps p.tables e below (T14.setTop (mkF m 51 #[.val (.int p0), .val (.int p1), .val (.int p2), .val (.int p3), .val (.int j3), .val (.int j7), .val (.int j11), .unset, .unset] [(.ref v16)])) t → Steps p.tables e below (s₁.setTop (entryFrame m #[(.int p0), (.int p1), (.int p2), (.int p3)] maxLocals)) t := fun t k => pre15 t (by rw [hv16] at k; exact k)
  have pre18 : ∀ t, Steps p.tables e below (T14.setTop (mkF m 53 #[.val (.int p0), .val (.int p1), .val (.int p2), .val (.int p3), .val (.int j3), .val (.int j7), .val (.int j11), .val (.ref v16), .unset] [])) t → Steps p.tables e below (s₁.setTop (entryFrame m #[(.int p0), (.int p1), (.int p2), (.int p3)] maxLocals)) t := fun t k => pre17 t (by
    show Steps p.tables e below (T14.setTop (mkF m 51 #[.val (.int p0), .val (.int p1), .val (.int p2), .val (.int p3), .val (.int j3), .val (.int j7), .val (.int j11), .unset, .unset] [(.ref v16)])) _
    refine XS.astore X14.here hx rfl (hb hby at_51) rfl rfl (l' := #[.val (.int p0), .val (.int p1), .val (.int p2), .val (.int p3), .val (.int j3), .val (.int j7), .val (.int j11), .val (.ref v16), .unset]) rfl ?_
    exact k)
  have E_v16 : Exa Z h0 v16 "com/example/tercet/tercet/Situation" := by rw [hv16]; exact own_of (P := fun z => Exa Z h0 z "com/example/tercet/tercet/Situation") _ _ _ _ _ _ _ _ _ _ _ _ _ _ _ _ _ _ _ _ E_w_UNCHANGED E_w_INSERT_BY_THEIRS E_w_DELETE_BY_THEIRS E_w_CHANGE_BY_THEIRS E_w_INSERT_BY_OURS E_w_DELETE_BY_OURS E_w_CHANGE_BY_OURS E_w_BOTH_INSERTED E_w_DELETED_BY_OURS_CHANGED_BY_THEIRS E_w_CHANGED_BY_OURS_DELETED_BY_THEIRS E_w_BOTH_CHANGED E_w_SAME_INSERTION E_w_SAME_DELETION E_w_SAME_CHANGE
  have pre19 : ∀ t, Steps p.tables e below (T14.setTop (mkF m 55 #[.val (.int p0), .val (.int p1), .val (.int p2), .val (.int p3), .val (.int j3), .val (.int j7), .val (.int j11), .val (.ref v16), .unset] [(.int j3)])) t → Steps p.tables e below (s₁.setTop (entryFrame m #[(.int p0), (.int p1), (.int p2), (.int p3)] maxLocals)) t := fun t k => pre18 t (by
    show Steps p.tables e below (T14.setTop (mkF m 53 #[.val (.int p0), .val (.int p1), .val (.int p2), .val (.int p3), .val (.int j3), .val (.int j7), .val (.int j11), .val (.ref v16), .unset] [])) _
    refine XS.iload X14.here hx rfl (hb hby at_53) rfl ?_
    exact k)
  obtain ⟨j25, hj25, pre26⟩ : ∃ (j25 : Int32), j25 = (if j3 = (0 : Int32) then (0 : Int32) else (if j7 = (0 : Int32) then (0 : Int32) else (if j11 = (0 : Int32) then (0 : Int32) else (1 : Int32)))) ∧ ∀ t, Steps p.tables e below (T14.setTop (mkF m 73 #[.val (.int p0), .val (.int p1), .val (.int p2), .val (.int p3), .val (.int j3), .val (.int j7), .val (.int j11), .val (.ref v16), .unset] [(.int j25)])) t → Steps p.tables e below (s₁.setTop (entryFrame m #[(.int p0), (.int p1), (.int p2), (.int p3)] maxLocals)) t := by
    by_cases hc20 : j3 = (0 : Int32)
    · exact ⟨(0 : Int32), (by rw [if_pos hc20]), fun t k => pre19 t (by
        show Steps p.tables e below (T14.setTop (mkF m 55 #[.val (.int p0), .val (.int p1), .val (.int p2), .val (.int p3), .val (.int j3), .val (.int j7), .val (.int j11), .val (.ref v16), .unset] [(.int j3)])) _
        refine XS.ifYes X14.here hx rfl (pc0 := 55) (pc' := 72) rfl (hb hby at_55) rfl ((if0 _ _).trans (teq hc20).1) (by decide) (by decide) ?_
        show Steps p.tables e below (T14.setTop (mkF m 72 #[.val (.int p0), .val (.int p1), .val (.int p2), .val (.int p3), .val (.int j3), .val (.int j7), .val (.int j11), .val (.ref v16), .unset] [])) _
        refine XS.iconst X14.here hx rfl (hb hby at_72) ?_
        exact k)⟩
    · have pre21 : ∀ t, Steps p.tables e below (T14.setTop (mkF m 60 #[.val (.int p0), .val (.int p1), .val (.int p2), .val (.int p3), .val (.int j3), .val (.int j7), .val (.int j11), .val (.ref v16), .unset] [(.int j7)])) t → Steps p.tables e below (s₁.setTop (entryFrame m #[(.int p0), (.int p1), (.int p2), (.int p3)] maxLocals)) t := fun t k => pre19 t (by
        show Steps p.tables e below (T14.setTop (mkF m 55 #[.val (.int p0), .val (.int p1), .val (.int p2), .val (.int p3), .val (.int j3), .val (.int j7), .val (.int j11), .val (.ref v16), .unset] [(.int j3)])) _
        refine XS.ifNo X14.here hx rfl (hb hby at_55) rfl ((if0 _ _).trans (feq hc20).1) ?_
        show Steps p.tables e below (T14.setTop (mkF m 58 #[.val (.int p0), .val (.int p1), .val (.int p2), .val (.int p3), .val (.int j3), .val (.int j7), .val (.int j11), .val (.ref v16), .unset] [])) _
        refine XS.iload X14.here hx rfl (hb hby at_58) rfl ?_
        exact k)
      by_cases hc22 : j7 = (0 : Int32)
      · exact ⟨(0 : Int32), (by rw [if_neg hc20, if_pos hc22]), fun t k => pre21 t (by
          show Steps p.tables e below (T14.setTop (mkF m 60 #[.val (.int p0), .val (.int p1), .val (.int p2), .val (.int p3), .val (.int j3), .val (.int j7), .val (.int j11), .val (.ref v16), .unset] [(.int j7)])) _
          refine XS.ifYes X14.here hx rfl (pc0 := 60) (pc' := 72) rfl (hb hby at_60) rfl ((if0 _ _).trans (teq hc22).1) (by decide) (by decide) ?_
          show Steps p.tables e below (T14.setTop (mkF m 72 #[.val (.int p0), .val (.int p1), .val (.int p2), .val (.int p3), .val (.int j3), .val (.int j7), .val (.int j11), .val (.ref v16), .unset] [])) _
          refine XS.iconst X14.here hx rfl (hb hby at_72) ?_
          exact k)⟩
      · have pre23 : ∀ t, Steps p.tables e below (T14.setTop (mkF m 65 #[.val (.int p0), .val (.int p1), .val (.int p2), .val (.int p3), .val (.int j3), .val (.int j7), .val (.int j11), .val (.ref v16), .unset] [(.int j11)])) t → Steps p.tables e below (s₁.setTop (entryFrame m #[(.int p0), (.int p1), (.int p2), (.int p3)] maxLocals)) t := fun t k => pre21 t (by
          show Steps p.tables e below (T14.setTop (mkF m 60 #[.val (.int p0), .val (.int p1), .val (.int p2), .val (.int p3), .val (.int j3), .val (.int j7), .val (.int j11), .val (.ref v16), .unset] [(.int j7)])) _
          refine XS.ifNo X14.here hx rfl (hb hby at_60) rfl ((if0 _ _).trans (feq hc22).1) ?_
          show Steps p.tables e below (T14.setTop (mkF m 63 #[.val (.int p0), .val (.int p1), .val (.int p2), .val (.int p3), .val (.int j3), .val (.int j7), .val (.int j11), .val (.ref v16), .unset] [])) _
          refine XS.iload X14.here hx rfl (hb hby at_63) rfl ?_
          exact k)
        by_cases hc24 : j11 = (0 : Int32)
        · exact ⟨(0 : Int32), (by rw [if_neg hc20, if_neg hc22, if_pos hc24]), fun t k => pre23 t (by
            show Steps p.tables e below (T14.setTop (mkF m 65 #[.val (.int p0), .val (.int p1), .val (.int p2), .val (.int p3), .val (.int j3), .val (.int j7), .val (.int j11), .val (.ref v16), .unset] [(.int j11)])) _
            refine XS.ifYes X14.here hx rfl (pc0 := 65) (pc' := 72) rfl (hb hby at_65) rfl ((if0 _ _).trans (teq hc24).1) (by decide) (by decide) ?_
            show Steps p.tables e below (T14.setTop (mkF m 72 #[.val (.int p0), .val (.int p1), .val (.int p2), .val (.int p3), .val (.int j3), .val (.int j7), .val (.int j11), .val (.ref v16), .unset] [])) _
            refine XS.iconst X14.here hx rfl (hb hby at_72) ?_
            exact k)⟩
        · exact ⟨(1 : Int32), (by rw [if_neg hc20, if_neg hc22, if_neg hc24]), fun t k => pre23 t (by
            show Steps p.tables e below (T14.setTop (mkF m 65 #[.val (.int p0), .val (.int p1), .val (.int p2), .val (.int p3), .val (.int j3), .val (.int j7), .val (.int j11), .val (.ref v16), .unset] [(.int j11)])) _
            refine XS.ifNo X14.here hx rfl (hb hby at_65) rfl ((if0 _ _).trans (feq hc24).1) ?_
            show Steps p.tables e below (T14.setTop (mkF m 68 #[.val (.int p0), .val (.int p1), .val (.int p2), .val (.int p3), .val (.int j3), .val (.int j7), .val (.int j11), .val (.ref v16), .unset] [])) _
            refine XS.iconst X14.here hx rfl (hb hby at_68) ?_
            show Steps p.tables e below (T14.setTop (mkF m 69 #[.val (.int p0), .val (.int p1), .val (.int p2), .val (.int p3), .val (.int j3), .val (.int j7), .val (.int j11), .val (.ref v16), .unset] [(.int (1 : Int32))])) _
            refine XS.goto X14.here hx rfl (pc0 := 69) (pc' := 73) rfl (hb hby at_69) (by decide) (by decide) ?_
            exact k)⟩
  have pre27 : ∀ t, Steps p.tables e below (T14.setTop (mkF m 77 #[.val (.int p0), .val (.int p1), .val (.int p2), .val (.int p3), .val (.int j3), .val (.int j7), .val (.int j11), .val (.ref v16), .val (.int j25)] [(.ref v16)])) t → Steps p.tables e below (s₁.setTop (entryFrame m #[(.int p0), (.int p1), (.int p2), (.int p3)] maxLocals)) t := fun t k => pre26 t (by
    show Steps p.tables e below (T14.setTop (mkF m 73 #[.val (.int p0), .val (.int p1), .val (.int p2), .val (.int p3), .val (.int j3), .val (.int j7), .val (.int j11), .val (.ref v16), .unset] [(.int j25)])) _
    refine XS.istore X14.here hx rfl (hb hby at_73) rfl (l' := #[.val (.int p0), .val (.int p1), .val (.int p2), .val (.int p3), .val (.int j3), .val (.int j7), .val (.int j11), .val (.ref v16), .val (.int j25)]) rfl ?_
    show Steps p.tables e below (T14.setTop (mkF m 75 #[.val (.int p0), .val (.int p1), .val (.int p2), .val (.int p3), .val (.int j3), .val (.int j7), .val (.int j11), .val (.ref v16), .val (.int j25)] [])) _
    refine XS.aload X14.here hx rfl (hb hby at_75) rfl rfl ?_
    exact k)
  obtain ⟨cq28, kq28, q28a, q28b, q28c⟩ := isOf hZ e14 E_v16
  obtain ⟨_, _, ⟨T28, L28, k28, n28⟩, -, X28, ⟨Lc28, hQ28, l28, y28, z28⟩, st28⟩ := X14.virtualBack hx (y := (⟨"com/example/tercet/tercet/Situation", "isConvergent", "()Z"⟩ : MethodName)) (z := (⟨"com/example/tercet/tercet/Situation", "isConvergent", "()Z"⟩ : MethodName)) hown (mvT hZ (hw _ (List.mem_of_getElem? (i := 13) rfl))) (mvT hZ (hw _ (List.mem_of_getElem? (i := 14) rfl))) (notFace_of_selects (args := #[]) (mvT hZ (hw _ (List.mem_of_getElem? (i := 16) rfl)))) (mvT hZ (hw _ (List.mem_of_getElem? (i := 16) rfl))) (mvT hZ (hw _ (List.mem_of_getElem? (i := 15) rfl))) (by decide) (backOf (W := 0) (rm3 l Z aw hw [] v16 w_SAME_INSERTION w_SAME_CHANGE w_SAME_DELETION h0 n0 Z0 S_SAME_INSERTION S_SAME_CHANGE S_SAME_DELETION) hZ (hw _ (List.mem_of_getElem? (i := 17) rfl)) (hw _ (List.mem_of_getElem? (i := 2) rfl)) (by decide) (by decide)) q28a q28c (g := (mkF m 77 #[.val (.int p0), .val (.int p1), .val (.int p2), .val (.int p3), .val (.int j3), .val (.int j7), .val (.int j11), .val (.ref v16), .val (.int j25)] [(.ref v16)])) rfl (by rw [hml]; rfl) (Steps.refl _) (argsL := []) (rest := []) (lenOf pd_2 rfl) rfl (by show 2 * 0 + _ ≤ _; exact Nat.le_of_eq rfl) (hb hby at_77) (fun _ _ => ⟨rfl, e14, (by decide : 0 + 0 ≤ _), (by decide : 0 + 0 ≤ _)⟩)
  dsimp only [Pt.U, Pt.locs, Pt.cells, Pt.slots] at X28 l28 y28 z28 st28 hQ28
  subst l28 y28 z28
  obtain ⟨rfl, N28q, e28⟩ := hQ28
  have N28 := Fr.app N14 N28q
  have pre29 : ∀ t, Steps p.tables e below (T28.setTop (mkF m 82 #[.val (.int p0), .val (.int p1), .val (.int p2), .val (.int p3), .val (.int j3), .val (.int j7), .val (.int j11), .val (.ref v16), .val (.int j25)] [(.int j25), (.int (f3 v16 w_SAME_INSERTION w_SAME_CHANGE w_SAME_DELETION))])) t → Steps p.tables e below (s₁.setTop (entryFrame m #[(.int p0), (.int p1), (.int p2), (.int p3)] maxLocals)) t := fun t k => pre27 t (by
    show Steps p.tables e below (T14.setTop (mkF m 77 #[.val (.int p0), .val (.int p1), .val (.int p2), .val (.int p3), .val (.int j3), .val (.int j7), .val (.int j11), .val (.ref v16), .val (.int j25)] [(.ref v16)])) _
    refine st28.trans ?_
    show Steps p.tables e below (T28.setTop (mkF m 80 #[.val (.int p0), .val (.int p1), .val (.int p2), .val (.int p3), .val (.int j3), .val (.int j7), .val (.int j11), .val (.ref v16), .val (.int j25)] [(.int (f3 v16 w_SAME_INSERTION w_SAME_CHANGE w_SAME_DELETION))])) _
    refine XS.iload X28.here hx rfl (hb hby at_80) rfl ?_
    exact k)
  obtain ⟨j31, hj31, pre32⟩ : ∃ (j31 : Int32), j31 = (if (f3 v16 w_SAME_INSERTION w_SAME_CHANGE w_SAME_DELETION) = j25 then (1 : Int32) else (0 : Int32)) ∧ ∀ t, Steps p.tables e below (T28.setTop (mkF m 90 #[.val (.int p0), .val (.int p1), .val (.int p2), .val (.int p3), .val (.int j3), .val (.int j7), .val (.int j11), .val (.ref v16), .val (.int j25)] [(.int j31)])) t → Steps p.tables e below (s₁.setTop (entryFrame m #[(.int p0), (.int p1), (.int p2), (.int p3)] maxLocals)) t := by
    by_cases hc30 : (f3 v16 w_SAME_INSERTION w_SAME_CHANGE w_SAME_DELETION) = j25
    · exact ⟨(1 : Int32), (by rw [if_pos hc30]), fun t k => pre29 t (by
        show Steps p.tables e below (T28.setTop (mkF m 82 #[.val (.int p0), .val (.int p1), .val (.int p2), .val (.int p3), .val (.int j3), .val (.int j7), .val (.int j11), .val (.ref v16), .val (.int j25)] [(.int j25), (.int (f3 v16 w_SAME_INSERTION w_SAME_CHANGE w_SAME_DELETION))])) _
        refine XS.icmpNo X28.here hx rfl (hb hby at_82) rfl (teq hc30).2 ?_
        show Steps p.tables e below (T28.setTop (mkF m 85 #[.val (.int p0), .val (.int p1), .val (.int p2), .val (.int p3), .val (.int j3), .val (.int j7), .val (.int j11), .val (.ref v16), .val (.int j25)] [])) _
        refine XS.iconst X28.here hx rfl (hb hby at_85) ?_
        show Steps p.tables e below (T28.setTop (mkF m 86 #[.val (.int p0), .val (.int p1), .val (.int p2), .val (.int p3), .val (.int j3), .val (.int j7), .val (.int j11), .val (.ref v16), .val (.int j25)] [(.int (1 : Int32))])) _
        refine XS.goto X28.here hx rfl (pc0 := 86) (pc' := 90) rfl (hb hby at_86) (by decide) (by decide) ?_
        exact k)⟩
    · exact ⟨(0 : Int32), (by rw [if_neg hc30]), fun t k => pre29 t (by
        show Steps p.tables e below (T28.setTop (mkF m 82 #[.val (.int p0), .val (.int p1), .val (.int p2), .val (.int p3), .val (.int j3), .val (.int j7), .val (.int j11), .val (.ref v16), .val (.int j25)] [(.int j25), (.int (f3 v16 w_SAME_INSERTION w_SAME_CHANGE w_SAME_DELETION))])) _
        refine XS.icmpYes X28.here hx rfl (pc0 := 82) (pc' := 89) rfl (hb hby at_82) rfl (feq hc30).2 (by decide) (by decide) ?_
        show Steps p.tables e below (T28.setTop (mkF m 89 #[.val (.int p0), .val (.int p1), .val (.int p2), .val (.int p3), .val (.int j3), .val (.int j7), .val (.int j11), .val (.ref v16), .val (.int j25)] [])) _
        refine XS.iconst X28.here hx rfl (hb hby at_89) ?_
        exact k)⟩
  obtain ⟨fs, hr, hrun, hended, hW, hsame⟩ := X28.leave (v := some (.int (nar .boolean j31))) (fun h => by rw [Bd.returns] at h; cases h)
  refine ⟨_, _, pre32 _ ?_, hrun, hended, _, _, rfl, ?_, ⟨_, rfl⟩, hW, hsame.mono (by decide) (by decide)⟩
  · show Steps p.tables e below (T28.setTop (mkF m 90 #[.val (.int p0), .val (.int p1), .val (.int p2), .val (.int p3), .val (.int j3), .val (.int j7), .val (.int j11), .val (.ref v16), .val (.int j25)] [(.int j31)])) _
    exact retN X28 hx (t := .boolean) Bd.returns (by simp) (hb hby at_90) hr
  · show Q0 Z p0 p1 p2 p3 w_UNCHANGED w_INSERT_BY_THEIRS w_DELETE_BY_THEIRS w_CHANGE_BY_THEIRS w_INSERT_BY_OURS w_DELETE_BY_OURS w_CHANGE_BY_OURS w_BOTH_INSERTED w_DELETED_BY_OURS_CHANGED_BY_THEIRS w_CHANGED_BY_OURS_DELETED_BY_THEIRS w_BOTH_CHANGED w_SAME_INSERTION w_SAME_DELETION w_SAME_CHANGE h0 n0 _ T28.heap _
    rw [e28]
    have hv : (nar .boolean j31) = f0 p0 p1 p2 p3 w_UNCHANGED w_INSERT_BY_THEIRS w_DELETE_BY_THEIRS w_CHANGE_BY_THEIRS w_INSERT_BY_OURS w_DELETE_BY_OURS w_CHANGE_BY_OURS w_BOTH_INSERTED w_DELETED_BY_OURS_CHANGED_BY_THEIRS w_CHANGED_BY_OURS_DELETED_BY_THEIRS w_BOTH_CHANGED w_SAME_INSERTION w_SAME_DELETION w_SAME_CHANGE := (by subst hj31 hj25 hv16 hj11 hj7 hj3; rfl)
    exact ⟨congrArg (fun z => some (Value.int z)) (hv.trans hlaw), N28⟩
theorem own_law (p0 : Int32) (p1 : Int32) (p2 : Int32) (p3 : Int32) (w_UNCHANGED : Addr) (w_INSERT_BY_THEIRS : Addr) (w_DELETE_BY_THEIRS : Addr) (w_CHANGE_BY_THEIRS : Addr) (w_INSERT_BY_OURS : Addr) (w_DELETE_BY_OURS : Addr) (w_CHANGE_BY_OURS : Addr) (w_BOTH_INSERTED : Addr) (w_DELETED_BY_OURS_CHANGED_BY_THEIRS : Addr) (w_CHANGED_BY_OURS_DELETED_BY_THEIRS : Addr) (w_BOTH_CHANGED : Addr) (w_SAME_INSERTION : Addr) (w_SAME_DELETION : Addr) (w_SAME_CHANGE : Addr) (h_UNCHANGED_SAME_INSERTION : w_UNCHANGED ≠ w_SAME_INSERTION) (h_UNCHANGED_SAME_CHANGE : w_UNCHANGED ≠ w_SAME_CHANGE) (h_UNCHANGED_SAME_DELETION : w_UNCHANGED ≠ w_SAME_DELETION) (h_INSERT_BY_THEIRS_SAME_INSERTION : w_INSERT_BY_THEIRS ≠ w_SAME_INSERTION) (h_INSERT_BY_THEIRS_SAME_CHANGE : w_INSERT_BY_THEIRS ≠ w_SAME_CHANGE) (h_INSERT_BY_THEIRS_SAME_DELETION : w_INSERT_BY_THEIRS ≠ w_SAME_DELETION) (h_DELETE_BY_THEIRS_SAME_INSERTION : w_DELETE_BY_THEIRS ≠ w_SAME_INSERTION) (h_DELETE_BY_THEIRS_SAME_CHANGE : w_DELETE_BY_THEIRS ≠ w_SAME_CHANGE) (h_DELETE_BY_THEIRS_SAME_DELETION : w_DELETE_BY_THEIRS ≠ w_SAME_DELETION) (h_CHANGE_BY_THEIRS_SAME_INSERTION : w_CHANGE_BY_THEIRS ≠ w_SAME_INSERTION) (h_CHANGE_BY_THEIRS_SAME_CHANGE : w_CHANGE_BY_THEIRS ≠ w_SAME_CHANGE) (h_CHANGE_BY_THEIRS_SAME_DELETION : w_CHANGE_BY_THEIRS ≠ w_SAME_DELETION) (h_INSERT_BY_OURS_SAME_INSERTION : w_INSERT_BY_OURS ≠ w_SAME_INSERTION) (h_INSERT_BY_OURS_SAME_CHANGE : w_INSERT_BY_OURS ≠ w_SAME_CHANGE) (h_INSERT_BY_OURS_SAME_DELETION : w_INSERT_BY_OURS ≠ w_SAME_DELETION) (h_DELETE_BY_OURS_SAME_INSERTION : w_DELETE_BY_OURS ≠ w_SAME_INSERTION) (h_DELETE_BY_OURS_SAME_CHANGE : w_DELETE_BY_OURS ≠ w_SAME_CHANGE) (h_DELETE_BY_OURS_SAME_DELETION : w_DELETE_BY_OURS ≠ w_SAME_DELETION) (h_CHANGE_BY_OURS_SAME_INSERTION : w_CHANGE_BY_OURS ≠ w_SAME_INSERTION) (h_CHANGE_BY_OURS_SAME_CHANGE : w_CHANGE_BY_OURS ≠ w_SAME_CHANGE) (h_CHANGE_BY_OURS_SAME_DELETION : w_CHANGE_BY_OURS ≠ w_SAME_DELETION) (h_BOTH_INSERTED_SAME_INSERTION : w_BOTH_INSERTED ≠ w_SAME_INSERTION) (h_BOTH_INSERTED_SAME_CHANGE : w_BOTH_INSERTED ≠ w_SAME_CHANGE) (h_BOTH_INSERTED_SAME_DELETION : w_BOTH_INSERTED ≠ w_SAME_DELETION) (h_DELETED_BY_OURS_CHANGED_BY_THEIRS_SAME_INSERTION : w_DELETED_BY_OURS_CHANGED_BY_THEIRS ≠ w_SAME_INSERTION) (h_DELETED_BY_OURS_CHANGED_BY_THEIRS_SAME_CHANGE : w_DELETED_BY_OURS_CHANGED_BY_THEIRS ≠ w_SAME_CHANGE) (h_DELETED_BY_OURS_CHANGED_BY_THEIRS_SAME_DELETION : w_DELETED_BY_OURS_CHANGED_BY_THEIRS ≠ w_SAME_DELETION) (h_CHANGED_BY_OURS_DELETED_BY_THEIRS_SAME_INSERTION : w_CHANGED_BY_OURS_DELETED_BY_THEIRS ≠ w_SAME_INSERTION) (h_CHANGED_BY_OURS_DELETED_BY_THEIRS_SAME_CHANGE : w_CHANGED_BY_OURS_DELETED_BY_THEIRS ≠ w_SAME_CHANGE) (h_CHANGED_BY_OURS_DELETED_BY_THEIRS_SAME_DELETION : w_CHANGED_BY_OURS_DELETED_BY_THEIRS ≠ w_SAME_DELETION) (h_BOTH_CHANGED_SAME_INSERTION : w_BOTH_CHANGED ≠ w_SAME_INSERTION) (h_BOTH_CHANGED_SAME_CHANGE : w_BOTH_CHANGED ≠ w_SAME_CHANGE) (h_BOTH_CHANGED_SAME_DELETION : w_BOTH_CHANGED ≠ w_SAME_DELETION) : f0 p0 p1 p2 p3 w_UNCHANGED w_INSERT_BY_THEIRS w_DELETE_BY_THEIRS w_CHANGE_BY_THEIRS w_INSERT_BY_OURS w_DELETE_BY_OURS w_CHANGE_BY_OURS w_BOTH_INSERTED w_DELETED_BY_OURS_CHANGED_BY_THEIRS w_CHANGED_BY_OURS_DELETED_BY_THEIRS w_BOTH_CHANGED w_SAME_INSERTION w_SAME_DELETION w_SAME_CHANGE = 1 := by
  have n1 : ¬ ((1 : Int32) = 0) := by decide
  have nb0 : nar .boolean 0 = 0 := rfl
  have nb1 : nar .boolean 1 = 1 := rfl
  unfold f0 f1 f2 f3
  dsimp only
  by_cases a : (p3 &&& (1 : Int32)) = (0 : Int32) <;> by_cases b : (p3 &&& (2 : Int32)) = (0 : Int32) <;> by_cases c : (p3 &&& (4 : Int32)) = (0 : Int32) <;> by_cases d : p0 = 0 <;> by_cases e : p1 = 0 <;> by_cases g : p2 = 0 <;> simp [*] <;> (repeat' split) <;> first | rfl | (simp_all; done)

set_option maxRecDepth 65536 in
set_option maxHeartbeats 40000000 in
theorem comes_1 {Post : Tables → Env → Array Value → State → Outcome → State → Prop} (hpost : ∀ tb e args s v u, (limb_1_1.after args s (.returned v) u = true ∧ limb_1_2.after args s (.returned v) u = true ∧ True) → FrameEnd s (.returned v) u (Jvm.fieldLocs frame_1_writes args s ++ Jvm.arrayLocs frame_1_arrays args s ++ Jvm.staticLocs frame_1_statics s) 0 0 → Post tb e args s (.returned v) u) :
    ArmFor flags0 classFile x code maxLocals ret World_1 tables_1 room_1 Calls_1 rest_1 Pre_1 Post := by
  intro l hfl _ _ p e ha hc hk s m args below hf hA hF happ hP
  obtain ⟨hcalls, hrest, hpre⟩ := hP
  obtain ⟨-, -, -, hnamed, -, -, -, hat⟩ := (Spec.applies_iff hf).mp happ
  obtain ⟨hg, hn⟩ := and_e (Cond.before_iff.mp (show (Jvm.Cond.and given_1 narrow_1).before args s = true from hpre))
  obtain ⟨g1, g2⟩ := and_e hg
  obtain ⟨g3, g4⟩ := and_e g2
  obtain ⟨g5, g6⟩ := and_e g4
  obtain ⟨g7, g8⟩ := and_e g6
  obtain ⟨w0, w1, w2, w3, rfl⟩ : ∃ w0 w1 w2 w3 : Value, args = #[w0, w1, w2, w3] := by
    have hs : args.size = 4 := by simpa [Cond.value, given_1] using g1
    obtain ⟨L⟩ := args
    match L, hs with
    | [w0, w1, w2, w3], _ => exact ⟨w0, w1, w2, w3, rfl⟩
  have hw := fun d (hd : d ∈ tables_1) => atoms_spec (ws := Jvm.Cond.code x code maxLocals ret :: tables_1) hat d (List.mem_cons_of_mem _ hd)
  have hfit : Fit s := fun {y c} hc i hi => by
    obtain ⟨ha, rfl⟩ := Array.getElem?_eq_some_iff.mp hc
    have q := List.all_eq_true.mp ((Array.all_eq_true_iff_forall_mem.mp hF) _ (Array.getElem_mem ha)) i (List.mem_range.mpr hi)
    simpa [Array.getElem?_eq_getElem hi] using q
  obtain ⟨i0, ei0⟩ := is_v g3
  obtain rfl : w0 = (.int i0) := Option.some.inj ei0
  obtain ⟨i1, ei1⟩ := is_v g5
  obtain rfl : w1 = (.int i1) := Option.some.inj ei1
  obtain ⟨i2, ei2⟩ := is_v g7
  obtain rfl : w2 = (.int i2) := Option.some.inj ei2
  obtain ⟨i3, ei3⟩ := is_v g8
  obtain rfl : w3 = (.int i3) := Option.some.inj ei3
  obtain ⟨nn1, nn2⟩ := and_e hn
  obtain ⟨nn3, nn4⟩ := and_e nn2
  obtain ⟨nn5, nn6⟩ := and_e nn4
  obtain ⟨nn7, nn8⟩ := and_e nn6
  obtain ⟨nn9, nn10⟩ := and_e nn8
  obtain ⟨nn11, nn12⟩ := and_e nn10
  obtain ⟨nn13, nn14⟩ := and_e nn12
  obtain ⟨nn15, nn16⟩ := and_e nn14
  obtain ⟨nn17, nn18⟩ := and_e nn16
  obtain ⟨nn19, nn20⟩ := and_e nn18
  obtain ⟨nn21, nn22⟩ := and_e nn20
  obtain ⟨nn23, nn24⟩ := and_e nn22
  obtain ⟨nn25, nn26⟩ := and_e nn24
  obtain ⟨nn27, nn28⟩ := and_e nn26
  obtain ⟨nn29, nn30⟩ := and_e nn28
  obtain ⟨nn31, nn32⟩ := and_e nn30
  obtain ⟨nn33, nn34⟩ := and_e nn32
  obtain ⟨nn35, nn36⟩ := and_e nn34
  obtain ⟨nn37, nn38⟩ := and_e nn36
  obtain ⟨nn39, nn40⟩ := and_e nn38
  obtain ⟨nn41, nn42⟩ := and_e nn40
  obtain ⟨nn43, nn44⟩ := and_e nn42
  obtain ⟨nn45, nn46⟩ := and_e nn44
  obtain ⟨nn47, nn48⟩ := and_e nn46
  obtain ⟨nn49, nn50⟩ := and_e nn48
  obtain ⟨nn51, nn52⟩ := and_e nn50
  obtain ⟨nn53, nn54⟩ := and_e nn52
  obtain ⟨z_INSERT_BY_OURS, ez_INSERT_BY_OURS⟩ := exa_v nn1
  have S_INSERT_BY_OURS : Sta s s.heap "com/example/tercet/tercet/Situation" "INSERT_BY_OURS" "Lcom/example/tercet/tercet/Situation;" (.ref z_INSERT_BY_OURS) := Sta.start ez_INSERT_BY_OURS (Or.inr ⟨hw _ (List.mem_of_getElem? (i := 2) rfl), hw _ (List.mem_of_getElem? (i := 5) rfl)⟩)
  have E_INSERT_BY_OURS : Exa s s.heap z_INSERT_BY_OURS "com/example/tercet/tercet/Situation" := Exa.start ez_INSERT_BY_OURS nn1
  obtain ⟨z_DELETE_BY_OURS, ez_DELETE_BY_OURS⟩ := exa_v nn3
  have S_DELETE_BY_OURS : Sta s s.heap "com/example/tercet/tercet/Situation" "DELETE_BY_OURS" "Lcom/example/tercet/tercet/Situation;" (.ref z_DELETE_BY_OURS) := Sta.start ez_DELETE_BY_OURS (Or.inr ⟨hw _ (List.mem_of_getElem? (i := 2) rfl), hw _ (List.mem_of_getElem? (i := 7) rfl)⟩)
  have E_DELETE_BY_OURS : Exa s s.heap z_DELETE_BY_OURS "com/example/tercet/tercet/Situation" := Exa.start ez_DELETE_BY_OURS nn3
  obtain ⟨z_CHANGE_BY_OURS, ez_CHANGE_BY_OURS⟩ := exa_v nn5
  have S_CHANGE_BY_OURS : Sta s s.heap "com/example/tercet/tercet/Situation" "CHANGE_BY_OURS" "Lcom/example/tercet/tercet/Situation;" (.ref z_CHANGE_BY_OURS) := Sta.start ez_CHANGE_BY_OURS (Or.inr ⟨hw _ (List.mem_of_getElem? (i := 2) rfl), hw _ (List.mem_of_getElem? (i := 9) rfl)⟩)
  have E_CHANGE_BY_OURS : Exa s s.heap z_CHANGE_BY_OURS "com/example/tercet/tercet/Situation" := Exa.start ez_CHANGE_BY_OURS nn5
  obtain ⟨z_SAME_INSERTION, ez_SAME_INSERTION⟩ := exa_v nn7
  have S_SAME_INSERTION : Sta s s.heap "com/example/tercet/tercet/Situation" "SAME_INSERTION" "Lcom/example/tercet/tercet/Situation;" (.ref z_SAME_INSERTION) := Sta.start ez_SAME_INSERTION (Or.inr ⟨hw _ (List.mem_of_getElem? (i := 2) rfl), hw _ (List.mem_of_getElem? (i := 19) rfl)⟩)
  have E_SAME_INSERTION : Exa s s.heap z_SAME_INSERTION "com/example/tercet/tercet/Situation" := Exa.start ez_SAME_INSERTION nn7
  obtain ⟨z_SAME_CHANGE, ez_SAME_CHANGE⟩ := exa_v nn13
  have S_SAME_CHANGE : Sta s s.heap "com/example/tercet/tercet/Situation" "SAME_CHANGE" "Lcom/example/tercet/tercet/Situation;" (.ref z_SAME_CHANGE) := Sta.start ez_SAME_CHANGE (Or.inr ⟨hw _ (List.mem_of_getElem? (i := 2) rfl), hw _ (List.mem_of_getElem? (i := 21) rfl)⟩)
  have E_SAME_CHANGE : Exa s s.heap z_SAME_CHANGE "com/example/tercet/tercet/Situation" := Exa.start ez_SAME_CHANGE nn13
  obtain ⟨z_SAME_DELETION, ez_SAME_DELETION⟩ := exa_v nn17
  have S_SAME_DELETION : Sta s s.heap "com/example/tercet/tercet/Situation" "SAME_DELETION" "Lcom/example/tercet/tercet/Situation;" (.ref z_SAME_DELETION) := Sta.start ez_SAME_DELETION (Or.inr ⟨hw _ (List.mem_of_getElem? (i := 2) rfl), hw _ (List.mem_of_getElem? (i := 23) rfl)⟩)
  have E_SAME_DELETION : Exa s s.heap z_SAME_DELETION "com/example/tercet/tercet/Situation" := Exa.start ez_SAME_DELETION nn17
  obtain ⟨z_INSERT_BY_THEIRS, ez_INSERT_BY_THEIRS⟩ := exa_v nn21
  have S_INSERT_BY_THEIRS : Sta s s.heap "com/example/tercet/tercet/Situation" "INSERT_BY_THEIRS" "Lcom/example/tercet/tercet/Situation;" (.ref z_INSERT_BY_THEIRS) := Sta.start ez_INSERT_BY_THEIRS (Or.inr ⟨hw _ (List.mem_of_getElem? (i := 2) rfl), hw _ (List.mem_of_getElem? (i := 25) rfl)⟩)
  have E_INSERT_BY_THEIRS : Exa s s.heap z_INSERT_BY_THEIRS "com/example/tercet/tercet/Situation" := Exa.start ez_INSERT_BY_THEIRS nn21
  obtain ⟨z_DELETE_BY_THEIRS, ez_DELETE_BY_THEIRS⟩ := exa_v nn23
  have S_DELETE_BY_THEIRS : Sta s s.heap "com/example/tercet/tercet/Situation" "DELETE_BY_THEIRS" "Lcom/example/tercet/tercet/Situation;" (.ref z_DELETE_BY_THEIRS) := Sta.start ez_DELETE_BY_THEIRS (Or.inr ⟨hw _ (List.mem_of_getElem? (i := 2) rfl), hw _ (List.mem_of_getElem? (i := 27) rfl)⟩)
  have E_DELETE_BY_THEIRS : Exa s s.heap z_DELETE_BY_THEIRS "com/example/tercet/tercet/Situation" := Exa.start ez_DELETE_BY_THEIRS nn23
  obtain ⟨z_CHANGE_BY_THEIRS, ez_CHANGE_BY_THEIRS⟩ := exa_v nn25
  have S_CHANGE_BY_THEIRS : Sta s s.heap "com/example/tercet/tercet/Situation" "CHANGE_BY_THEIRS" "Lcom/example/tercet/tercet/Situation;" (.ref z_CHANGE_BY_THEIRS) := Sta.start ez_CHANGE_BY_THEIRS (Or.inr ⟨hw _ (List.mem_of_getElem? (i := 2) rfl), hw _ (List.mem_of_getElem? (i := 29) rfl)⟩)
  have E_CHANGE_BY_THEIRS : Exa s s.heap z_CHANGE_BY_THEIRS "com/example/tercet/tercet/Situation" := Exa.start ez_CHANGE_BY_THEIRS nn25
  obtain ⟨z_UNCHANGED, ez_UNCHANGED⟩ := exa_v nn29
  have S_UNCHANGED : Sta s s.heap "com/example/tercet/tercet/Situation" "UNCHANGED" "Lcom/example/tercet/tercet/Situation;" (.ref z_UNCHANGED) := Sta.start ez_UNCHANGED (Or.inr ⟨hw _ (List.mem_of_getElem? (i := 2) rfl), hw _ (List.mem_of_getElem? (i := 31) rfl)⟩)
  have E_UNCHANGED : Exa s s.heap z_UNCHANGED "com/example/tercet/tercet/Situation" := Exa.start ez_UNCHANGED nn29
  obtain ⟨z_BOTH_INSERTED, ez_BOTH_INSERTED⟩ := exa_v nn37
  have S_BOTH_INSERTED : Sta s s.heap "com/example/tercet/tercet/Situation" "BOTH_INSERTED" "Lcom/example/tercet/tercet/Situation;" (.ref z_BOTH_INSERTED) := Sta.start ez_BOTH_INSERTED (Or.inr ⟨hw _ (List.mem_of_getElem? (i := 2) rfl), hw _ (List.mem_of_getElem? (i := 33) rfl)⟩)
  have E_BOTH_INSERTED : Exa s s.heap z_BOTH_INSERTED "com/example/tercet/tercet/Situation" := Exa.start ez_BOTH_INSERTED nn37
  obtain ⟨z_BOTH_CHANGED, ez_BOTH_CHANGED⟩ := exa_v nn41
  have S_BOTH_CHANGED : Sta s s.heap "com/example/tercet/tercet/Situation" "BOTH_CHANGED" "Lcom/example/tercet/tercet/Situation;" (.ref z_BOTH_CHANGED) := Sta.start ez_BOTH_CHANGED (Or.inr ⟨hw _ (List.mem_of_getElem? (i := 2) rfl), hw _ (List.mem_of_getElem? (i := 35) rfl)⟩)
  have E_BOTH_CHANGED : Exa s s.heap z_BOTH_CHANGED "com/example/tercet/tercet/Situation" := Exa.start ez_BOTH_CHANGED nn41
  obtain ⟨z_CHANGED_BY_OURS_DELETED_BY_THEIRS, ez_CHANGED_BY_OURS_DELETED_BY_THEIRS⟩ := exa_v nn49
  have S_CHANGED_BY_OURS_DELETED_BY_THEIRS : Sta s s.heap "com/example/tercet/tercet/Situation" "CHANGED_BY_OURS_DELETED_BY_THEIRS" "Lcom/example/tercet/tercet/Situation;" (.ref z_CHANGED_BY_OURS_DELETED_BY_THEIRS) := Sta.start ez_CHANGED_BY_OURS_DELETED_BY_THEIRS (Or.inr ⟨hw _ (List.mem_of_getElem? (i := 2) rfl), hw _ (List.mem_of_getElem? (i := 37) rfl)⟩)
  have E_CHANGED_BY_OURS_DELETED_BY_THEIRS : Exa s s.heap z_CHANGED_BY_OURS_DELETED_BY_THEIRS "com/example/tercet/tercet/Situation" := Exa.start ez_CHANGED_BY_OURS_DELETED_BY_THEIRS nn49
  obtain ⟨z_DELETED_BY_OURS_CHANGED_BY_THEIRS, ez_DELETED_BY_OURS_CHANGED_BY_THEIRS⟩ := exa_v nn53
  have S_DELETED_BY_OURS_CHANGED_BY_THEIRS : Sta s s.heap "com/example/tercet/tercet/Situation" "DELETED_BY_OURS_CHANGED_BY_THEIRS" "Lcom/example/tercet/tercet/Situation;" (.ref z_DELETED_BY_OURS_CHANGED_BY_THEIRS) := Sta.start ez_DELETED_BY_OURS_CHANGED_BY_THEIRS (Or.inr ⟨hw _ (List.mem_of_getElem? (i := 2) rfl), hw _ (List.mem_of_getElem? (i := 39) rfl)⟩)
  have E_DELETED_BY_OURS_CHANGED_BY_THEIRS : Exa s s.heap z_DELETED_BY_OURS_CHANGED_BY_THEIRS "com/example/tercet/tercet/Situation" := Exa.start ez_DELETED_BY_OURS_CHANGED_BY_THEIRS nn53
  have F_ordinal_INSERT_BY_OURS : Fld s s.heap z_INSERT_BY_OURS "java/lang/Enum" "ordinal" "I" (.int (1 : Int32)) := Fld.start ((fld_at ez_INSERT_BY_OURS).symm.trans (own_eq_int nn9))
  have F_ordinal_SAME_INSERTION : Fld s s.heap z_SAME_INSERTION "java/lang/Enum" "ordinal" "I" (.int (11 : Int32)) := Fld.start ((fld_at ez_SAME_INSERTION).symm.trans (own_eq_int nn11))
  have F_ordinal_SAME_CHANGE : Fld s s.heap z_SAME_CHANGE "java/lang/Enum" "ordinal" "I" (.int (12 : Int32)) := Fld.start ((fld_at ez_SAME_CHANGE).symm.trans (own_eq_int nn15))
  have F_ordinal_SAME_DELETION : Fld s s.heap z_SAME_DELETION "java/lang/Enum" "ordinal" "I" (.int (13 : Int32)) := Fld.start ((fld_at ez_SAME_DELETION).symm.trans (own_eq_int nn19))
  have F_ordinal_CHANGE_BY_THEIRS : Fld s s.heap z_CHANGE_BY_THEIRS "java/lang/Enum" "ordinal" "I" (.int (5 : Int32)) := Fld.start ((fld_at ez_CHANGE_BY_THEIRS).symm.trans (own_eq_int nn27))
  have F_ordinal_UNCHANGED : Fld s s.heap z_UNCHANGED "java/lang/Enum" "ordinal" "I" (.int (0 : Int32)) := Fld.start ((fld_at ez_UNCHANGED).symm.trans (own_eq_int nn31))
  have F_ordinal_DELETE_BY_THEIRS : Fld s s.heap z_DELETE_BY_THEIRS "java/lang/Enum" "ordinal" "I" (.int (6 : Int32)) := Fld.start ((fld_at ez_DELETE_BY_THEIRS).symm.trans (own_eq_int nn33))
  have F_ordinal_CHANGE_BY_OURS : Fld s s.heap z_CHANGE_BY_OURS "java/lang/Enum" "ordinal" "I" (.int (2 : Int32)) := Fld.start ((fld_at ez_CHANGE_BY_OURS).symm.trans (own_eq_int nn35))
  have F_ordinal_BOTH_INSERTED : Fld s s.heap z_BOTH_INSERTED "java/lang/Enum" "ordinal" "I" (.int (7 : Int32)) := Fld.start ((fld_at ez_BOTH_INSERTED).symm.trans (own_eq_int nn39))
  have F_ordinal_BOTH_CHANGED : Fld s s.heap z_BOTH_CHANGED "java/lang/Enum" "ordinal" "I" (.int (8 : Int32)) := Fld.start ((fld_at ez_BOTH_CHANGED).symm.trans (own_eq_int nn43))
  have F_ordinal_INSERT_BY_THEIRS : Fld s s.heap z_INSERT_BY_THEIRS "java/lang/Enum" "ordinal" "I" (.int (4 : Int32)) := Fld.start ((fld_at ez_INSERT_BY_THEIRS).symm.trans (own_eq_int nn45))
  have F_ordinal_DELETE_BY_OURS : Fld s s.heap z_DELETE_BY_OURS "java/lang/Enum" "ordinal" "I" (.int (3 : Int32)) := Fld.start ((fld_at ez_DELETE_BY_OURS).symm.trans (own_eq_int nn47))
  have F_ordinal_CHANGED_BY_OURS_DELETED_BY_THEIRS : Fld s s.heap z_CHANGED_BY_OURS_DELETED_BY_THEIRS "java/lang/Enum" "ordinal" "I" (.int (9 : Int32)) := Fld.start ((fld_at ez_CHANGED_BY_OURS_DELETED_BY_THEIRS).symm.trans (own_eq_int nn51))
  have F_ordinal_DELETED_BY_OURS_CHANGED_BY_THEIRS : Fld s s.heap z_DELETED_BY_OURS_CHANGED_BY_THEIRS "java/lang/Enum" "ordinal" "I" (.int (10 : Int32)) := Fld.start ((fld_at ez_DELETED_BY_OURS_CHANGED_BY_THEIRS).symm.trans (own_eq_int nn54))
  obtain ⟨n, o, h1, h2, h3, _, L, rfl, ⟨rfl, N⟩, hq⟩ := rm0 l s _ hw tables_1 i0 i1 i2 i3 z_UNCHANGED z_INSERT_BY_THEIRS z_DELETE_BY_THEIRS z_CHANGE_BY_THEIRS z_INSERT_BY_OURS z_DELETE_BY_OURS z_CHANGE_BY_OURS z_BOTH_INSERTED z_DELETED_BY_OURS_CHANGED_BY_THEIRS z_CHANGED_BY_OURS_DELETED_BY_THEIRS z_BOTH_CHANGED z_SAME_INSERTION z_SAME_DELETION z_SAME_CHANGE s.heap s.heap.size (Nat.le_refl _) S_UNCHANGED S_INSERT_BY_THEIRS S_DELETE_BY_THEIRS S_CHANGE_BY_THEIRS S_INSERT_BY_OURS S_DELETE_BY_OURS S_CHANGE_BY_OURS S_BOTH_INSERTED S_DELETED_BY_OURS_CHANGED_BY_THEIRS S_CHANGED_BY_OURS_DELETED_BY_THEIRS S_BOTH_CHANGED S_SAME_INSERTION S_SAME_DELETION S_SAME_CHANGE E_UNCHANGED E_INSERT_BY_THEIRS E_DELETE_BY_THEIRS E_CHANGE_BY_THEIRS E_INSERT_BY_OURS E_DELETE_BY_OURS E_CHANGE_BY_OURS E_BOTH_INSERTED E_DELETED_BY_OURS_CHANGED_BY_THEIRS E_CHANGED_BY_OURS_DELETED_BY_THEIRS E_BOTH_CHANGED E_SAME_INSERTION E_SAME_DELETION E_SAME_CHANGE (own_law i0 i1 i2 i3 z_UNCHANGED z_INSERT_BY_THEIRS z_DELETE_BY_THEIRS z_CHANGE_BY_THEIRS z_INSERT_BY_OURS z_DELETE_BY_OURS z_CHANGE_BY_OURS z_BOTH_INSERTED z_DELETED_BY_OURS_CHANGED_BY_THEIRS z_CHANGED_BY_OURS_DELETED_BY_THEIRS z_BOTH_CHANGED z_SAME_INSERTION z_SAME_DELETION z_SAME_CHANGE (F_ordinal_UNCHANGED.ne F_ordinal_SAME_INSERTION (by decide)) (F_ordinal_UNCHANGED.ne F_ordinal_SAME_CHANGE (by decide)) (F_ordinal_UNCHANGED.ne F_ordinal_SAME_DELETION (by decide)) (F_ordinal_INSERT_BY_THEIRS.ne F_ordinal_SAME_INSERTION (by decide)) (F_ordinal_INSERT_BY_THEIRS.ne F_ordinal_SAME_CHANGE (by decide)) (F_ordinal_INSERT_BY_THEIRS.ne F_ordinal_SAME_DELETION (by decide)) (F_ordinal_DELETE_BY_THEIRS.ne F_ordinal_SAME_INSERTION (by decide)) (F_ordinal_DELETE_BY_THEIRS.ne F_ordinal_SAME_CHANGE (by decide)) (F_ordinal_DELETE_BY_THEIRS.ne F_ordinal_SAME_DELETION (by decide)) (F_ordinal_CHANGE_BY_THEIRS.ne F_ordinal_SAME_INSERTION (by decide)) (F_ordinal_CHANGE_BY_THEIRS.ne F_ordinal_SAME_CHANGE (by decide)) (F_ordinal_CHANGE_BY_THEIRS.ne F_ordinal_SAME_DELETION (by decide)) (F_ordinal_INSERT_BY_OURS.ne F_ordinal_SAME_INSERTION (by decide)) (F_ordinal_INSERT_BY_OURS.ne F_ordinal_SAME_CHANGE (by decide)) (F_ordinal_INSERT_BY_OURS.ne F_ordinal_SAME_DELETION (by decide)) (F_ordinal_DELETE_BY_OURS.ne F_ordinal_SAME_INSERTION (by decide)) (F_ordinal_DELETE_BY_OURS.ne F_ordinal_SAME_CHANGE (by decide)) (F_ordinal_DELETE_BY_OURS.ne F_ordinal_SAME_DELETION (by decide)) (F_ordinal_CHANGE_BY_OURS.ne F_ordinal_SAME_INSERTION (by decide)) (F_ordinal_CHANGE_BY_OURS.ne F_ordinal_SAME_CHANGE (by decide)) (F_ordinal_CHANGE_BY_OURS.ne F_ordinal_SAME_DELETION (by decide)) (F_ordinal_BOTH_INSERTED.ne F_ordinal_SAME_INSERTION (by decide)) (F_ordinal_BOTH_INSERTED.ne F_ordinal_SAME_CHANGE (by decide)) (F_ordinal_BOTH_INSERTED.ne F_ordinal_SAME_DELETION (by decide)) (F_ordinal_DELETED_BY_OURS_CHANGED_BY_THEIRS.ne F_ordinal_SAME_INSERTION (by decide)) (F_ordinal_DELETED_BY_OURS_CHANGED_BY_THEIRS.ne F_ordinal_SAME_CHANGE (by decide)) (F_ordinal_DELETED_BY_OURS_CHANGED_BY_THEIRS.ne F_ordinal_SAME_DELETION (by decide)) (F_ordinal_CHANGED_BY_OURS_DELETED_BY_THEIRS.ne F_ordinal_SAME_INSERTION (by decide)) (F_ordinal_CHANGED_BY_OURS_DELETED_BY_THEIRS.ne F_ordinal_SAME_CHANGE (by decide)) (F_ordinal_CHANGED_BY_OURS_DELETED_BY_THEIRS.ne F_ordinal_SAME_DELETION (by decide)) (F_ordinal_BOTH_CHANGED.ne F_ordinal_SAME_INSERTION (by decide)) (F_ordinal_BOTH_CHANGED.ne F_ordinal_SAME_CHANGE (by decide)) (F_ordinal_BOTH_CHANGED.ne F_ordinal_SAME_DELETION (by decide))) p e ha hc hk s m _ below hf ((Spec.applies_iff_loose hf).mp happ).1 ⟨rfl, State.Warmed39.refl s, rfl⟩ trivial
  refine ⟨n, _, h1, h2, h3, hpost _ _ _ _ _ _ ⟨Cond.after_iff.mpr rfl, Cond.after_iff.mpr (eq_i res_at (Term.int_eval (1)) rfl), trivial⟩ ⟨hq.1, hq.2.1, (hq.2.2.sift fun y hy => Or.inr (N y hy)).mono (by decide) (by decide)⟩⟩
theorem main_1_1 : Claimed_1_1 := comes_1 fun _ _ _ _ _ _ h hF => ⟨h.1, hF⟩
theorem main_1_2 : Claimed_1_2 := comes_1 fun _ _ _ _ _ _ h hF => ⟨h.2.1, hF⟩
end Jvm.Pilot.@@N@@
namespace Jvm.Pilot.@@N@@
open Jvm Jvm.ClassFile Sem Op Lib Jvm.Free Jvm.Stand Jvm.Pilot.@@N@@.Jvm.D
/-! MADE BY PROGRAM (witnessworld.py) out of the Statement's table words and the real class files: 12 classes; the members and pool entries that the words name. The judged class is class 1, her method 1. -/
namespace start1
open Jvm.ClassFile
def u (s : String) : CpInfo := .utf8 (stringToUtf16 s)
/-- a pool by its gaps: so many unusable entries, then the entry; so many at the end -/
def gap : Nat → List CpInfo → List CpInfo
  | 0, r => r
  | n + 1, r => .unusable :: gap n r
def poolList (es : List (Nat × CpInfo)) (last : Nat) : List CpInfo := es.foldr (fun e r => gap e.1 (e.2 :: r)) (gap last [])
def pool (es : List (Nat × CpInfo)) (last : Nat) : Array CpInfo := ⟨poolList es last⟩
def fileOf (pool : Array CpInfo) (this : Nat) (attrs : Array Attribute := #[]) (ms : Array MethodInfo := #[]) (fl : Nat := 33) (sup : Nat := 0) (ifs : Array Nat := #[]) (fds : Array FieldInfo := #[]) : ClassFile where
  minorVersion := 0
  majorVersion := 65
  constantPool := pool
  accessFlags := fl
  thisClass := this
  superClass := sup
  interfaces := ifs
  fields := fds
  methods := ms
  attributes := attrs
def plain (name : String) (sup : Option ClassId) : Class where
  name := name
  kind := .ordinary
  loader := none
  accessFlags := 33
  super := sup
  interfaces := #[]
  cf := none
  fields := #[]
  methods := #[]
  instanceTypes := #[]
  staticTypes := #[]
  resolved := #[]
  callSites := []
  init := .initialized
  statics := none
  mirror := none

def pool0 : Array CpInfo := pool [(5, u "<init>"), (0, u "()V"), (1, .class_ 10), (1, u "java/lang/Object")] 113

def k0m0 : Method := { name := "<init>", desc := "()V", sig := { parameters := [], returnType := none }, accessFlags := 1, code := none }
/-- java/lang/Object -/
def k0 : Class := { plain "java/lang/Object" none with
  accessFlags := 33
  interfaces := #[]
  cf := some (fileOf pool0 8 #[] #[{ accessFlags := 1, nameIndex := 5, descriptorIndex := 6, attributes := #[] }] 33 0 #[] #[])
  fields := #[]
  methods := #[k0m0]
  instanceTypes := #[]
  staticTypes := #[]
  resolved := Array.replicate 124 none
  statics := none }

def pool1 : Array CpInfo := pool [(2, .class_ 4), (1, u "java/lang/Object"), (0, u "<init>"), (0, u "()V"), (0, .methodref 8 9), (0, .class_ 10), (0, .nameAndType 11 12), (0, u "com/example/tercet/tercet/Situation"), (0, u "of"), (0, u "(IIIZZZ)Lcom/example/tercet/tercet/Situation;"), (0, .methodref 8 14), (0, .nameAndType 15 16), (0, u "isConvergent"), (0, u "()Z"), (0, .class_ 18), (0, u "com/example/tercet/tercet/SituationIsConvergentPinLaw"), (2, u "law"), (0, u "(IIII)Z")] 3

def k1m0 : Method := { name := "<init>", desc := "()V", sig := { parameters := [], returnType := none }, accessFlags := 1, code := none }
def k1c1 : Code := { maxStack := 6, maxLocals := 9, code := code, exceptionTable := #[], attributes := #[] }
def k1m1 : Method := { name := "law", desc := "(IIII)Z", sig := { parameters := [.int, .int, .int, .int], returnType := some .boolean }, accessFlags := 9, code := some k1c1 }
/-- com/example/tercet/tercet/SituationIsConvergentPinLaw -/
def k1 : Class := { plain "com/example/tercet/tercet/SituationIsConvergentPinLaw" (some 0) with
  accessFlags := 49
  interfaces := #[]
  cf := some (fileOf pool1 17 #[] #[{ accessFlags := 1, nameIndex := 5, descriptorIndex := 6, attributes := #[] }, { accessFlags := 9, nameIndex := 21, descriptorIndex := 22, attributes := #[] }] 49 2 #[] #[])
  fields := #[]
  methods := #[k1m0, k1m1]
  instanceTypes := #[]
  staticTypes := #[]
  resolved := Array.replicate 26 none
  statics := none }

def pool2 : Array CpInfo := pool [(1, .class_ 2), (0, u "java/lang/constant/Constable"), (0, .class_ 4), (0, u "java/lang/Object")] 6

/-- java/lang/constant/Constable -/
def k2 : Class := { plain "java/lang/constant/Constable" (some 0) with
  accessFlags := 1537
  interfaces := #[]
  cf := some (fileOf pool2 1 #[] #[] 1537 3 #[] #[])
  fields := #[]
  methods := #[]
  instanceTypes := #[]
  staticTypes := #[]
  resolved := Array.replicate 11 none
  statics := none }

def pool3 : Array CpInfo := pool [(1, .class_ 2), (0, u "java/lang/Comparable"), (0, .class_ 4), (0, u "java/lang/Object")] 7

/-- java/lang/Comparable -/
def k3 : Class := { plain "java/lang/Comparable" (some 0) with
  accessFlags := 1537
  interfaces := #[]
  cf := some (fileOf pool3 1 #[] #[] 1537 3 #[] #[])
  fields := #[]
  methods := #[]
  instanceTypes := #[]
  staticTypes := #[]
  resolved := Array.replicate 12 none
  statics := none }

def pool4 : Array CpInfo := pool [(1, .class_ 2), (0, u "java/io/Serializable"), (0, .class_ 4), (0, u "java/lang/Object")] 2

/-- java/io/Serializable -/
def k4 : Class := { plain "java/io/Serializable" (some 0) with
  accessFlags := 1537
  interfaces := #[]
  cf := some (fileOf pool4 1 #[] #[] 1537 3 #[] #[])
  fields := #[]
  methods := #[]
  instanceTypes := #[]
  staticTypes := #[]
  resolved := Array.replicate 7 none
  statics := none }

def pool5 : Array CpInfo := pool [(2, .class_ 4), (1, u "java/lang/Enum"), (0, u "name"), (0, u "Ljava/lang/String;"), (2, u "ordinal"), (0, u "I"), (1, .class_ 14), (1, u "java/lang/Object"), (4, u "hash"), (86, .class_ 108), (1, u "java/lang/Enum$EnumDesc"), (2, .class_ 112), (0, u "java/lang/constant/Constable"), (0, .class_ 114), (0, u "java/lang/Comparable"), (0, .class_ 116), (0, u "java/io/Serializable")] 87

/-- java/lang/Enum -/
def k5 : Class := { plain "java/lang/Enum" (some 0) with
  accessFlags := 1057
  interfaces := #[2, 3, 4]
  cf := some (fileOf pool5 2 #[.nestMembers #[106]] #[] 1057 12 #[111, 113, 115] #[{ accessFlags := 18, nameIndex := 5, descriptorIndex := 6, attributes := #[] }, { accessFlags := 18, nameIndex := 9, descriptorIndex := 10, attributes := #[] }, { accessFlags := 2, nameIndex := 19, descriptorIndex := 10, attributes := #[] }])
  fields := #[{ name := "name", type := (.object "java/lang/String"), accessFlags := 18, slot := 0, constantValue := 0 }, { name := "ordinal", type := .int, accessFlags := 18, slot := 1, constantValue := 0 }, { name := "hash", type := .int, accessFlags := 2, slot := 2, constantValue := 0 }]
  methods := #[]
  instanceTypes := #[(.object "java/lang/String"), .int, .int]
  staticTypes := #[]
  resolved := Array.replicate 204 none
  statics := none }

def pool6 : Array CpInfo := pool [(1, .class_ 2), (0, u "com/example/tercet/tercet/Situation"), (0, .fieldref 1 4), (0, .nameAndType 5 6), (0, u "UNCHANGED"), (0, u "Lcom/example/tercet/tercet/Situation;"), (0, .fieldref 1 8), (0, .nameAndType 9 6), (0, u "INSERT_BY_OURS"), (0, .fieldref 1 11), (0, .nameAndType 12 6), (0, u "CHANGE_BY_OURS"), (0, .fieldref 1 14), (0, .nameAndType 15 6), (0, u "DELETE_BY_OURS"), (0, .fieldref 1 17), (0, .nameAndType 18 6), (0, u "INSERT_BY_THEIRS"), (0, .fieldref 1 20), (0, .nameAndType 21 6), (0, u "CHANGE_BY_THEIRS"), (0, .fieldref 1 23), (0, .nameAndType 24 6), (0, u "DELETE_BY_THEIRS"), (0, .fieldref 1 26), (0, .nameAndType 27 6), (0, u "BOTH_INSERTED"), (0, .fieldref 1 29), (0, .nameAndType 30 6), (0, u "BOTH_CHANGED"), (0, .fieldref 1 32), (0, .nameAndType 33 6), (0, u "CHANGED_BY_OURS_DELETED_BY_THEIRS"), (0, .fieldref 1 35), (0, .nameAndType 36 6), (0, u "DELETED_BY_OURS_CHANGED_BY_THEIRS"), (0, .fieldref 1 38), (0, .nameAndType 39 6), (0, u "SAME_INSERTION"), (0, .fieldref 1 41), (0, .nameAndType 42 6), (0, u "SAME_CHANGE"), (0, .fieldref 1 44), (0, .nameAndType 45 6), (0, u "SAME_DELETION"), (2, u "$VALUES"), (0, u "[Lcom/example/tercet/tercet/Situation;"), (6, .class_ 58), (1, u "java/lang/Enum"), (6, .methodref 1 66), (0, .nameAndType 67 68), (0, u "change"), (0, u "(IILcom/example/tercet/tercet/Situation;Lcom/example/tercet/tercet/Situation;Lcom/example/tercet/tercet/Situation;)Lcom/example/tercet/tercet/Situation;"), (26, u "of"), (0, u "(IIIZZZ)Lcom/example/tercet/tercet/Situation;"), (1, u "isConvergent"), (0, u "()Z")] 4

def k6c0 : Code := { maxStack := 5, maxLocals := 7, code := prog_45_method_4_code, exceptionTable := #[], attributes := #[] }
def k6m0 : Method := { name := "of", desc := "(IIIZZZ)Lcom/example/tercet/tercet/Situation;", sig := { parameters := [.int, .int, .int, .boolean, .boolean, .boolean], returnType := some (.object "com/example/tercet/tercet/Situation") }, accessFlags := 8, code := some k6c0 }
def k6c1 : Code := { maxStack := 2, maxLocals := 1, code := prog_45_method_5_code, exceptionTable := #[], attributes := #[] }
def k6m1 : Method := { name := "isConvergent", desc := "()Z", sig := { parameters := [], returnType := some .boolean }, accessFlags := 0, code := some k6c1 }
def k6c2 : Code := { maxStack := 1, maxLocals := 6, code := prog_45_method_6_code, exceptionTable := #[], attributes := #[] }
def k6m2 : Method := { name := "change", desc := "(IILcom/example/tercet/tercet/Situation;Lcom/example/tercet/tercet/Situation;Lcom/example/tercet/tercet/Situation;)Lcom/example/tercet/tercet/Situation;", sig := { parameters := [.int, .int, (.object "com/example/tercet/tercet/Situation"), (.object "com/example/tercet/tercet/Situation"), (.object "com/example/tercet/tercet/Situation")], returnType := some (.object "com/example/tercet/tercet/Situation") }, accessFlags := 10, code := some k6c2 }
/-- com/example/tercet/tercet/Situation -/
def k6 : Class := { plain "com/example/tercet/tercet/Situation" (some 5) with
  accessFlags := 16433
  interfaces := #[]
  cf := some (fileOf pool6 1 #[] #[{ accessFlags := 8, nameIndex := 95, descriptorIndex := 96, attributes := #[] }, { accessFlags := 0, nameIndex := 98, descriptorIndex := 99, attributes := #[] }, { accessFlags := 10, nameIndex := 67, descriptorIndex := 68, attributes := #[] }] 16433 56 #[] #[{ accessFlags := 16409, nameIndex := 5, descriptorIndex := 6, attributes := #[] }, { accessFlags := 16409, nameIndex := 9, descriptorIndex := 6, attributes := #[] }, { accessFlags := 16409, nameIndex := 12, descriptorIndex := 6, attributes := #[] }, { accessFlags := 16409, nameIndex := 15, descriptorIndex := 6, attributes := #[] }, { accessFlags := 16409, nameIndex := 18, descriptorIndex := 6, attributes := #[] }, { accessFlags := 16409, nameIndex := 21, descriptorIndex := 6, attributes := #[] }, { accessFlags := 16409, nameIndex := 24, descriptorIndex := 6, attributes := #[] }, { accessFlags := 16409, nameIndex := 27, descriptorIndex := 6, attributes := #[] }, { accessFlags := 16409, nameIndex := 30, descriptorIndex := 6, attributes := #[] }, { accessFlags := 16409, nameIndex := 33, descriptorIndex := 6, attributes := #[] }, { accessFlags := 16409, nameIndex := 36, descriptorIndex := 6, attributes := #[] }, { accessFlags := 16409, nameIndex := 39, descriptorIndex := 6, attributes := #[] }, { accessFlags := 16409, nameIndex := 42, descriptorIndex := 6, attributes := #[] }, { accessFlags := 16409, nameIndex := 45, descriptorIndex := 6, attributes := #[] }, { accessFlags := 4122, nameIndex := 48, descriptorIndex := 49, attributes := #[] }])
  fields := #[{ name := "UNCHANGED", type := (.object "com/example/tercet/tercet/Situation"), accessFlags := 16409, slot := 0, constantValue := 0 }, { name := "INSERT_BY_OURS", type := (.object "com/example/tercet/tercet/Situation"), accessFlags := 16409, slot := 1, constantValue := 0 }, { name := "CHANGE_BY_OURS", type := (.object "com/example/tercet/tercet/Situation"), accessFlags := 16409, slot := 2, constantValue := 0 }, { name := "DELETE_BY_OURS", type := (.object "com/example/tercet/tercet/Situation"), accessFlags := 16409, slot := 3, constantValue := 0 }, { name := "INSERT_BY_THEIRS", type := (.object "com/example/tercet/tercet/Situation"), accessFlags := 16409, slot := 4, constantValue := 0 }, { name := "CHANGE_BY_THEIRS", type := (.object "com/example/tercet/tercet/Situation"), accessFlags := 16409, slot := 5, constantValue := 0 }, { name := "DELETE_BY_THEIRS", type := (.object "com/example/tercet/tercet/Situation"), accessFlags := 16409, slot := 6, constantValue := 0 }, { name := "BOTH_INSERTED", type := (.object "com/example/tercet/tercet/Situation"), accessFlags := 16409, slot := 7, constantValue := 0 }, { name := "BOTH_CHANGED", type := (.object "com/example/tercet/tercet/Situation"), accessFlags := 16409, slot := 8, constantValue := 0 }, { name := "CHANGED_BY_OURS_DELETED_BY_THEIRS", type := (.object "com/example/tercet/tercet/Situation"), accessFlags := 16409, slot := 9, constantValue := 0 }, { name := "DELETED_BY_OURS_CHANGED_BY_THEIRS", type := (.object "com/example/tercet/tercet/Situation"), accessFlags := 16409, slot := 10, constantValue := 0 }, { name := "SAME_INSERTION", type := (.object "com/example/tercet/tercet/Situation"), accessFlags := 16409, slot := 11, constantValue := 0 }, { name := "SAME_CHANGE", type := (.object "com/example/tercet/tercet/Situation"), accessFlags := 16409, slot := 12, constantValue := 0 }, { name := "SAME_DELETION", type := (.object "com/example/tercet/tercet/Situation"), accessFlags := 16409, slot := 13, constantValue := 0 }, { name := "$VALUES", type := (.array (.object "com/example/tercet/tercet/Situation")), accessFlags := 4122, slot := 14, constantValue := 0 }]
  methods := #[k6m0, k6m1, k6m2]
  instanceTypes := #[(.object "java/lang/String"), .int, .int]
  staticTypes := #[(.object "com/example/tercet/tercet/Situation"), (.object "com/example/tercet/tercet/Situation"), (.object "com/example/tercet/tercet/Situation"), (.object "com/example/tercet/tercet/Situation"), (.object "com/example/tercet/tercet/Situation"), (.object "com/example/tercet/tercet/Situation"), (.object "com/example/tercet/tercet/Situation"), (.object "com/example/tercet/tercet/Situation"), (.object "com/example/tercet/tercet/Situation"), (.object "com/example/tercet/tercet/Situation"), (.object "com/example/tercet/tercet/Situation"), (.object "com/example/tercet/tercet/Situation"), (.object "com/example/tercet/tercet/Situation"), (.object "com/example/tercet/tercet/Situation"), (.array (.object "com/example/tercet/tercet/Situation"))]
  resolved := Array.replicate 104 none
  statics := some 0 }

def pool7 : Array CpInfo := pool [(1, u "java/lang/Cloneable"), (0, .class_ 1), (0, u "java/lang/Object"), (0, .class_ 3)] 3

/-- java/lang/Cloneable -/
def k7 : Class := { plain "java/lang/Cloneable" (some 0) with
  accessFlags := 1537
  interfaces := #[]
  cf := some (fileOf pool7 2 #[] #[] 1537 4 #[] #[])
  fields := #[]
  methods := #[]
  instanceTypes := #[]
  staticTypes := #[]
  resolved := Array.replicate 8 none
  statics := none }

/-- the primitive byte -/
def k8 : Class := { plain "byte" none with kind := .primitive 'B', accessFlags := 0x411 }
/-- [B -/
def k9 : Class := { plain "[B" (some 0) with kind := .array 8 .byte, interfaces := #[7, 4], accessFlags := 1041 }

/-- the primitive int -/
def k10 : Class := { plain "int" none with kind := .primitive 'I', accessFlags := 0x411 }
/-- [I -/
def k11 : Class := { plain "[I" (some 0) with kind := .array 10 .int, interfaces := #[7, 4], accessFlags := 1041 }

def heap : Heap := #[{ cls := 6, slots := #[.ref 10, .ref 1, .ref 3, .ref 2, .ref 7, .ref 9, .ref 8, .ref 11, .ref 12, .ref 13, .ref 14, .ref 4, .ref 5, .ref 6, .null], vm := .statics 6 },
  { cls := 6, slots := #[.null, .int 1, .int 0], vm := .none },
  { cls := 6, slots := #[.null, .int 3, .int 0], vm := .none },
  { cls := 6, slots := #[.null, .int 2, .int 0], vm := .none },
  { cls := 6, slots := #[.null, .int 11, .int 0], vm := .none },
  { cls := 6, slots := #[.null, .int 12, .int 0], vm := .none },
  { cls := 6, slots := #[.null, .int 13, .int 0], vm := .none },
  { cls := 6, slots := #[.null, .int 4, .int 0], vm := .none },
  { cls := 6, slots := #[.null, .int 6, .int 0], vm := .none },
  { cls := 6, slots := #[.null, .int 5, .int 0], vm := .none },
  { cls := 6, slots := #[.null, .int 0, .int 0], vm := .none },
  { cls := 6, slots := #[.null, .int 7, .int 0], vm := .none },
  { cls := 6, slots := #[.null, .int 8, .int 0], vm := .none },
  { cls := 6, slots := #[.null, .int 9, .int 0], vm := .none },
  { cls := 6, slots := #[.null, .int 10, .int 0], vm := .none }]
def classes : Array Class := #[k0, k1, k2, k3, k4, k5, k6, k7, k8, k9, k10, k11]
def interned : List (Array UInt16 × Addr) := []
def slotsUsed : Nat := 57
def theMethod : MethodId := ⟨1, 1⟩
def args0 : Array Value := #[.int 5, .int 2, .int 3, .int 7]
def aboutOver (below : List Frame) : State where
  vm := { classes := classes, interned := interned.toArray }
  heap := heap
  slotsUsed := slotsUsed
  threads := #[{ frames := .invoking theMethod args0 :: below }]
def below0 : List Frame := [.native { method := ⟨0, 0⟩, args := #[] }]
def about1 : State := aboutOver below0
def p0 : Program := .bare "" "" ""
def e0 : Env := launch0.env 0 0 0
theorem w_frames : about1.frames = Frame.invoking theMethod args0 :: below0 := rfl
set_option maxRecDepth 65536 in
theorem w_args : argsFit about1.vm theMethod args0 = true := by decide +kernel
set_option maxRecDepth 65536 in
theorem w_heap : heapFits about1 = true := by decide +kernel
set_option maxRecDepth 65536 in
theorem w_runnable : about1.curStatus? = some .runnable := by decide +kernel
set_option maxRecDepth 65536 in
theorem w_alone : about1.alone = true := by decide +kernel
set_option maxRecDepth 65536 in
theorem w_named : about1.methodNamed? x = some theMethod := by decide +kernel
set_option maxRecDepth 65536 in
theorem w_hears : about1.hears theMethod below0 = true := by decide +kernel
set_option maxRecDepth 65536 in
theorem w_ripe : about1.ripe theMethod args0 below0 = true := by decide +kernel
theorem w_running : about1.status = .running := rfl
set_option maxRecDepth 65536 in
theorem w_room : about1.hasRoom e0.platform room_1 = true :=
  launch0.hasRoom_least _ room_1 (by decide +kernel) (by decide +kernel) (by decide +kernel) (by decide +kernel) (by decide +kernel) (by decide +kernel)
theorem allAtoms_all (ts : List Jvm.Cond) (a : Array Jvm.Value) (st : Jvm.State) : (allAtoms ts).before a st = ts.all (fun c => c.before a st) := by
  induction ts with
  | nil => rfl
  | cons c t ih =>
    show (Jvm.Cond.and c (allAtoms t)).before a st = _
    rw [Jvm.Cond.before_and, ih, List.all_cons]
def words1 : List Jvm.Cond := Jvm.Cond.code x code maxLocals ret :: tables_1
/-- a 'code' word, met by the world's own term for the bytes: nothing is compared byte by byte -/
theorem code_word {y : MethodName} {bytes : ByteArray} {mx : Nat} {rt : Option FieldType} {a : Array Value} {s : State} {m : MethodId} {meth : Method} {c : Code} (h1 : s.methodNamed? y = some m) (h2 : s.vm.method? m = some meth) (h3 : meth.code = some c) (h4 : c.code = bytes)
    (h5 : (c.maxLocals == mx && c.exceptionTable.isEmpty && decide (c.maxStack ≤ mostOperands) && decide (meth.sig.returnType = rt) && !meth.locks && decide (parseMethodDescriptor y.desc = some meth.sig)) = true) : (Jvm.Cond.code y bytes mx rt).before a s = true := by
  simp only [Bool.and_eq_true, beq_iff_eq, Bool.not_eq_true', decide_eq_true_eq] at h5
  obtain ⟨⟨⟨⟨⟨g1, g2⟩, g3⟩, g4⟩, g5⟩, g6⟩ := h5
  simp [Cond.before, Cond.holds, Cond.value, h1, h2, h3, h4, g1, g2, g3, g4, g5, g6]
def isCode : Jvm.Cond → Bool
  | .code _ _ _ _ => true
  | _ => false
theorem all_split {L : List Jvm.Cond} {P : Jvm.Cond → Bool} (h1 : L.all (fun c => isCode c || P c) = true) (h2 : ∀ c ∈ L.filter isCode, P c = true) : L.all P = true := by
  refine List.all_eq_true.mpr fun c hc => ?_
  have h := List.all_eq_true.mp h1 c hc
  rcases Bool.eq_false_or_eq_true (isCode c) with hi | hi
  · exact h2 c (List.mem_filter.mpr ⟨hc, hi⟩)
  · simpa [hi] using h
set_option maxRecDepth 65536 in
theorem w_c0 : (Jvm.Cond.code x code maxLocals ret).before args0 about1 = true := code_word (m := ⟨1, 1⟩) (meth := k1m1) (c := k1c1) (by decide +kernel) rfl rfl rfl (by decide +kernel)
set_option maxRecDepth 65536 in
theorem w_c1 : (Jvm.Cond.code ({ cls := "com/example/tercet/tercet/Situation", name := "of", desc := "(IIIZZZ)Lcom/example/tercet/tercet/Situation;" } : Jvm.MethodName) prog_45_method_4_code (7 : Nat) (Option.some (Jvm.ClassFile.FieldType.object "com/example/tercet/tercet/Situation"))).before args0 about1 = true := code_word (m := ⟨6, 0⟩) (meth := k6m0) (c := k6c0) (by decide +kernel) rfl rfl rfl (by decide +kernel)
set_option maxRecDepth 65536 in
theorem w_c2 : (Jvm.Cond.code ({ cls := "com/example/tercet/tercet/Situation", name := "change", desc := "(IILcom/example/tercet/tercet/Situation;Lcom/example/tercet/tercet/Situation;Lcom/example/tercet/tercet/Situation;)Lcom/example/tercet/tercet/Situation;" } : Jvm.MethodName) prog_45_method_6_code (6 : Nat) (Option.some (Jvm.ClassFile.FieldType.object "com/example/tercet/tercet/Situation"))).before args0 about1 = true := code_word (m := ⟨6, 2⟩) (meth := k6m2) (c := k6c2) (by decide +kernel) rfl rfl rfl (by decide +kernel)
set_option maxRecDepth 65536 in
theorem w_c3 : (Jvm.Cond.code ({ cls := "com/example/tercet/tercet/Situation", name := "isConvergent", desc := "()Z" } : Jvm.MethodName) prog_45_method_5_code (1 : Nat) (Option.some Jvm.ClassFile.FieldType.boolean)).before args0 about1 = true := code_word (m := ⟨6, 1⟩) (meth := k6m1) (c := k6c1) (by decide +kernel) rfl rfl rfl (by decide +kernel)
def codes1 : List Jvm.Cond := [Jvm.Cond.code x code maxLocals ret, Jvm.Cond.code ({ cls := "com/example/tercet/tercet/Situation", name := "of", desc := "(IIIZZZ)Lcom/example/tercet/tercet/Situation;" } : Jvm.MethodName) prog_45_method_4_code (7 : Nat) (Option.some (Jvm.ClassFile.FieldType.object "com/example/tercet/tercet/Situation")), Jvm.Cond.code ({ cls := "com/example/tercet/tercet/Situation", name := "change", desc := "(IILcom/example/tercet/tercet/Situation;Lcom/example/tercet/tercet/Situation;Lcom/example/tercet/tercet/Situation;)Lcom/example/tercet/tercet/Situation;" } : Jvm.MethodName) prog_45_method_6_code (6 : Nat) (Option.some (Jvm.ClassFile.FieldType.object "com/example/tercet/tercet/Situation")), Jvm.Cond.code ({ cls := "com/example/tercet/tercet/Situation", name := "isConvergent", desc := "()Z" } : Jvm.MethodName) prog_45_method_5_code (1 : Nat) (Option.some Jvm.ClassFile.FieldType.boolean)]
set_option maxRecDepth 65536 in
theorem codes_eq : words1.filter isCode = codes1 := rfl
theorem w_codes : ∀ c ∈ words1.filter isCode, c.before args0 about1 = true := by
  rw [codes_eq]
  intro c hc
  simp only [codes1, List.mem_cons, List.not_mem_nil, or_false] at hc
  rcases hc with rfl | rfl | rfl | rfl
  · exact w_c0
  · exact w_c1
  · exact w_c2
  · exact w_c3
set_option maxRecDepth 65536 in
theorem w_t1 : (words1.take 24).all (fun c => isCode c || c.before args0 about1) = true := by decide +kernel
set_option maxRecDepth 65536 in
theorem w_t2 : (words1.drop 24).all (fun c => isCode c || c.before args0 about1) = true := by decide +kernel
theorem w_tables : (allAtoms (Jvm.Cond.code x code maxLocals ret :: tables_1)).before args0 about1 = true := by
  rw [allAtoms_all]
  show words1.all (fun c => c.before args0 about1) = true
  refine all_split ?_ w_codes
  rw [← List.take_append_drop 24 words1, List.all_append, w_t1, w_t2]
  rfl
set_option maxRecDepth 65536 in
theorem w_case : (Jvm.Cond.and given_1 narrow_1).before args0 about1 = true := by decide +kernel
theorem w_applies : (headSpec (Jvm.Cond.code x code maxLocals ret :: tables_1) room_1).applies x e0.platform about1 = true :=
  (Spec.applies_iff w_frames).mpr ⟨w_running, w_runnable, w_alone, w_named, w_hears, w_ripe, w_room, w_tables⟩
theorem atStart : AtStart classFile x code maxLocals ret World_1 tables_1 room_1 Calls_1 rest_1 Pre_1 launch0 p0 e0 about1 theMethod args0 below0 :=
  ⟨lists_1, trivial, launch0.admits_env _ _ _, launch0.least_env, fairChoices_fair.cas, fairChoices_fair.clock, w_frames, w_args, w_heap, w_applies, trivial, trivial, w_case⟩
end start1
theorem witness_1 : WitnessClaimed_1 := ⟨start1.p0, start1.e0, start1.about1, start1.theMethod, start1.args0, start1.below0, start1.atStart⟩
end Jvm.Pilot.@@N@@
