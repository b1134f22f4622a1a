import JvmDerived
import JvmDerived.Pilot.@@N@@Statement
import JvmDerived.Pilot.@@N@@Code
set_option linter.unusedVariables false
set_option linter.unusedSimpArgs false
namespace Jvm.RoadKit
open Sem ClassFile Op Lib Jvm.Stand Jvm.Free Jvm.LawKit
section New
variable {p : Program} {l : Launch} {e : Env} {R : Room} {s : State} {m : MethodId} {args : Array Value} {below : List Frame} {meth : Method} {c : Code} {T : State} {locs : List Loc} {cells slots : Nat}
theorem retI (X : Stand p l e R s m args below meth c T locs cells slots) (hx : p.tables.exec = Jvm.exec) {pc : Nat} {Ls : Array Slot} {z : Int32} {rest : List Value} (hret : meth.sig.returnType = some .int) (hd : decode c.code pc = .ok (.ireturn, 1)) {fs : List Frame}
    (hl : ∀ (f : JFrame) (acts : List Action), f.method = m → f.locked = none → f.entered = [] → (doReturn e (T.setTop f) acts (some (.int z))).1 = T.setFrames fs) : Steps p.tables e below (T.setTop (mkF m pc Ls (.int z :: rest))) (T.setFrames fs) := by
  have hm' : T.vm.method? m = some meth := X.method'
  have hn : narrow .int (.int z) = .int z := rfl
  show Steps p.tables e below (T.setTop { method := m, pc := pc, locals := Ls, stack := _ :: rest, locked := none }) _
  jvm_step X.here [X.here.top, hx, hd, hm', hret, hn]
  first | (intro acts; rw [hl _ acts rfl rfl rfl]) | rw [hl _ _ rfl rfl rfl]
  exact Steps.refl _
end New
end Jvm.RoadKit
namespace Jvm.Pilot.@@N@@
open Jvm Jvm.ClassFile Sem Op Lib Jvm.Free Jvm.Stand Jvm.LawKit Jvm.RoadKit Bundle Jvm.Pilot.@@N@@.Jvm.D
theorem own_eq_int {args : Array Value} {s : State} {t : Term} {k : Int32} (h : (Cond.eq t (.int k)).value args s none s [] = some true) : t.eval args s none [] s = some (.int k) := by
  obtain ⟨x, y, ha, hb, hk, -⟩ := cmp_v (Or.inl h)
  have hb' : (Term.int k).eval args s none [] s = some (.int k) := rfl
  rw [hb'] at hb; cases hb
  cases x with
  | int z =>
    have := Cond.value.eq_def
    simp [Cond.value, ha, hb'] at h
    rw [ha, h]
  | _ => simp [Kin, Value.isRef] at hk

theorem pn_1 : plainName "com/example/prune_to_fit/prunetofit/ctl/OperatorTakesPinLaw" = true := by first | (simp [plainName, overriddenIn]; done) | decide +kernel
theorem d1_0 : decode method_2_code 0 = .ok (.iload_n 0, 1) := by decide +kernel
theorem d1_1 : decode method_2_code 1 = .ok (.ifCond .ne 7, 3) := by decide +kernel
theorem d1_4 : decode method_2_code 4 = .ok (.getstatic 7, 3) := by decide +kernel
theorem d1_8 : decode method_2_code 8 = .ok (.iload_n 0, 1) := by decide +kernel
theorem d1_9 : decode method_2_code 9 = .ok (.iconst 1, 1) := by decide +kernel
theorem d1_10 : decode method_2_code 10 = .ok (.if_icmp .ne 7, 3) := by decide +kernel
theorem d1_13 : decode method_2_code 13 = .ok (.getstatic 13, 3) := by decide +kernel
theorem d1_17 : decode method_2_code 17 = .ok (.iload_n 0, 1) := by decide +kernel
theorem d1_18 : decode method_2_code 18 = .ok (.iconst 2, 1) := by decide +kernel
theorem d1_19 : decode method_2_code 19 = .ok (.if_icmp .ne 7, 3) := by decide +kernel
theorem d1_22 : decode method_2_code 22 = .ok (.getstatic 16, 3) := by decide +kernel
theorem d1_26 : decode method_2_code 26 = .ok (.iload_n 0, 1) := by decide +kernel
theorem d1_27 : decode method_2_code 27 = .ok (.iconst 3, 1) := by decide +kernel
theorem d1_28 : decode method_2_code 28 = .ok (.if_icmp .ne 7, 3) := by decide +kernel
theorem d1_31 : decode method_2_code 31 = .ok (.getstatic 19, 3) := by decide +kernel
theorem d1_35 : decode method_2_code 35 = .ok (.iload_n 0, 1) := by decide +kernel
theorem d1_36 : decode method_2_code 36 = .ok (.iconst 4, 1) := by decide +kernel
theorem d1_37 : decode method_2_code 37 = .ok (.if_icmp .ne 7, 3) := by decide +kernel
theorem d1_40 : decode method_2_code 40 = .ok (.getstatic 22, 3) := by decide +kernel
theorem d1_44 : decode method_2_code 44 = .ok (.iload_n 0, 1) := by decide +kernel
theorem d1_45 : decode method_2_code 45 = .ok (.iconst 5, 1) := by decide +kernel
theorem d1_46 : decode method_2_code 46 = .ok (.if_icmp .ne 7, 3) := by decide +kernel
theorem d1_49 : decode method_2_code 49 = .ok (.getstatic 25, 3) := by decide +kernel
theorem d1_53 : decode method_2_code 53 = .ok (.iload_n 0, 1) := by decide +kernel
theorem d1_54 : decode method_2_code 54 = .ok (.bipush 6, 2) := by decide +kernel
theorem d1_56 : decode method_2_code 56 = .ok (.if_icmp .ne 7, 3) := by decide +kernel
theorem d1_59 : decode method_2_code 59 = .ok (.getstatic 28, 3) := by decide +kernel
theorem d1_63 : decode method_2_code 63 = .ok (.iload_n 0, 1) := by decide +kernel
theorem d1_64 : decode method_2_code 64 = .ok (.bipush 7, 2) := by decide +kernel
theorem d1_66 : decode method_2_code 66 = .ok (.if_icmp .ne 7, 3) := by decide +kernel
theorem d1_69 : decode method_2_code 69 = .ok (.getstatic 31, 3) := by decide +kernel
theorem d1_73 : decode method_2_code 73 = .ok (.iload_n 0, 1) := by decide +kernel
theorem d1_74 : decode method_2_code 74 = .ok (.bipush 8, 2) := by decide +kernel
theorem d1_76 : decode method_2_code 76 = .ok (.if_icmp .ne 7, 3) := by decide +kernel
theorem d1_79 : decode method_2_code 79 = .ok (.getstatic 34, 3) := by decide +kernel
theorem d1_83 : decode method_2_code 83 = .ok (.iload_n 0, 1) := by decide +kernel
theorem d1_84 : decode method_2_code 84 = .ok (.bipush 9, 2) := by decide +kernel
theorem d1_86 : decode method_2_code 86 = .ok (.if_icmp .ne 7, 3) := by decide +kernel
theorem d1_89 : decode method_2_code 89 = .ok (.getstatic 37, 3) := by decide +kernel
theorem d1_93 : decode method_2_code 93 = .ok (.iload_n 0, 1) := by decide +kernel
theorem d1_94 : decode method_2_code 94 = .ok (.bipush 10, 2) := by decide +kernel
theorem d1_96 : decode method_2_code 96 = .ok (.if_icmp .ne 7, 3) := by decide +kernel
theorem d1_99 : decode method_2_code 99 = .ok (.getstatic 40, 3) := by decide +kernel
theorem d1_103 : decode method_2_code 103 = .ok (.iload_n 0, 1) := by decide +kernel
theorem d1_104 : decode method_2_code 104 = .ok (.bipush 11, 2) := by decide +kernel
theorem d1_106 : decode method_2_code 106 = .ok (.if_icmp .ne 7, 3) := by decide +kernel
theorem d1_109 : decode method_2_code 109 = .ok (.getstatic 43, 3) := by decide +kernel
theorem d1_113 : decode method_2_code 113 = .ok (.iload_n 0, 1) := by decide +kernel
theorem d1_114 : decode method_2_code 114 = .ok (.bipush 12, 2) := by decide +kernel
theorem d1_116 : decode method_2_code 116 = .ok (.if_icmp .ne 7, 3) := by decide +kernel
theorem d1_119 : decode method_2_code 119 = .ok (.getstatic 46, 3) := by decide +kernel
theorem d1_123 : decode method_2_code 123 = .ok (.getstatic 49, 3) := by decide +kernel
theorem ef_1 (m : MethodId) (x0 : Int32) : entryFrame m #[(.int x0)] 1 = mkF m 0 #[.val (.int x0)] [] := by first | (simp [entryFrame, mkF, argsToLocals, Value.category]; done) | rfl
def f1 (p0 : Int32) (w_TRUE : Addr) (w_FALSE : Addr) (w_PROPOSITION : Addr) (w_NOT : Addr) (w_AND : Addr) (w_OR : Addr) (w_IMPLIES : Addr) (w_IFF : Addr) (w_AX : Addr) (w_EX : Addr) (w_AU : Addr) (w_EU : Addr) (w_AR : Addr) (w_ER : Addr) : Addr := (if p0 = (0 : Int32) then w_TRUE else (if p0 = (1 : Int32) then w_FALSE else (if p0 = (2 : Int32) then w_PROPOSITION else (if p0 = (3 : Int32) then w_NOT else (if p0 = (4 : Int32) then w_AND else (if p0 = (5 : Int32) then w_OR else (if p0 = (6 : Int32) then w_IMPLIES else (if p0 = (7 : Int32) then w_IFF else (if p0 = (8 : Int32) then w_AX else (if p0 = (9 : Int32) then w_EX else (if p0 = (10 : Int32) then w_AU else (if p0 = (11 : Int32) then w_EU else (if p0 = (12 : Int32) then w_AR else w_ER)))))))))))))
def Q1 (Z : State) (p0 : Int32) (w_TRUE : Addr) (w_FALSE : Addr) (w_PROPOSITION : Addr) (w_NOT : Addr) (w_AND : Addr) (w_OR : Addr) (w_IMPLIES : Addr) (w_IFF : Addr) (w_AX : Addr) (w_EX : Addr) (w_AU : Addr) (w_EU : Addr) (w_AR : Addr) (w_ER : Addr) (h0 : Heap) (n0 : Nat) (v : Option Value) (h : Heap) (L : List Loc) : Prop := v = some (.ref (f1 p0 w_TRUE w_FALSE w_PROPOSITION w_NOT w_AND w_OR w_IMPLIES w_IFF w_AX w_EX w_AU w_EU w_AR w_ER)) ∧ Fr n0 L ∧ h = h0
theorem d1_7 : decode method_2_code 7 = .ok (.areturn, 1) := by decide +kernel
theorem d1_16 : decode method_2_code 16 = .ok (.areturn, 1) := by decide +kernel
theorem d1_25 : decode method_2_code 25 = .ok (.areturn, 1) := by decide +kernel
theorem d1_34 : decode method_2_code 34 = .ok (.areturn, 1) := by decide +kernel
theorem d1_43 : decode method_2_code 43 = .ok (.areturn, 1) := by decide +kernel
theorem d1_52 : decode method_2_code 52 = .ok (.areturn, 1) := by decide +kernel
theorem d1_62 : decode method_2_code 62 = .ok (.areturn, 1) := by decide +kernel
theorem d1_72 : decode method_2_code 72 = .ok (.areturn, 1) := by decide +kernel
theorem d1_82 : decode method_2_code 82 = .ok (.areturn, 1) := by decide +kernel
theorem d1_92 : decode method_2_code 92 = .ok (.areturn, 1) := by decide +kernel
theorem d1_102 : decode method_2_code 102 = .ok (.areturn, 1) := by decide +kernel
theorem d1_112 : decode method_2_code 112 = .ok (.areturn, 1) := by decide +kernel
theorem d1_122 : decode method_2_code 122 = .ok (.areturn, 1) := by decide +kernel
theorem d1_126 : decode method_2_code 126 = .ok (.areturn, 1) := by decide +kernel
set_option maxRecDepth 65536 in
set_option maxHeartbeats 40000000 in
theorem rm1 (l : Launch) (Z : State) (aw : Array Value) (hw : ∀ d ∈ tables_1, d.before aw Z = true) (ws : List Jvm.Cond) (p0 : Int32) (w_TRUE : Addr) (w_FALSE : Addr) (w_PROPOSITION : Addr) (w_NOT : Addr) (w_AND : Addr) (w_OR : Addr) (w_IMPLIES : Addr) (w_IFF : Addr) (w_AX : Addr) (w_EX : Addr) (w_AU : Addr) (w_EU : Addr) (w_AR : Addr) (w_ER : Addr) (h0 : Heap) (n0 : Nat) (Z0 : n0 ≤ h0.size) (S_TRUE : Sta Z h0 "com/example/prune_to_fit/prunetofit/ctl/Operator" "TRUE" "Lcom/example/prune_to_fit/prunetofit/ctl/Operator;" (.ref w_TRUE)) (S_FALSE : Sta Z h0 "com/example/prune_to_fit/prunetofit/ctl/Operator" "FALSE" "Lcom/example/prune_to_fit/prunetofit/ctl/Operator;" (.ref w_FALSE)) (S_PROPOSITION : Sta Z h0 "com/example/prune_to_fit/prunetofit/ctl/Operator" "PROPOSITION" "Lcom/example/prune_to_fit/prunetofit/ctl/Operator;" (.ref w_PROPOSITION)) (S_NOT : Sta Z h0 "com/example/prune_to_fit/prunetofit/ctl/Operator" "NOT" "Lcom/example/prune_to_fit/prunetofit/ctl/Operator;" (.ref w_NOT)) (S_AND : Sta Z h0 "com/example/prune_to_fit/prunetofit/ctl/Operator" "AND" "Lcom/example/prune_to_fit/prunetofit/ctl/Operator;" (.ref w_AND)) (S_OR : Sta Z h0 "com/example/prune_to_fit/prunetofit/ctl/Operator" "OR" "Lcom/example/prune_to_fit/prunetofit/ctl/Operator;" (.ref w_OR)) (S_IMPLIES : Sta Z h0 "com/example/prune_to_fit/prunetofit/ctl/Operator" "IMPLIES" "Lcom/example/prune_to_fit/prunetofit/ctl/Operator;" (.ref w_IMPLIES)) (S_IFF : Sta Z h0 "com/example/prune_to_fit/prunetofit/ctl/Operator" "IFF" "Lcom/example/prune_to_fit/prunetofit/ctl/Operator;" (.ref w_IFF)) (S_AX : Sta Z h0 "com/example/prune_to_fit/prunetofit/ctl/Operator" "AX" "Lcom/example/prune_to_fit/prunetofit/ctl/Operator;" (.ref w_AX)) (S_EX : Sta Z h0 "com/example/prune_to_fit/prunetofit/ctl/Operator" "EX" "Lcom/example/prune_to_fit/prunetofit/ctl/Operator;" (.ref w_EX)) (S_AU : Sta Z h0 "com/example/prune_to_fit/prunetofit/ctl/Operator" "AU" "Lcom/example/prune_to_fit/prunetofit/ctl/Operator;" (.ref w_AU)) (S_EU : Sta Z h0 "com/example/prune_to_fit/prunetofit/ctl/Operator" "EU" "Lcom/example/prune_to_fit/prunetofit/ctl/Operator;" (.ref w_EU)) (S_AR : Sta Z h0 "com/example/prune_to_fit/prunetofit/ctl/Operator" "AR" "Lcom/example/prune_to_fit/prunetofit/ctl/Operator;" (.ref w_AR)) (S_ER : Sta Z h0 "com/example/prune_to_fit/prunetofit/ctl/Operator" "ER" "Lcom/example/prune_to_fit/prunetofit/ctl/Operator;" (.ref w_ER)) :
    MetFree l (⟨"com/example/prune_to_fit/prunetofit/ctl/OperatorTakesPinLaw", "pick", "(I)Lcom/example/prune_to_fit/prunetofit/ctl/Operator;"⟩ : MethodName) (head1 (Jvm.Cond.code (⟨"com/example/prune_to_fit/prunetofit/ctl/OperatorTakesPinLaw", "pick", "(I)Lcom/example/prune_to_fit/prunetofit/ctl/Operator;"⟩ : MethodName) method_2_code 1 (some (.object "com/example/prune_to_fit/prunetofit/ctl/Operator")) :: ws) ({ frames := 0, cells := 0, slots := 0, locals := 0 } : Room)) (fun a U => a = #[(.int p0)] ∧ Z.Warmed39 U.vm ∧ U.heap = h0) (fun _ _ _ _ _ => True) (fun _ U o U' => ∃ v L, o = .returned v ∧ Q1 Z p0 w_TRUE w_FALSE w_PROPOSITION w_NOT w_AND w_OR w_IMPLIES w_IFF w_AX w_EX w_AU w_EU w_AR w_ER h0 n0 v U'.heap L ∧ FrameEnd U o U' L ({ frames := 0, cells := 0, slots := 0, locals := 0 } : Room).cells ({ frames := 0, cells := 0, slots := 0, locals := 0 } : Room).slots) := by
  refine MetFree.of_bodySF (plainFor_of_name pn_1) hisR ?_
  intro p e s m args below meth c s₁ Bd hml0 hP hK
  obtain ⟨rfl, hZ, hh⟩ := hP
  have hx := Bd.exec
  have hby := Bd.bytes
  have hml : c.maxLocals = 1 := hml0
  have hown : s.vm.findClass "com/example/prune_to_fit/prunetofit/ctl/OperatorTakesPinLaw" = some m.cls := findClass_of_methodNamed Bd.named
  have hnm := (name_of_methodNamed Bd.named Bd.method).1
  have X0 : Stand p l e ({ frames := 0, cells := 0, slots := 0, locals := 0 } : Room) s m #[(.int p0)] below meth c s₁ [] 0 0 := Stand.of_body Bd
  have e0 : s₁.heap = h0 := by rw [← hh, Bd.state]; rfl
  have N0 := Fr.nil n0
  have pre0 : ∀ t, Steps p.tables e below (s₁.setTop (mkF m 0 #[.val (.int p0)] [])) t → Steps p.tables e below (s₁.setTop (entryFrame m #[(.int p0)] 1)) t := fun t k => castTop (ef_1 m p0) k
  have pre1 : ∀ t, Steps p.tables e below (s₁.setTop (mkF m 1 #[.val (.int p0)] [(.int p0)])) t → Steps p.tables e below (s₁.setTop (entryFrame m #[(.int p0)] 1)) t := fun t k => pre0 t (by
    show Steps p.tables e below (s₁.setTop (mkF m 0 #[.val (.int p0)] [])) _
    refine XS.iloadN X0.here hx rfl (hb hby d1_0) rfl ?_
    exact k)
  by_cases hc2 : p0 = (0 : Int32)
  · have pre3 : ∀ t, Steps p.tables e below (s₁.setTop (mkF m 4 #[.val (.int p0)] [])) t → Steps p.tables e below (s₁.setTop (entryFrame m #[(.int p0)] 1)) t := fun t k => pre1 t (by
      show Steps p.tables e below (s₁.setTop (mkF m 1 #[.val (.int p0)] [(.int p0)])) _
      refine XS.ifNo X0.here hx rfl (hb hby d1_1) rfl ((if0 _ _).trans (teq hc2).2) ?_
      exact k)
    obtain ⟨T4, X4, e4, st4⟩ := getS2 X0 hx hZ hown (host := "") (Or.inl (hw _ (List.mem_of_getElem? (i := 5) rfl))) Via.refl e0 S_TRUE (g := (mkF m 4 #[.val (.int p0)] [])) rfl (hb hby d1_4)
    obtain ⟨fs, hr, hrun, hended, hW, hsame⟩ := X4.leave (v := some (.ref w_TRUE)) (fun h => by rw [Bd.returns] at h; cases h)
    refine ⟨_, _, pre3 _ ?_, hrun, hended, _, _, rfl, ?_, ⟨_, rfl⟩, hW, hsame.mono (by decide) (by decide)⟩
    · show Steps p.tables e below (s₁.setTop (mkF m 4 #[.val (.int p0)] [])) _
      refine st4 _ ?_
      show Steps p.tables e below (T4.setTop (mkF m 7 #[.val (.int p0)] [(.ref w_TRUE)])) _
      jvm_step X4.here [X4.here.top, hx, (hb hby d1_7), X4.method', Bd.returns, Value.isRef, FieldType.isReference]
      first | (intro acts; rw [hr _ acts rfl rfl rfl]) | rw [hr _ _ rfl rfl rfl]
      exact Steps.refl _
    · show Q1 Z p0 w_TRUE w_FALSE w_PROPOSITION w_NOT w_AND w_OR w_IMPLIES w_IFF w_AX w_EX w_AU w_EU w_AR w_ER h0 n0 _ T4.heap _
      rw [e4]
      exact ⟨congrArg (fun z => some (Value.ref z)) (by simp only [f1, if_pos hc2]), N0, rfl⟩
  · have pre5 : ∀ t, Steps p.tables e below (s₁.setTop (mkF m 10 #[.val (.int p0)] [(.int (1 : Int32)), (.int p0)])) t → Steps p.tables e below (s₁.setTop (entryFrame m #[(.int p0)] 1)) t := fun t k => pre1 t (by
      show Steps p.tables e below (s₁.setTop (mkF m 1 #[.val (.int p0)] [(.int p0)])) _
      refine XS.ifYes X0.here hx rfl (pc0 := 1) (pc' := 8) rfl (hb hby d1_1) rfl ((if0 _ _).trans (feq hc2).2) (by decide) (by decide) ?_
      show Steps p.tables e below (s₁.setTop (mkF m 8 #[.val (.int p0)] [])) _
      refine XS.iloadN X0.here hx rfl (hb hby d1_8) rfl ?_
      show Steps p.tables e below (s₁.setTop (mkF m 9 #[.val (.int p0)] [(.int p0)])) _
      refine XS.iconst X0.here hx rfl (hb hby d1_9) ?_
      exact k)
    by_cases hc6 : p0 = (1 : Int32)
    · have pre7 : ∀ t, Steps p.tables e below (s₁.setTop (mkF m 13 #[.val (.int p0)] [])) t → Steps p.tables e below (s₁.setTop (entryFrame m #[(.int p0)] 1)) t := fun t k => pre5 t (by
        show Steps p.tables e below (s₁.setTop (mkF m 10 #[.val (.int p0)] [(.int (1 : Int32)), (.int p0)])) _
        refine XS.icmpNo X0.here hx rfl (hb hby d1_10) rfl (teq hc6).2 ?_
        exact k)
      obtain ⟨T8, X8, e8, st8⟩ := getS2 X0 hx hZ hown (host := "") (Or.inl (hw _ (List.mem_of_getElem? (i := 35) rfl))) Via.refl e0 S_FALSE (g := (mkF m 13 #[.val (.int p0)] [])) rfl (hb hby d1_13)
      obtain ⟨fs, hr, hrun, hended, hW, hsame⟩ := X8.leave (v := some (.ref w_FALSE)) (fun h => by rw [Bd.returns] at h; cases h)
      refine ⟨_, _, pre7 _ ?_, hrun, hended, _, _, rfl, ?_, ⟨_, rfl⟩, hW, hsame.mono (by decide) (by decide)⟩
      · show Steps p.tables e below (s₁.setTop (mkF m 13 #[.val (.int p0)] [])) _
        refine st8 _ ?_
        show Steps p.tables e below (T8.setTop (mkF m 16 #[.val (.int p0)] [(.ref w_FALSE)])) _
        jvm_step X8.here [X8.here.top, hx, (hb hby d1_16), X8.method', Bd.returns, Value.isRef, FieldType.isReference]
        first | (intro acts; rw [hr _ acts rfl rfl rfl]) | rw [hr _ _ rfl rfl rfl]
        exact Steps.refl _
      · show Q1 Z p0 w_TRUE w_FALSE w_PROPOSITION w_NOT w_AND w_OR w_IMPLIES w_IFF w_AX w_EX w_AU w_EU w_AR w_ER h0 n0 _ T8.heap _
        rw [e8]
        exact ⟨congrArg (fun z => some (Value.ref z)) (by simp only [f1, if_neg hc2, if_pos hc6]), N0, rfl⟩
    · have pre9 : ∀ t, Steps p.tables e below (s₁.setTop (mkF m 19 #[.val (.int p0)] [(.int (2 : Int32)), (.int p0)])) t → Steps p.tables e below (s₁.setTop (entryFrame m #[(.int p0)] 1)) t := fun t k => pre5 t (by
        show Steps p.tables e below (s₁.setTop (mkF m 10 #[.val (.int p0)] [(.int (1 : Int32)), (.int p0)])) _
        refine XS.icmpYes X0.here hx rfl (pc0 := 10) (pc' := 17) rfl (hb hby d1_10) rfl (feq hc6).2 (by decide) (by decide) ?_
        show Steps p.tables e below (s₁.setTop (mkF m 17 #[.val (.int p0)] [])) _
        refine XS.iloadN X0.here hx rfl (hb hby d1_17) rfl ?_
        show Steps p.tables e below (s₁.setTop (mkF m 18 #[.val (.int p0)] [(.int p0)])) _
        refine XS.iconst X0.here hx rfl (hb hby d1_18) ?_
        exact k)
      by_cases hc10 : p0 = (2 : Int32)
      · have pre11 : ∀ t, Steps p.tables e below (s₁.setTop (mkF m 22 #[.val (.int p0)] [])) t → Steps p.tables e below (s₁.setTop (entryFrame m #[(.int p0)] 1)) t := fun t k => pre9 t (by
          show Steps p.tables e below (s₁.setTop (mkF m 19 #[.val (.int p0)] [(.int (2 : Int32)), (.int p0)])) _
          refine XS.icmpNo X0.here hx rfl (hb hby d1_19) rfl (teq hc10).2 ?_
          exact k)
        obtain ⟨T12, X12, e12, st12⟩ := getS2 X0 hx hZ hown (host := "") (Or.inl (hw _ (List.mem_of_getElem? (i := 37) rfl))) Via.refl e0 S_PROPOSITION (g := (mkF m 22 #[.val (.int p0)] [])) rfl (hb hby d1_22)
        obtain ⟨fs, hr, hrun, hended, hW, hsame⟩ := X12.leave (v := some (.ref w_PROPOSITION)) (fun h => by rw [Bd.returns] at h; cases h)
        refine ⟨_, _, pre11 _ ?_, hrun, hended, _, _, rfl, ?_, ⟨_, rfl⟩, hW, hsame.mono (by decide) (by decide)⟩
        · show Steps p.tables e below (s₁.setTop (mkF m 22 #[.val (.int p0)] [])) _
          refine st12 _ ?_
          show Steps p.tables e below (T12.setTop (mkF m 25 #[.val (.int p0)] [(.ref w_PROPOSITION)])) _
          jvm_step X12.here [X12.here.top, hx, (hb hby d1_25), X12.method', Bd.returns, Value.isRef, FieldType.isReference]
          first | (intro acts; rw [hr _ acts rfl rfl rfl]) | rw [hr _ _ rfl rfl rfl]
          exact Steps.refl _
        · show Q1 Z p0 w_TRUE w_FALSE w_PROPOSITION w_NOT w_AND w_OR w_IMPLIES w_IFF w_AX w_EX w_AU w_EU w_AR w_ER h0 n0 _ T12.heap _
          rw [e12]
          exact ⟨congrArg (fun z => some (Value.ref z)) (by simp only [f1, if_neg hc2, if_neg hc6, if_pos hc10]), N0, rfl⟩
      · have pre13 : ∀ t, Steps p.tables e below (s₁.setTop (mkF m 28 #[.val (.int p0)] [(.int (3 : Int32)), (.int p0)])) t → Steps p.tables e below (s₁.setTop (entryFrame m #[(.int p0)] 1)) t := fun t k => pre9 t (by
          show Steps p.tables e below (s₁.setTop (mkF m 19 #[.val (.int p0)] [(.int (2 : Int32)), (.int p0)])) _
          refine XS.icmpYes X0.here hx rfl (pc0 := 19) (pc' := 26) rfl (hb hby d1_19) rfl (feq hc10).2 (by decide) (by decide) ?_
          show Steps p.tables e below (s₁.setTop (mkF m 26 #[.val (.int p0)] [])) _
          refine XS.iloadN X0.here hx rfl (hb hby d1_26) rfl ?_
          show Steps p.tables e below (s₁.setTop (mkF m 27 #[.val (.int p0)] [(.int p0)])) _
          refine XS.iconst X0.here hx rfl (hb hby d1_27) ?_
          exact k)
        by_cases hc14 : p0 = (3 : Int32)
        · have pre15 : ∀ t, Steps p.tables e below (s₁.setTop (mkF m 31 #[.val (.int p0)] [])) t → Steps p.tables e below (s₁.setTop (entryFrame m #[(.int p0)] 1)) t := fun t k => pre13 t (by
            show Steps p.tables e below (s₁.setTop (mkF m 28 #[.val (.int p0)] [(.int (3 : Int32)), (.int p0)])) _
            refine XS.icmpNo X0.here hx rfl (hb hby d1_28) rfl (teq hc14).2 ?_
            exact k)
          obtain ⟨T16, X16, e16, st16⟩ := getS2 X0 hx hZ hown (host := "") (Or.inl (hw _ (List.mem_of_getElem? (i := 31) rfl))) Via.refl e0 S_NOT (g := (mkF m 31 #[.val (.int p0)] [])) rfl (hb hby d1_31)
          obtain ⟨fs, hr, hrun, hended, hW, hsame⟩ := X16.leave (v := some (.ref w_NOT)) (fun h => by rw [Bd.returns] at h; cases h)
          refine ⟨_, _, pre15 _ ?_, hrun, hended, _, _, rfl, ?_, ⟨_, rfl⟩, hW, hsame.mono (by decide) (by decide)⟩
          · show Steps p.tables e below (s₁.setTop (mkF m 31 #[.val (.int p0)] [])) _
            refine st16 _ ?_
            show Steps p.tables e below (T16.setTop (mkF m 34 #[.val (.int p0)] [(.ref w_NOT)])) _
            jvm_step X16.here [X16.here.top, hx, (hb hby d1_34), X16.method', Bd.returns, Value.isRef, FieldType.isReference]
            first | (intro acts; rw [hr _ acts rfl rfl rfl]) | rw [hr _ _ rfl rfl rfl]
            exact Steps.refl _
          · show Q1 Z p0 w_TRUE w_FALSE w_PROPOSITION w_NOT w_AND w_OR w_IMPLIES w_IFF w_AX w_EX w_AU w_EU w_AR w_ER h0 n0 _ T16.heap _
            rw [e16]
            exact ⟨congrArg (fun z => some (Value.ref z)) (by simp only [f1, if_neg hc2, if_neg hc6, if_neg hc10, if_pos hc14]), N0, rfl⟩
        · have pre17 : ∀ t, Steps p.tables e below (s₁.setTop (mkF m 37 #[.val (.int p0)] [(.int (4 : Int32)), (.int p0)])) t → Steps p.tables e below (s₁.setTop (entryFrame m #[(.int p0)] 1)) t := fun t k => pre13 t (by
            show Steps p.tables e below (s₁.setTop (mkF m 28 #[.val (.int p0)] [(.int (3 : Int32)), (.int p0)])) _
            refine XS.icmpYes X0.here hx rfl (pc0 := 28) (pc' := 35) rfl (hb hby d1_28) rfl (feq hc14).2 (by decide) (by decide) ?_
            show Steps p.tables e below (s₁.setTop (mkF m 35 #[.val (.int p0)] [])) _
            refine XS.iloadN X0.here hx rfl (hb hby d1_35) rfl ?_
            show Steps p.tables e below (s₁.setTop (mkF m 36 #[.val (.int p0)] [(.int p0)])) _
            refine XS.iconst X0.here hx rfl (hb hby d1_36) ?_
            exact k)
          by_cases hc18 : p0 = (4 : Int32)
          · have pre19 : ∀ t, Steps p.tables e below (s₁.setTop (mkF m 40 #[.val (.int p0)] [])) t → Steps p.tables e below (s₁.setTop (entryFrame m #[(.int p0)] 1)) t := fun t k => pre17 t (by
              show Steps p.tables e below (s₁.setTop (mkF m 37 #[.val (.int p0)] [(.int (4 : Int32)), (.int p0)])) _
              refine XS.icmpNo X0.here hx rfl (hb hby d1_37) rfl (teq hc18).2 ?_
              exact k)
            obtain ⟨T20, X20, e20, st20⟩ := getS2 X0 hx hZ hown (host := "") (Or.inl (hw _ (List.mem_of_getElem? (i := 21) rfl))) Via.refl e0 S_AND (g := (mkF m 40 #[.val (.int p0)] [])) rfl (hb hby d1_40)
            obtain ⟨fs, hr, hrun, hended, hW, hsame⟩ := X20.leave (v := some (.ref w_AND)) (fun h => by rw [Bd.returns] at h; cases h)
            refine ⟨_, _, pre19 _ ?_, hrun, hended, _, _, rfl, ?_, ⟨_, rfl⟩, hW, hsame.mono (by decide) (by decide)⟩
            · show Steps p.tables e below (s₁.setTop (mkF m 40 #[.val (.int p0)] [])) _
              refine st20 _ ?_
              show Steps p.tables e below (T20.setTop (mkF m 43 #[.val (.int p0)] [(.ref w_AND)])) _
              jvm_step X20.here [X20.here.top, hx, (hb hby d1_43), X20.method', Bd.returns, Value.isRef, FieldType.isReference]
              first | (intro acts; rw [hr _ acts rfl rfl rfl]) | rw [hr _ _ rfl rfl rfl]
              exact Steps.refl _
            · show Q1 Z p0 w_TRUE w_FALSE w_PROPOSITION w_NOT w_AND w_OR w_IMPLIES w_IFF w_AX w_EX w_AU w_EU w_AR w_ER h0 n0 _ T20.heap _
              rw [e20]
              exact ⟨congrArg (fun z => some (Value.ref z)) (by simp only [f1, if_neg hc2, if_neg hc6, if_neg hc10, if_neg hc14, if_pos hc18]), N0, rfl⟩
          · have pre21 : ∀ t, Steps p.tables e below (s₁.setTop (mkF m 46 #[.val (.int p0)] [(.int (5 : Int32)), (.int p0)])) t → Steps p.tables e below (s₁.setTop (entryFrame m #[(.int p0)] 1)) t := fun t k => pre17 t (by
              show Steps p.tables e below (s₁.setTop (mkF m 37 #[.val (.int p0)] [(.int (4 : Int32)), (.int p0)])) _
              refine XS.icmpYes X0.here hx rfl (pc0 := 37) (pc' := 44) rfl (hb hby d1_37) rfl (feq hc18).2 (by decide) (by decide) ?_
              show Steps p.tables e below (s₁.setTop (mkF m 44 #[.val (.int p0)] [])) _
              refine XS.iloadN X0.here hx rfl (hb hby d1_44) rfl ?_
              show Steps p.tables e below (s₁.setTop (mkF m 45 #[.val (.int p0)] [(.int p0)])) _
              refine XS.iconst X0.here hx rfl (hb hby d1_45) ?_
              exact k)
            by_cases hc22 : p0 = (5 : Int32)
            · have pre23 : ∀ t, Steps p.tables e below (s₁.setTop (mkF m 49 #[.val (.int p0)] [])) t → Steps p.tables e below (s₁.setTop (entryFrame m #[(.int p0)] 1)) t := fun t k => pre21 t (by
                show Steps p.tables e below (s₁.setTop (mkF m 46 #[.val (.int p0)] [(.int (5 : Int32)), (.int p0)])) _
                refine XS.icmpNo X0.here hx rfl (hb hby d1_46) rfl (teq hc22).2 ?_
                exact k)
              obtain ⟨T24, X24, e24, st24⟩ := getS2 X0 hx hZ hown (host := "") (Or.inl (hw _ (List.mem_of_getElem? (i := 33) rfl))) Via.refl e0 S_OR (g := (mkF m 49 #[.val (.int p0)] [])) rfl (hb hby d1_49)
              obtain ⟨fs, hr, hrun, hended, hW, hsame⟩ := X24.leave (v := some (.ref w_OR)) (fun h => by rw [Bd.returns] at h; cases h)
              refine ⟨_, _, pre23 _ ?_, hrun, hended, _, _, rfl, ?_, ⟨_, rfl⟩, hW, hsame.mono (by decide) (by decide)⟩
              · show Steps p.tables e below (s₁.setTop (mkF m 49 #[.val (.int p0)] [])) _
                refine st24 _ ?_
                show Steps p.tables e below (T24.setTop (mkF m 52 #[.val (.int p0)] [(.ref w_OR)])) _
                jvm_step X24.here [X24.here.top, hx, (hb hby d1_52), X24.method', Bd.returns, Value.isRef, FieldType.isReference]
                first | (intro acts; rw [hr _ acts rfl rfl rfl]) | rw [hr _ _ rfl rfl rfl]
                exact Steps.refl _
              · show Q1 Z p0 w_TRUE w_FALSE w_PROPOSITION w_NOT w_AND w_OR w_IMPLIES w_IFF w_AX w_EX w_AU w_EU w_AR w_ER h0 n0 _ T24.heap _
                rw [e24]
                exact ⟨congrArg (fun z => some (Value.ref z)) (by simp only [f1, if_neg hc2, if_neg hc6, if_neg hc10, if_neg hc14, if_neg hc18, if_pos hc22]), N0, rfl⟩
            · have pre25 : ∀ t, Steps p.tables e below (s₁.setTop (mkF m 56 #[.val (.int p0)] [(.int (6 : Int32)), (.int p0)])) t → Steps p.tables e below (s₁.setTop (entryFrame m #[(.int p0)] 1)) t := fun t k => pre21 t (by
                show Steps p.tables e below (s₁.setTop (mkF m 46 #[.val (.int p0)] [(.int (5 : Int32)), (.int p0)])) _
                refine XS.icmpYes X0.here hx rfl (pc0 := 46) (pc' := 53) rfl (hb hby d1_46) rfl (feq hc22).2 (by decide) (by decide) ?_
                show Steps p.tables e below (s₁.setTop (mkF m 53 #[.val (.int p0)] [])) _
                refine XS.iloadN X0.here hx rfl (hb hby d1_53) rfl ?_
                show Steps p.tables e below (s₁.setTop (mkF m 54 #[.val (.int p0)] [(.int p0)])) _
                refine XS.bipush X0.here hx rfl (hb hby d1_54) ?_
                exact k)
              by_cases hc26 : p0 = (6 : Int32)
              · have pre27 : ∀ t, Steps p.tables e below (s₁.setTop (mkF m 59 #[.val (.int p0)] [])) t → Steps p.tables e below (s₁.setTop (entryFrame m #[(.int p0)] 1)) t := fun t k => pre25 t (by
                  show Steps p.tables e below (s₁.setTop (mkF m 56 #[.val (.int p0)] [(.int (6 : Int32)), (.int p0)])) _
                  refine XS.icmpNo X0.here hx rfl (hb hby d1_56) rfl (teq hc26).2 ?_
                  exact k)
                obtain ⟨T28, X28, e28, st28⟩ := getS2 X0 hx hZ hown (host := "") (Or.inl (hw _ (List.mem_of_getElem? (i := 25) rfl))) Via.refl e0 S_IMPLIES (g := (mkF m 59 #[.val (.int p0)] [])) rfl (hb hby d1_59)
                obtain ⟨fs, hr, hrun, hended, hW, hsame⟩ := X28.leave (v := some (.ref w_IMPLIES)) (fun h => by rw [Bd.returns] at h; cases h)
                refine ⟨_, _, pre27 _ ?_, hrun, hended, _, _, rfl, ?_, ⟨_, rfl⟩, hW, hsame.mono (by decide) (by decide)⟩
                · show Steps p.tables e below (s₁.setTop (mkF m 59 #[.val (.int p0)] [])) _
                  refine st28 _ ?_
                  show Steps p.tables e below (T28.setTop (mkF m 62 #[.val (.int p0)] [(.ref w_IMPLIES)])) _
                  jvm_step X28.here [X28.here.top, hx, (hb hby d1_62), X28.method', Bd.returns, Value.isRef, FieldType.isReference]
                  first | (intro acts; rw [hr _ acts rfl rfl rfl]) | rw [hr _ _ rfl rfl rfl]
                  exact Steps.refl _
                · show Q1 Z p0 w_TRUE w_FALSE w_PROPOSITION w_NOT w_AND w_OR w_IMPLIES w_IFF w_AX w_EX w_AU w_EU w_AR w_ER h0 n0 _ T28.heap _
                  rw [e28]
                  exact ⟨congrArg (fun z => some (Value.ref z)) (by simp only [f1, if_neg hc2, if_neg hc6, if_neg hc10, if_neg hc14, if_neg hc18, if_neg hc22, if_pos hc26]), N0, rfl⟩
              · have pre29 : ∀ t, Steps p.tables e below (s₁.setTop (mkF m 66 #[.val (.int p0)] [(.int (7 : Int32)), (.int p0)])) t → Steps p.tables e below (s₁.setTop (entryFrame m #[(.int p0)] 1)) t := fun t k => pre25 t (by
                  show Steps p.tables e below (s₁.setTop (mkF m 56 #[.val (.int p0)] [(.int (6 : Int32)), (.int p0)])) _
                  refine XS.icmpYes X0.here hx rfl (pc0 := 56) (pc' := 63) rfl (hb hby d1_56) rfl (feq hc26).2 (by decide) (by decide) ?_
                  show Steps p.tables e below (s₁.setTop (mkF m 63 #[.val (.int p0)] [])) _
                  refine XS.iloadN X0.here hx rfl (hb hby d1_63) rfl ?_
                  show Steps p.tables e below (s₁.setTop (mkF m 64 #[.val (.int p0)] [(.int p0)])) _
                  refine XS.bipush X0.here hx rfl (hb hby d1_64) ?_
                  exact k)
                by_cases hc30 : p0 = (7 : Int32)
                · have pre31 : ∀ t, Steps p.tables e below (s₁.setTop (mkF m 69 #[.val (.int p0)] [])) t → Steps p.tables e below (s₁.setTop (entryFrame m #[(.int p0)] 1)) t := fun t k => pre29 t (by
                    show Steps p.tables e below (s₁.setTop (mkF m 66 #[.val (.int p0)] [(.int (7 : Int32)), (.int p0)])) _
                    refine XS.icmpNo X0.here hx rfl (hb hby d1_66) rfl (teq hc30).2 ?_
                    exact k)
                  obtain ⟨T32, X32, e32, st32⟩ := getS2 X0 hx hZ hown (host := "") (Or.inl (hw _ (List.mem_of_getElem? (i := 29) rfl))) Via.refl e0 S_IFF (g := (mkF m 69 #[.val (.int p0)] [])) rfl (hb hby d1_69)
                  obtain ⟨fs, hr, hrun, hended, hW, hsame⟩ := X32.leave (v := some (.ref w_IFF)) (fun h => by rw [Bd.returns] at h; cases h)
                  refine ⟨_, _, pre31 _ ?_, hrun, hended, _, _, rfl, ?_, ⟨_, rfl⟩, hW, hsame.mono (by decide) (by decide)⟩
                  · show Steps p.tables e below (s₁.setTop (mkF m 69 #[.val (.int p0)] [])) _
                    refine st32 _ ?_
                    show Steps p.tables e below (T32.setTop (mkF m 72 #[.val (.int p0)] [(.ref w_IFF)])) _
                    jvm_step X32.here [X32.here.top, hx, (hb hby d1_72), X32.method', Bd.returns, Value.isRef, FieldType.isReference]
                    first | (intro acts; rw [hr _ acts rfl rfl rfl]) | rw [hr _ _ rfl rfl rfl]
                    exact Steps.refl _
                  · show Q1 Z p0 w_TRUE w_FALSE w_PROPOSITION w_NOT w_AND w_OR w_IMPLIES w_IFF w_AX w_EX w_AU w_EU w_AR w_ER h0 n0 _ T32.heap _
                    rw [e32]
                    exact ⟨congrArg (fun z => some (Value.ref z)) (by simp only [f1, if_neg hc2, if_neg hc6, if_neg hc10, if_neg hc14, if_neg hc18, if_neg hc22, if_neg hc26, if_pos hc30]), N0, rfl⟩
                · have pre33 : ∀ t, Steps p.tables e below (s₁.setTop (mkF m 76 #[.val (.int p0)] [(.int (8 : Int32)), (.int p0)])) t → Steps p.tables e below (s₁.setTop (entryFrame m #[(.int p0)] 1)) t := fun t k => pre29 t (by
                    show Steps p.tables e below (s₁.setTop (mkF m 66 #[.val (.int p0)] [(.int (7 : Int32)), (.int p0)])) _
                    refine XS.icmpYes X0.here hx rfl (pc0 := 66) (pc' := 73) rfl (hb hby d1_66) rfl (feq hc30).2 (by decide) (by decide) ?_
                    show Steps p.tables e below (s₁.setTop (mkF m 73 #[.val (.int p0)] [])) _
                    refine XS.iloadN X0.here hx rfl (hb hby d1_73) rfl ?_
                    show Steps p.tables e below (s₁.setTop (mkF m 74 #[.val (.int p0)] [(.int p0)])) _
                    refine XS.bipush X0.here hx rfl (hb hby d1_74) ?_
                    exact k)
                  by_cases hc34 : p0 = (8 : Int32)
                  · have pre35 : ∀ t, Steps p.tables e below (s₁.setTop (mkF m 79 #[.val (.int p0)] [])) t → Steps p.tables e below (s₁.setTop (entryFrame m #[(.int p0)] 1)) t := fun t k => pre33 t (by
                      show Steps p.tables e below (s₁.setTop (mkF m 76 #[.val (.int p0)] [(.int (8 : Int32)), (.int p0)])) _
                      refine XS.icmpNo X0.here hx rfl (hb hby d1_76) rfl (teq hc34).2 ?_
                      exact k)
                    obtain ⟨T36, X36, e36, st36⟩ := getS2 X0 hx hZ hown (host := "") (Or.inl (hw _ (List.mem_of_getElem? (i := 19) rfl))) Via.refl e0 S_AX (g := (mkF m 79 #[.val (.int p0)] [])) rfl (hb hby d1_79)
                    obtain ⟨fs, hr, hrun, hended, hW, hsame⟩ := X36.leave (v := some (.ref w_AX)) (fun h => by rw [Bd.returns] at h; cases h)
                    refine ⟨_, _, pre35 _ ?_, hrun, hended, _, _, rfl, ?_, ⟨_, rfl⟩, hW, hsame.mono (by decide) (by decide)⟩
                    · show Steps p.tables e below (s₁.setTop (mkF m 79 #[.val (.int p0)] [])) _
                      refine st36 _ ?_
                      show Steps p.tables e below (T36.setTop (mkF m 82 #[.val (.int p0)] [(.ref w_AX)])) _
                      jvm_step X36.here [X36.here.top, hx, (hb hby d1_82), X36.method', Bd.returns, Value.isRef, FieldType.isReference]
                      first | (intro acts; rw [hr _ acts rfl rfl rfl]) | rw [hr _ _ rfl rfl rfl]
                      exact Steps.refl _
                    · show Q1 Z p0 w_TRUE w_FALSE w_PROPOSITION w_NOT w_AND w_OR w_IMPLIES w_IFF w_AX w_EX w_AU w_EU w_AR w_ER h0 n0 _ T36.heap _
                      rw [e36]
                      exact ⟨congrArg (fun z => some (Value.ref z)) (by simp only [f1, if_neg hc2, if_neg hc6, if_neg hc10, if_neg hc14, if_neg hc18, if_neg hc22, if_neg hc26, if_neg hc30, if_pos hc34]), N0, rfl⟩
                  · have pre37 : ∀ t, Steps p.tables e below (s₁.setTop (mkF m 86 #[.val (.int p0)] [(.int (9 : Int32)), (.int p0)])) t → Steps p.tables e below (s₁.setTop (entryFrame m #[(.int p0)] 1)) t := fun t k => pre33 t (by
                      show Steps p.tables e below (s₁.setTop (mkF m 76 #[.val (.int p0)] [(.int (8 : Int32)), (.int p0)])) _
                      refine XS.icmpYes X0.here hx rfl (pc0 := 76) (pc' := 83) rfl (hb hby d1_76) rfl (feq hc34).2 (by decide) (by decide) ?_
                      show Steps p.tables e below (s₁.setTop (mkF m 83 #[.val (.int p0)] [])) _
                      refine XS.iloadN X0.here hx rfl (hb hby d1_83) rfl ?_
                      show Steps p.tables e below (s₁.setTop (mkF m 84 #[.val (.int p0)] [(.int p0)])) _
                      refine XS.bipush X0.here hx rfl (hb hby d1_84) ?_
                      exact k)
                    by_cases hc38 : p0 = (9 : Int32)
                    · have pre39 : ∀ t, Steps p.tables e below (s₁.setTop (mkF m 89 #[.val (.int p0)] [])) t → Steps p.tables e below (s₁.setTop (entryFrame m #[(.int p0)] 1)) t := fun t k => pre37 t (by
                        show Steps p.tables e below (s₁.setTop (mkF m 86 #[.val (.int p0)] [(.int (9 : Int32)), (.int p0)])) _
                        refine XS.icmpNo X0.here hx rfl (hb hby d1_86) rfl (teq hc38).2 ?_
                        exact k)
                      obtain ⟨T40, X40, e40, st40⟩ := getS2 X0 hx hZ hown (host := "") (Or.inl (hw _ (List.mem_of_getElem? (i := 41) rfl))) Via.refl e0 S_EX (g := (mkF m 89 #[.val (.int p0)] [])) rfl (hb hby d1_89)
                      obtain ⟨fs, hr, hrun, hended, hW, hsame⟩ := X40.leave (v := some (.ref w_EX)) (fun h => by rw [Bd.returns] at h; cases h)
                      refine ⟨_, _, pre39 _ ?_, hrun, hended, _, _, rfl, ?_, ⟨_, rfl⟩, hW, hsame.mono (by decide) (by decide)⟩
                      · show Steps p.tables e below (s₁.setTop (mkF m 89 #[.val (.int p0)] [])) _
                        refine st40 _ ?_
                        show Steps p.tables e below (T40.setTop (mkF m 92 #[.val (.int p0)] [(.ref w_EX)])) _
                        jvm_step X40.here [X40.here.top, hx, (hb hby d1_92), X40.method', Bd.returns, Value.isRef, FieldType.isReference]
                        first | (intro acts; rw [hr _ acts rfl rfl rfl]) | rw [hr _ _ rfl rfl rfl]
                        exact Steps.refl _
                      · show Q1 Z p0 w_TRUE w_FALSE w_PROPOSITION w_NOT w_AND w_OR w_IMPLIES w_IFF w_AX w_EX w_AU w_EU w_AR w_ER h0 n0 _ T40.heap _
                        rw [e40]
                        exact ⟨congrArg (fun z => some (Value.ref z)) (by simp only [f1, if_neg hc2, if_neg hc6, if_neg hc10, if_neg hc14, if_neg hc18, if_neg hc22, if_neg hc26, if_neg hc30, if_neg hc34, if_pos hc38]), N0, rfl⟩
                    · have pre41 : ∀ t, Steps p.tables e below (s₁.setTop (mkF m 96 #[.val (.int p0)] [(.int (10 : Int32)), (.int p0)])) t → Steps p.tables e below (s₁.setTop (entryFrame m #[(.int p0)] 1)) t := fun t k => pre37 t (by
                        show Steps p.tables e below (s₁.setTop (mkF m 86 #[.val (.int p0)] [(.int (9 : Int32)), (.int p0)])) _
                        refine XS.icmpYes X0.here hx rfl (pc0 := 86) (pc' := 93) rfl (hb hby d1_86) rfl (feq hc38).2 (by decide) (by decide) ?_
                        show Steps p.tables e below (s₁.setTop (mkF m 93 #[.val (.int p0)] [])) _
                        refine XS.iloadN X0.here hx rfl (hb hby d1_93) rfl ?_
                        show Steps p.tables e below (s₁.setTop (mkF m 94 #[.val (.int p0)] [(.int p0)])) _
                        refine XS.bipush X0.here hx rfl (hb hby d1_94) ?_
                        exact k)
                      by_cases hc42 : p0 = (10 : Int32)
                      · have pre43 : ∀ t, Steps p.tables e below (s₁.setTop (mkF m 99 #[.val (.int p0)] [])) t → Steps p.tables e below (s₁.setTop (entryFrame m #[(.int p0)] 1)) t := fun t k => pre41 t (by
                          show Steps p.tables e below (s₁.setTop (mkF m 96 #[.val (.int p0)] [(.int (10 : Int32)), (.int p0)])) _
                          refine XS.icmpNo X0.here hx rfl (hb hby d1_96) rfl (teq hc42).2 ?_
                          exact k)
                        obtain ⟨T44, X44, e44, st44⟩ := getS2 X0 hx hZ hown (host := "") (Or.inl (hw _ (List.mem_of_getElem? (i := 17) rfl))) Via.refl e0 S_AU (g := (mkF m 99 #[.val (.int p0)] [])) rfl (hb hby d1_99)
                        obtain ⟨fs, hr, hrun, hended, hW, hsame⟩ := X44.leave (v := some (.ref w_AU)) (fun h => by rw [Bd.returns] at h; cases h)
                        refine ⟨_, _, pre43 _ ?_, hrun, hended, _, _, rfl, ?_, ⟨_, rfl⟩, hW, hsame.mono (by decide) (by decide)⟩
                        · show Steps p.tables e below (s₁.setTop (mkF m 99 #[.val (.int p0)] [])) _
                          refine st44 _ ?_
                          show Steps p.tables e below (T44.setTop (mkF m 102 #[.val (.int p0)] [(.ref w_AU)])) _
                          jvm_step X44.here [X44.here.top, hx, (hb hby d1_102), X44.method', Bd.returns, Value.isRef, FieldType.isReference]
                          first | (intro acts; rw [hr _ acts rfl rfl rfl]) | rw [hr _ _ rfl rfl rfl]
                          exact Steps.refl _
                        · show Q1 Z p0 w_TRUE w_FALSE w_PROPOSITION w_NOT w_AND w_OR w_IMPLIES w_IFF w_AX w_EX w_AU w_EU w_AR w_ER h0 n0 _ T44.heap _
                          rw [e44]
                          exact ⟨congrArg (fun z => some (Value.ref z)) (by simp only [f1, if_neg hc2, if_neg hc6, if_neg hc10, if_neg hc14, if_neg hc18, if_neg hc22, if_neg hc26, if_neg hc30, if_neg hc34, if_neg hc38, if_pos hc42]), N0, rfl⟩
                      · have pre45 : ∀ t, Steps p.tables e below (s₁.setTop (mkF m 106 #[.val (.int p0)] [(.int (11 : Int32)), (.int p0)])) t → Steps p.tables e below (s₁.setTop (entryFrame m #[(.int p0)] 1)) t := fun t k => pre41 t (by
                          show Steps p.tables e below (s₁.setTop (mkF m 96 #[.val (.int p0)] [(.int (10 : Int32)), (.int p0)])) _
                          refine XS.icmpYes X0.here hx rfl (pc0 := 96) (pc' := 103) rfl (hb hby d1_96) rfl (feq hc42).2 (by decide) (by decide) ?_
                          show Steps p.tables e below (s₁.setTop (mkF m 103 #[.val (.int p0)] [])) _
                          refine XS.iloadN X0.here hx rfl (hb hby d1_103) rfl ?_
                          show Steps p.tables e below (s₁.setTop (mkF m 104 #[.val (.int p0)] [(.int p0)])) _
                          refine XS.bipush X0.here hx rfl (hb hby d1_104) ?_
                          exact k)
                        by_cases hc46 : p0 = (11 : Int32)
                        · have pre47 : ∀ t, Steps p.tables e below (s₁.setTop (mkF m 109 #[.val (.int p0)] [])) t → Steps p.tables e below (s₁.setTop (entryFrame m #[(.int p0)] 1)) t := fun t k => pre45 t (by
                            show Steps p.tables e below (s₁.setTop (mkF m 106 #[.val (.int p0)] [(.int (11 : Int32)), (.int p0)])) _
                            refine XS.icmpNo X0.here hx rfl (hb hby d1_106) rfl (teq hc46).2 ?_
                            exact k)
                          obtain ⟨T48, X48, e48, st48⟩ := getS2 X0 hx hZ hown (host := "") (Or.inl (hw _ (List.mem_of_getElem? (i := 23) rfl))) Via.refl e0 S_EU (g := (mkF m 109 #[.val (.int p0)] [])) rfl (hb hby d1_109)
                          obtain ⟨fs, hr, hrun, hended, hW, hsame⟩ := X48.leave (v := some (.ref w_EU)) (fun h => by rw [Bd.returns] at h; cases h)
                          refine ⟨_, _, pre47 _ ?_, hrun, hended, _, _, rfl, ?_, ⟨_, rfl⟩, hW, hsame.mono (by decide) (by decide)⟩
                          · show Steps p.tables e below (s₁.setTop (mkF m 109 #[.val (.int p0)] [])) _
                            refine st48 _ ?_
                            show Steps p.tables e below (T48.setTop (mkF m 112 #[.val (.int p0)] [(.ref w_EU)])) _
                            jvm_step X48.here [X48.here.top, hx, (hb hby d1_112), X48.method', Bd.returns, Value.isRef, FieldType.isReference]
                            first | (intro acts; rw [hr _ acts rfl rfl rfl]) | rw [hr _ _ rfl rfl rfl]
                            exact Steps.refl _
                          · show Q1 Z p0 w_TRUE w_FALSE w_PROPOSITION w_NOT w_AND w_OR w_IMPLIES w_IFF w_AX w_EX w_AU w_EU w_AR w_ER h0 n0 _ T48.heap _
                            rw [e48]
                            exact ⟨congrArg (fun z => some (Value.ref z)) (by simp only [f1, if_neg hc2, if_neg hc6, if_neg hc10, if_neg hc14, if_neg hc18, if_neg hc22, if_neg hc26, if_neg hc30, if_neg hc34, if_neg hc38, if_neg hc42, if_pos hc46]), N0, rfl⟩
                        · have pre49 : ∀ t, Steps p.tables e below (s₁.setTop (mkF m 116 #[.val (.int p0)] [(.int (12 : Int32)), (.int p0)])) t → Steps p.tables e below (s₁.setTop (entryFrame m #[(.int p0)] 1)) t := fun t k => pre45 t (by
                            show Steps p.tables e below (s₁.setTop (mkF m 106 #[.val (.int p0)] [(.int (11 : Int32)), (.int p0)])) _
                            refine XS.icmpYes X0.here hx rfl (pc0 := 106) (pc' := 113) rfl (hb hby d1_106) rfl (feq hc46).2 (by decide) (by decide) ?_
                            show Steps p.tables e below (s₁.setTop (mkF m 113 #[.val (.int p0)] [])) _
                            refine XS.iloadN X0.here hx rfl (hb hby d1_113) rfl ?_
                            show Steps p.tables e below (s₁.setTop (mkF m 114 #[.val (.int p0)] [(.int p0)])) _
                            refine XS.bipush X0.here hx rfl (hb hby d1_114) ?_
                            exact k)
                          by_cases hc50 : p0 = (12 : Int32)
                          · have pre51 : ∀ t, Steps p.tables e below (s₁.setTop (mkF m 119 #[.val (.int p0)] [])) t → Steps p.tables e below (s₁.setTop (entryFrame m #[(.int p0)] 1)) t := fun t k => pre49 t (by
                              show Steps p.tables e below (s₁.setTop (mkF m 116 #[.val (.int p0)] [(.int (12 : Int32)), (.int p0)])) _
                              refine XS.icmpNo X0.here hx rfl (hb hby d1_116) rfl (teq hc50).2 ?_
                              exact k)
                            obtain ⟨T52, X52, e52, st52⟩ := getS2 X0 hx hZ hown (host := "") (Or.inl (hw _ (List.mem_of_getElem? (i := 27) rfl))) Via.refl e0 S_AR (g := (mkF m 119 #[.val (.int p0)] [])) rfl (hb hby d1_119)
                            obtain ⟨fs, hr, hrun, hended, hW, hsame⟩ := X52.leave (v := some (.ref w_AR)) (fun h => by rw [Bd.returns] at h; cases h)
                            refine ⟨_, _, pre51 _ ?_, hrun, hended, _, _, rfl, ?_, ⟨_, rfl⟩, hW, hsame.mono (by decide) (by decide)⟩
                            · show Steps p.tables e below (s₁.setTop (mkF m 119 #[.val (.int p0)] [])) _
                              refine st52 _ ?_
                              show Steps p.tables e below (T52.setTop (mkF m 122 #[.val (.int p0)] [(.ref w_AR)])) _
                              jvm_step X52.here [X52.here.top, hx, (hb hby d1_122), X52.method', Bd.returns, Value.isRef, FieldType.isReference]
                              first | (intro acts; rw [hr _ acts rfl rfl rfl]) | rw [hr _ _ rfl rfl rfl]
                              exact Steps.refl _
                            · show Q1 Z p0 w_TRUE w_FALSE w_PROPOSITION w_NOT w_AND w_OR w_IMPLIES w_IFF w_AX w_EX w_AU w_EU w_AR w_ER h0 n0 _ T52.heap _
                              rw [e52]
                              exact ⟨congrArg (fun z => some (Value.ref z)) (by simp only [f1, if_neg hc2, if_neg hc6, if_neg hc10, if_neg hc14, if_neg hc18, if_neg hc22, if_neg hc26, if_neg hc30, if_neg hc34, if_neg hc38, if_neg hc42, if_neg hc46, if_pos hc50]), N0, rfl⟩
                          · have pre53 : ∀ t, Steps p.tables e below (s₁.setTop (mkF m 123 #[.val (.int p0)] [])) t → Steps p.tables e below (s₁.setTop (entryFrame m #[(.int p0)] 1)) t := fun t k => pre49 t (by
                              show Steps p.tables e below (s₁.setTop (mkF m 116 #[.val (.int p0)] [(.int (12 : Int32)), (.int p0)])) _
                              refine XS.icmpYes X0.here hx rfl (pc0 := 116) (pc' := 123) rfl (hb hby d1_116) rfl (feq hc50).2 (by decide) (by decide) ?_
                              exact k)
                            obtain ⟨T54, X54, e54, st54⟩ := getS2 X0 hx hZ hown (host := "") (Or.inl (hw _ (List.mem_of_getElem? (i := 39) rfl))) Via.refl e0 S_ER (g := (mkF m 123 #[.val (.int p0)] [])) rfl (hb hby d1_123)
                            obtain ⟨fs, hr, hrun, hended, hW, hsame⟩ := X54.leave (v := some (.ref w_ER)) (fun h => by rw [Bd.returns] at h; cases h)
                            refine ⟨_, _, pre53 _ ?_, hrun, hended, _, _, rfl, ?_, ⟨_, rfl⟩, hW, hsame.mono (by decide) (by decide)⟩
                            · show Steps p.tables e below (s₁.setTop (mkF m 123 #[.val (.int p0)] [])) _
                              refine st54 _ ?_
                              show Steps p.tables e below (T54.setTop (mkF m 126 #[.val (.int p0)] [(.ref w_ER)])) _
                              jvm_step X54.here [X54.here.top, hx, (hb hby d1_126), X54.method', Bd.returns, Value.isRef, FieldType.isReference]
                              first | (intro acts; rw [hr _ acts rfl rfl rfl]) | rw [hr _ _ rfl rfl rfl]
                              exact Steps.refl _
                            · show Q1 Z p0 w_TRUE w_FALSE w_PROPOSITION w_NOT w_AND w_OR w_IMPLIES w_IFF w_AX w_EX w_AU w_EU w_AR w_ER h0 n0 _ T54.heap _
                              rw [e54]
                              exact ⟨congrArg (fun z => some (Value.ref z)) (by simp only [f1, if_neg hc2, if_neg hc6, if_neg hc10, if_neg hc14, if_neg hc18, if_neg hc22, if_neg hc26, if_neg hc30, if_neg hc34, if_neg hc38, if_neg hc42, if_neg hc46, if_neg hc50]), N0, rfl⟩
theorem pn_0 : plainName "com/example/prune_to_fit/prunetofit/ctl/Operator" = true := by first | (simp [plainName, overriddenIn]; done) | decide +kernel
theorem d2_0 : decode prog_11_method_4_code 0 = .ok (.iload_n 1, 1) := by decide +kernel
theorem d2_1 : decode prog_11_method_4_code 1 = .ok (.aload_n 0, 1) := by decide +kernel
theorem d2_2 : decode prog_11_method_4_code 2 = .ok (.getfield 65, 3) := by decide +kernel
theorem d2_5 : decode prog_11_method_4_code 5 = .ok (.if_icmp .lt 15, 3) := by decide +kernel
theorem d2_20 : decode prog_11_method_4_code 20 = .ok (.iconst 0, 1) := by decide +kernel
theorem d2_8 : decode prog_11_method_4_code 8 = .ok (.iload_n 1, 1) := by decide +kernel
theorem d2_9 : decode prog_11_method_4_code 9 = .ok (.aload_n 0, 1) := by decide +kernel
theorem d2_10 : decode prog_11_method_4_code 10 = .ok (.getfield 69, 3) := by decide +kernel
theorem d2_13 : decode prog_11_method_4_code 13 = .ok (.if_icmp .gt 7, 3) := by decide +kernel
theorem d2_16 : decode prog_11_method_4_code 16 = .ok (.iconst 1, 1) := by decide +kernel
theorem d2_17 : decode prog_11_method_4_code 17 = .ok (.goto 4, 3) := by decide +kernel
theorem ef_2 (m : MethodId) (x0 : Addr) (x1 : Int32) : entryFrame m #[(.ref x0), (.int x1)] 2 = mkF m 0 #[.val (.ref x0), .val (.int x1)] [] := by first | (simp [entryFrame, mkF, argsToLocals, Value.category]; done) | rfl
def f2 (p1 : Int32) (w_minOperands_a0 : Int32) (w_maxOperands_a0 : Int32) : Int32 := (let j9 : Int32 := (if p1 < w_minOperands_a0 then (0 : Int32) else (if w_maxOperands_a0 < p1 then (0 : Int32) else (1 : Int32))); (nar .boolean j9))
def Q2 (Z : State) (a0 : Addr) (p1 : Int32) (w_minOperands_a0 : Int32) (w_maxOperands_a0 : Int32) (h0 : Heap) (n0 : Nat) (v : Option Value) (h : Heap) (L : List Loc) : Prop := v = some (.int (f2 p1 w_minOperands_a0 w_maxOperands_a0)) ∧ Fr n0 L ∧ h = h0
theorem d2_21 : decode prog_11_method_4_code 21 = .ok (.ireturn, 1) := by decide +kernel
set_option maxRecDepth 65536 in
set_option maxHeartbeats 40000000 in
theorem rm2 (l : Launch) (Z : State) (aw : Array Value) (hw : ∀ d ∈ tables_1, d.before aw Z = true) (ws : List Jvm.Cond) (a0 : Addr) (p1 : Int32) (w_minOperands_a0 : Int32) (w_maxOperands_a0 : Int32) (h0 : Heap) (n0 : Nat) (Z0 : n0 ≤ h0.size) (F_minOperands_a0 : Fld Z h0 a0 "com/example/prune_to_fit/prunetofit/ctl/Operator" "minOperands" "I" (.int w_minOperands_a0)) (F_maxOperands_a0 : Fld Z h0 a0 "com/example/prune_to_fit/prunetofit/ctl/Operator" "maxOperands" "I" (.int w_maxOperands_a0)) :
    MetFree l (⟨"com/example/prune_to_fit/prunetofit/ctl/Operator", "takes", "(I)Z"⟩ : MethodName) (head1 (Jvm.Cond.code (⟨"com/example/prune_to_fit/prunetofit/ctl/Operator", "takes", "(I)Z"⟩ : MethodName) prog_11_method_4_code 2 (some .boolean) :: ws) ({ frames := 0, cells := 0, slots := 0, locals := 0 } : Room)) (fun a U => a = #[(.ref a0), (.int p1)] ∧ Z.Warmed39 U.vm ∧ U.heap = h0) (fun _ _ _ _ _ => True) (fun _ U o U' => ∃ v L, o = .returned v ∧ Q2 Z a0 p1 w_minOperands_a0 w_maxOperands_a0 h0 n0 v U'.heap L ∧ FrameEnd U o U' L ({ frames := 0, cells := 0, slots := 0, locals := 0 } : Room).cells ({ frames := 0, cells := 0, slots := 0, locals := 0 } : Room).slots) := by
  refine MetFree.of_bodySF (plainFor_of_name pn_0) hisR ?_
  intro p e s m args below meth c s₁ Bd hml0 hP hK
  obtain ⟨rfl, hZ, hh⟩ := hP
  have hx := Bd.exec
  have hby := Bd.bytes
  have hml : c.maxLocals = 2 := hml0
  have hown : s.vm.findClass "com/example/prune_to_fit/prunetofit/ctl/Operator" = some m.cls := findClass_of_methodNamed Bd.named
  have hnm := (name_of_methodNamed Bd.named Bd.method).1
  have X0 : Stand p l e ({ frames := 0, cells := 0, slots := 0, locals := 0 } : Room) s m #[(.ref a0), (.int p1)] below meth c s₁ [] 0 0 := Stand.of_body Bd
  have e0 : s₁.heap = h0 := by rw [← hh, Bd.state]; rfl
  have N0 := Fr.nil n0
  have pre0 : ∀ t, Steps p.tables e below (s₁.setTop (mkF m 0 #[.val (.ref a0), .val (.int p1)] [])) t → Steps p.tables e below (s₁.setTop (entryFrame m #[(.ref a0), (.int p1)] 2)) t := fun t k => castTop (ef_2 m a0 p1) k
  have pre1 : ∀ t, Steps p.tables e below (s₁.setTop (mkF m 2 #[.val (.ref a0), .val (.int p1)] [(.ref a0), (.int p1)])) t → Steps p.tables e below (s₁.setTop (entryFrame m #[(.ref a0), (.int p1)] 2)) t := fun t k => pre0 t (by
    show Steps p.tables e below (s₁.setTop (mkF m 0 #[.val (.ref a0), .val (.int p1)] [])) _
    refine XS.iloadN X0.here hx rfl (hb hby d2_0) rfl ?_
    show Steps p.tables e below (s₁.setTop (mkF m 1 #[.val (.ref a0), .val (.int p1)] [(.int p1)])) _
    refine XS.aloadN X0.here hx rfl (hb hby d2_1) rfl rfl ?_
    exact k)
  obtain ⟨T2, X2, e2, st2⟩ := getF X0 hx hZ hown (host := "") (Or.inl (hw _ (List.mem_of_getElem? (i := 13) rfl))) Via.refl e0 F_minOperands_a0 (g := (mkF m 2 #[.val (.ref a0), .val (.int p1)] [(.ref a0), (.int p1)])) rfl rfl (hb hby d2_2)
  have pre3 : ∀ t, Steps p.tables e below (T2.setTop (mkF m 5 #[.val (.ref a0), .val (.int p1)] [(.int w_minOperands_a0), (.int p1)])) t → Steps p.tables e below (s₁.setTop (entryFrame m #[(.ref a0), (.int p1)] 2)) t := fun t k => pre1 t (by
    show Steps p.tables e below (s₁.setTop (mkF m 2 #[.val (.ref a0), .val (.int p1)] [(.ref a0), (.int p1)])) _
    refine st2 _ ?_
    exact k)
  obtain ⟨T11, LjT11, j9, X11, N11, e11, hj9, pre10⟩ : ∃ (T11 : State) (LjT11 : List Loc) (j9 : Int32), Stand p l e ({ frames := 0, cells := 0, slots := 0, locals := 0 } : Room) s m #[(.ref a0), (.int p1)] below meth c T11 LjT11 0 0 ∧ Fr n0 LjT11 ∧ T11.heap = h0 ∧ j9 = (if p1 < w_minOperands_a0 then (0 : Int32) else (if w_maxOperands_a0 < p1 then (0 : Int32) else (1 : Int32))) ∧ ∀ t, Steps p.tables e below (T11.setTop (mkF m 21 #[.val (.ref a0), .val (.int p1)] [(.int j9)])) t → Steps p.tables e below (s₁.setTop (entryFrame m #[(.ref a0), (.int p1)] 2)) t := by
    by_cases hc4 : p1 < w_minOperands_a0
    · exact ⟨_, _, (0 : Int32), X2, N0, e2, (by rw [if_pos hc4]), fun t k => pre3 t (by
        show Steps p.tables e below (T2.setTop (mkF m 5 #[.val (.ref a0), .val (.int p1)] [(.int w_minOperands_a0), (.int p1)])) _
        refine XS.icmpYes X2.here hx rfl (pc0 := 5) (pc' := 20) rfl (hb hby d2_5) rfl (tlt hc4).1 (by decide) (by decide) ?_
        show Steps p.tables e below (T2.setTop (mkF m 20 #[.val (.ref a0), .val (.int p1)] [])) _
        refine XS.iconst X2.here hx rfl (hb hby d2_20) ?_
        exact k)⟩
    · have pre5 : ∀ t, Steps p.tables e below (T2.setTop (mkF m 10 #[.val (.ref a0), .val (.int p1)] [(.ref a0), (.int p1)])) t → Steps p.tables e below (s₁.setTop (entryFrame m #[(.ref a0), (.int p1)] 2)) t := fun t k => pre3 t (by
        show Steps p.tables e below (T2.setTop (mkF m 5 #[.val (.ref a0), .val (.int p1)] [(.int w_minOperands_a0), (.int p1)])) _
        refine XS.icmpNo X2.here hx rfl (hb hby d2_5) rfl (flt hc4).1 ?_
        show Steps p.tables e below (T2.setTop (mkF m 8 #[.val (.ref a0), .val (.int p1)] [])) _
        refine XS.iloadN X2.here hx rfl (hb hby d2_8) rfl ?_
        show Steps p.tables e below (T2.setTop (mkF m 9 #[.val (.ref a0), .val (.int p1)] [(.int p1)])) _
        refine XS.aloadN X2.here hx rfl (hb hby d2_9) rfl rfl ?_
        exact k)
      obtain ⟨T6, X6, e6, st6⟩ := getF X2 hx hZ hown (host := "") (Or.inl (hw _ (List.mem_of_getElem? (i := 15) rfl))) Via.refl e2 F_maxOperands_a0 (g := (mkF m 10 #[.val (.ref a0), .val (.int p1)] [(.ref a0), (.int p1)])) rfl rfl (hb hby d2_10)
      have pre7 : ∀ t, Steps p.tables e below (T6.setTop (mkF m 13 #[.val (.ref a0), .val (.int p1)] [(.int w_maxOperands_a0), (.int p1)])) t → Steps p.tables e below (s₁.setTop (entryFrame m #[(.ref a0), (.int p1)] 2)) t := fun t k => pre5 t (by
        show Steps p.tables e below (T2.setTop (mkF m 10 #[.val (.ref a0), .val (.int p1)] [(.ref a0), (.int p1)])) _
        refine st6 _ ?_
        exact k)
      by_cases hc8 : w_maxOperands_a0 < p1
      · exact ⟨_, _, (0 : Int32), X6, N0, e6, (by rw [if_neg hc4, if_pos hc8]), fun t k => pre7 t (by
          show Steps p.tables e below (T6.setTop (mkF m 13 #[.val (.ref a0), .val (.int p1)] [(.int w_maxOperands_a0), (.int p1)])) _
          refine XS.icmpYes X6.here hx rfl (pc0 := 13) (pc' := 20) rfl (hb hby d2_13) rfl (tlt hc8).2.2.1 (by decide) (by decide) ?_
          show Steps p.tables e below (T6.setTop (mkF m 20 #[.val (.ref a0), .val (.int p1)] [])) _
          refine XS.iconst X6.here hx rfl (hb hby d2_20) ?_
          exact k)⟩
      · exact ⟨_, _, (1 : Int32), X6, N0, e6, (by rw [if_neg hc4, if_neg hc8]), fun t k => pre7 t (by
          show Steps p.tables e below (T6.setTop (mkF m 13 #[.val (.ref a0), .val (.int p1)] [(.int w_maxOperands_a0), (.int p1)])) _
          refine XS.icmpNo X6.here hx rfl (hb hby d2_13) rfl (flt hc8).2.2.1 ?_
          show Steps p.tables e below (T6.setTop (mkF m 16 #[.val (.ref a0), .val (.int p1)] [])) _
          refine XS.iconst X6.here hx rfl (hb hby d2_16) ?_
          show Steps p.tables e below (T6.setTop (mkF m 17 #[.val (.ref a0), .val (.int p1)] [(.int (1 : Int32))])) _
          refine XS.goto X6.here hx rfl (pc0 := 17) (pc' := 21) rfl (hb hby d2_17) (by decide) (by decide) ?_
          exact k)⟩
  obtain ⟨fs, hr, hrun, hended, hW, hsame⟩ := X11.leave (v := some (.int (nar .boolean j9))) (fun h => by rw [Bd.returns] at h; cases h)
  refine ⟨_, _, pre10 _ ?_, hrun, hended, _, _, rfl, ?_, ⟨_, rfl⟩, hW, hsame.mono (by decide) (by decide)⟩
  · show Steps p.tables e below (T11.setTop (mkF m 21 #[.val (.ref a0), .val (.int p1)] [(.int j9)])) _
    exact retN X11 hx (t := .boolean) Bd.returns (by simp) (hb hby d2_21) hr
  · show Q2 Z a0 p1 w_minOperands_a0 w_maxOperands_a0 h0 n0 _ T11.heap _
    rw [e11]
    exact ⟨congrArg (fun z => some (Value.int z)) (by subst hj9; rfl), N11, rfl⟩
def own_min (i : Int32) : Int32 := (if i = (0 : Int32) then (0 : Int32) else (if i = (1 : Int32) then (0 : Int32) else (if i = (2 : Int32) then (0 : Int32) else (if i = (3 : Int32) then (1 : Int32) else (if i = (4 : Int32) then (2 : Int32) else (if i = (5 : Int32) then (2 : Int32) else (if i = (6 : Int32) then (2 : Int32) else (if i = (7 : Int32) then (2 : Int32) else (if i = (8 : Int32) then (1 : Int32) else (if i = (9 : Int32) then (1 : Int32) else (if i = (10 : Int32) then (2 : Int32) else (if i = (11 : Int32) then (2 : Int32) else (if i = (12 : Int32) then (2 : Int32) else (2 : Int32))))))))))))))
def own_max (i : Int32) : Int32 := (if i = (0 : Int32) then (0 : Int32) else (if i = (1 : Int32) then (0 : Int32) else (if i = (2 : Int32) then (0 : Int32) else (if i = (3 : Int32) then (1 : Int32) else (if i = (4 : Int32) then (2147483647 : Int32) else (if i = (5 : Int32) then (2147483647 : Int32) else (if i = (6 : Int32) then (2 : Int32) else (if i = (7 : Int32) then (2 : Int32) else (if i = (8 : Int32) then (1 : Int32) else (if i = (9 : Int32) then (1 : Int32) else (if i = (10 : Int32) then (2 : Int32) else (if i = (11 : Int32) then (2 : Int32) else (if i = (12 : Int32) then (2 : Int32) else (2 : Int32))))))))))))))
theorem own_pick {Z : State} {h : Heap} (i : Int32) (w_TRUE : Addr) (w_FALSE : Addr) (w_PROPOSITION : Addr) (w_NOT : Addr) (w_AND : Addr) (w_OR : Addr) (w_IMPLIES : Addr) (w_IFF : Addr) (w_AX : Addr) (w_EX : Addr) (w_AU : Addr) (w_EU : Addr) (w_AR : Addr) (w_ER : Addr) (E_TRUE : Exa Z h w_TRUE "com/example/prune_to_fit/prunetofit/ctl/Operator") (A_TRUE : Fld Z h w_TRUE "com/example/prune_to_fit/prunetofit/ctl/Operator" "minOperands" "I" (.int (0 : Int32))) (M_TRUE : Fld Z h w_TRUE "com/example/prune_to_fit/prunetofit/ctl/Operator" "maxOperands" "I" (.int (0 : Int32))) (E_FALSE : Exa Z h w_FALSE "com/example/prune_to_fit/prunetofit/ctl/Operator") (A_FALSE : Fld Z h w_FALSE "com/example/prune_to_fit/prunetofit/ctl/Operator" "minOperands" "I" (.int (0 : Int32))) (M_FALSE : Fld Z h w_FALSE "com/example/prune_to_fit/prunetofit/ctl/Operator" "maxOperands" "I" (.int (0 : Int32))) (E_PROPOSITION : Exa Z h w_PROPOSITION "com/example/prune_to_fit/prunetofit/ctl/Operator") (A_PROPOSITION : Fld Z h w_PROPOSITION "com/example/prune_to_fit/prunetofit/ctl/Operator" "minOperands" "I" (.int (0 : Int32))) (M_PROPOSITION : Fld Z h w_PROPOSITION "com/example/prune_to_fit/prunetofit/ctl/Operator" "maxOperands" "I" (.int (0 : Int32))) (E_NOT : Exa Z h w_NOT "com/example/prune_to_fit/prunetofit/ctl/Operator") (A_NOT : Fld Z h w_NOT "com/example/prune_to_fit/prunetofit/ctl/Operator" "minOperands" "I" (.int (1 : Int32))) (M_NOT : Fld Z h w_NOT "com/example/prune_to_fit/prunetofit/ctl/Operator" "maxOperands" "I" (.int (1 : Int32))) (E_AND : Exa Z h w_AND "com/example/prune_to_fit/prunetofit/ctl/Operator") (A_AND : Fld Z h w_AND "com/example/prune_to_fit/prunetofit/ctl/Operator" "minOperands" "I" (.int (2 : Int32))) (M_AND : Fld Z h w_AND "com/example/prune_to_fit/prunetofit/ctl/Operator" "maxOperands" "I" (.int (2147483647 : Int32))) (E_OR : Exa Z h w_OR "com/example/prune_to_fit/prunetofit/ctl/Operator") (A_OR : Fld Z h w_OR "com/example/prune_to_fit/prunetofit/ctl/Operator" "minOperands" "I" (.int (2 : Int32))) (M_OR : Fld Z h w_OR "com/example/prune_to_fit/prunetofit/ctl/Operator" "maxOperands" "I" (.int (2147483647 : Int32))) (E_IMPLIES : Exa Z h w_IMPLIES "com/example/prune_to_fit/prunetofit/ctl/Operator") (A_IMPLIES : Fld Z h w_IMPLIES "com/example/prune_to_fit/prunetofit/ctl/Operator" "minOperands" "I" (.int (2 : Int32))) (M_IMPLIES : Fld Z h w_IMPLIES "com/example/prune_to_fit/prunetofit/ctl/Operator" "maxOperands" "I" (.int (2 : Int32))) (E_IFF : Exa Z h w_IFF "com/example/prune_to_fit/prunetofit/ctl/Operator") (A_IFF : Fld Z h w_IFF "com/example/prune_to_fit/prunetofit/ctl/Operator" "minOperands" "I" (.int (2 : Int32))) (M_IFF : Fld Z h w_IFF "com/example/prune_to_fit/prunetofit/ctl/Operator" "maxOperands" "I" (.int (2 : Int32))) (E_AX : Exa Z h w_AX "com/example/prune_to_fit/prunetofit/ctl/Operator") (A_AX : Fld Z h w_AX "com/example/prune_to_fit/prunetofit/ctl/Operator" "minOperands" "I" (.int (1 : Int32))) (M_AX : Fld Z h w_AX "com/example/prune_to_fit/prunetofit/ctl/Operator" "maxOperands" "I" (.int (1 : Int32))) (E_EX : Exa Z h w_EX "com/example/prune_to_fit/prunetofit/ctl/Operator") (A_EX : Fld Z h w_EX "com/example/prune_to_fit/prunetofit/ctl/Operator" "minOperands" "I" (.int (1 : Int32))) (M_EX : Fld Z h w_EX "com/example/prune_to_fit/prunetofit/ctl/Operator" "maxOperands" "I" (.int (1 : Int32))) (E_AU : Exa Z h w_AU "com/example/prune_to_fit/prunetofit/ctl/Operator") (A_AU : Fld Z h w_AU "com/example/prune_to_fit/prunetofit/ctl/Operator" "minOperands" "I" (.int (2 : Int32))) (M_AU : Fld Z h w_AU "com/example/prune_to_fit/prunetofit/ctl/Operator" "maxOperands" "I" (.int (2 : Int32))) (E_EU : Exa Z h w_EU "com/example/prune_to_fit/prunetofit/ctl/Operator") (A_EU : Fld Z h w_EU "com/example/prune_to_fit/prunetofit/ctl/Operator" "minOperands" "I" (.int (2 : Int32))) (M_EU : Fld Z h w_EU "com/example/prune_to_fit/prunetofit/ctl/Operator" "maxOperands" "I" (.int (2 : Int32))) (E_AR : Exa Z h w_AR "com/example/prune_to_fit/prunetofit/ctl/Operator") (A_AR : Fld Z h w_AR "com/example/prune_to_fit/prunetofit/ctl/Operator" "minOperands" "I" (.int (2 : Int32))) (M_AR : Fld Z h w_AR "com/example/prune_to_fit/prunetofit/ctl/Operator" "maxOperands" "I" (.int (2 : Int32))) (E_ER : Exa Z h w_ER "com/example/prune_to_fit/prunetofit/ctl/Operator") (A_ER : Fld Z h w_ER "com/example/prune_to_fit/prunetofit/ctl/Operator" "minOperands" "I" (.int (2 : Int32))) (M_ER : Fld Z h w_ER "com/example/prune_to_fit/prunetofit/ctl/Operator" "maxOperands" "I" (.int (2 : Int32))) : Exa Z h (f1 i w_TRUE w_FALSE w_PROPOSITION w_NOT w_AND w_OR w_IMPLIES w_IFF w_AX w_EX w_AU w_EU w_AR w_ER) "com/example/prune_to_fit/prunetofit/ctl/Operator" ∧ Fld Z h (f1 i w_TRUE w_FALSE w_PROPOSITION w_NOT w_AND w_OR w_IMPLIES w_IFF w_AX w_EX w_AU w_EU w_AR w_ER) "com/example/prune_to_fit/prunetofit/ctl/Operator" "minOperands" "I" (.int (own_min i)) ∧ Fld Z h (f1 i w_TRUE w_FALSE w_PROPOSITION w_NOT w_AND w_OR w_IMPLIES w_IFF w_AX w_EX w_AU w_EU w_AR w_ER) "com/example/prune_to_fit/prunetofit/ctl/Operator" "maxOperands" "I" (.int (own_max i)) := by
  by_cases h0 : i = (0 : Int32)
  · rw [f1, own_min, own_max]; simp only [if_pos h0]; exact ⟨E_TRUE, A_TRUE, M_TRUE⟩
  by_cases h1 : i = (1 : Int32)
  · rw [f1, own_min, own_max]; simp only [if_neg h0, if_pos h1]; exact ⟨E_FALSE, A_FALSE, M_FALSE⟩
  by_cases h2 : i = (2 : Int32)
  · rw [f1, own_min, own_max]; simp only [if_neg h0, if_neg h1, if_pos h2]; exact ⟨E_PROPOSITION, A_PROPOSITION, M_PROPOSITION⟩
  by_cases h3 : i = (3 : Int32)
  · rw [f1, own_min, own_max]; simp only [if_neg h0, if_neg h1, if_neg h2, if_pos h3]; exact ⟨E_NOT, A_NOT, M_NOT⟩
  by_cases h4 : i = (4 : Int32)
  · rw [f1, own_min, own_max]; simp only [if_neg h0, if_neg h1, if_neg h2, if_neg h3, if_pos h4]; exact ⟨E_AND, A_AND, M_AND⟩
  by_cases h5 : i = (5 : Int32)
  · rw [f1, own_min, own_max]; simp only [if_neg h0, if_neg h1, if_neg h2, if_neg h3, if_neg h4, if_pos h5]; exact ⟨E_OR, A_OR, M_OR⟩
  by_cases h6 : i = (6 : Int32)
  · rw [f1, own_min, own_max]; simp only [if_neg h0, if_neg h1, if_neg h2, if_neg h3, if_neg h4, if_neg h5, if_pos h6]; exact ⟨E_IMPLIES, A_IMPLIES, M_IMPLIES⟩
  by_cases h7 : i = (7 : Int32)
  · rw [f1, own_min, own_max]; simp only [if_neg h0, if_neg h1, if_neg h2, if_neg h3, if_neg h4, if_neg h5, if_neg h6, if_pos h7]; exact ⟨E_IFF, A_IFF, M_IFF⟩
  by_cases h8 : i = (8 : Int32)
  · rw [f1, own_min, own_max]; simp only [if_neg h0, if_neg h1, if_neg h2, if_neg h3, if_neg h4, if_neg h5, if_neg h6, if_neg h7, if_pos h8]; exact ⟨E_AX, A_AX, M_AX⟩
  by_cases h9 : i = (9 : Int32)
  · rw [f1, own_min, own_max]; simp only [if_neg h0, if_neg h1, if_neg h2, if_neg h3, if_neg h4, if_neg h5, if_neg h6, if_neg h7, if_neg h8, if_pos h9]; exact ⟨E_EX, A_EX, M_EX⟩
  by_cases h10 : i = (10 : Int32)
  · rw [f1, own_min, own_max]; simp only [if_neg h0, if_neg h1, if_neg h2, if_neg h3, if_neg h4, if_neg h5, if_neg h6, if_neg h7, if_neg h8, if_neg h9, if_pos h10]; exact ⟨E_AU, A_AU, M_AU⟩
  by_cases h11 : i = (11 : Int32)
  · rw [f1, own_min, own_max]; simp only [if_neg h0, if_neg h1, if_neg h2, if_neg h3, if_neg h4, if_neg h5, if_neg h6, if_neg h7, if_neg h8, if_neg h9, if_neg h10, if_pos h11]; exact ⟨E_EU, A_EU, M_EU⟩
  by_cases h12 : i = (12 : Int32)
  · rw [f1, own_min, own_max]; simp only [if_neg h0, if_neg h1, if_neg h2, if_neg h3, if_neg h4, if_neg h5, if_neg h6, if_neg h7, if_neg h8, if_neg h9, if_neg h10, if_neg h11, if_pos h12]; exact ⟨E_AR, A_AR, M_AR⟩
  · rw [f1, own_min, own_max]; simp only [if_neg h0, if_neg h1, if_neg h2, if_neg h3, if_neg h4, if_neg h5, if_neg h6, if_neg h7, if_neg h8, if_neg h9, if_neg h10, if_neg h11, if_neg h12]; exact ⟨E_ER, A_ER, M_ER⟩
theorem pd_0 : parseMethodDescriptor "(I)Lcom/example/prune_to_fit/prunetofit/ctl/Operator;" = some ⟨[.int], some (.object "com/example/prune_to_fit/prunetofit/ctl/Operator")⟩ := by decide +kernel
theorem pd_1 : parseMethodDescriptor "(I)Z" = some ⟨[.int], some .boolean⟩ := by decide +kernel
theorem ef_0 (m : MethodId) (x0 : Int32) (x1 : Int32) : entryFrame m #[(.int x0), (.int x1)] maxLocals = mkF m 0 #[.val (.int x0), .val (.int x1), .unset, .unset, .unset] [] := by first | (simp [entryFrame, mkF, argsToLocals, Value.category, maxLocals]; done) | rfl
def f0 (p0 : Int32) (p1 : Int32) (w_TRUE : Addr) (w_FALSE : Addr) (w_PROPOSITION : Addr) (w_NOT : Addr) (w_AND : Addr) (w_OR : Addr) (w_IMPLIES : Addr) (w_IFF : Addr) (w_AX : Addr) (w_EX : Addr) (w_AU : Addr) (w_EU : Addr) (w_AR : Addr) (w_ER : Addr) : Int32 := (let v2 : Int32 := ((p0 &&& (2147483647 : Int32)) % (14 : Int32)); (let v7 : Addr := (f1 v2 w_TRUE w_FALSE w_PROPOSITION w_NOT w_AND w_OR w_IMPLIES w_IFF w_AX w_EX w_AU w_EU w_AR w_ER); (let j50 : Int32 := (if (2 : Int32) < v2 then (if v2 = (3 : Int32) then (let j16 : Int32 := (if p1 = (1 : Int32) then (1 : Int32) else (0 : Int32)); j16) else (if v2 = (8 : Int32) then (let j22 : Int32 := (if p1 = (1 : Int32) then (1 : Int32) else (0 : Int32)); j22) else (if v2 = (9 : Int32) then (let j28 : Int32 := (if p1 = (1 : Int32) then (1 : Int32) else (0 : Int32)); j28) else (if v2 = (4 : Int32) then (let j34 : Int32 := (if p1 < (2 : Int32) then (0 : Int32) else (1 : Int32)); j34) else (if v2 = (5 : Int32) then (let j40 : Int32 := (if p1 < (2 : Int32) then (0 : Int32) else (1 : Int32)); j40) else (let j44 : Int32 := (if p1 = (2 : Int32) then (1 : Int32) else (0 : Int32)); j44)))))) else (let j48 : Int32 := (if p1 = (0 : Int32) then (1 : Int32) else (0 : Int32)); j48)); (let j56 : Int32 := (if (f2 p1 (own_min v2) (own_max v2)) = j50 then (1 : Int32) else (0 : Int32)); (nar .boolean j56)))))
def Q0 (Z : State) (p0 : Int32) (p1 : Int32) (w_TRUE : Addr) (w_FALSE : Addr) (w_PROPOSITION : Addr) (w_NOT : Addr) (w_AND : Addr) (w_OR : Addr) (w_IMPLIES : Addr) (w_IFF : Addr) (w_AX : Addr) (w_EX : Addr) (w_AU : Addr) (w_EU : Addr) (w_AR : Addr) (w_ER : Addr) (h0 : Heap) (n0 : Nat) (v : Option Value) (h : Heap) (L : List Loc) : Prop := v = some (.int (1 : Int32)) ∧ Fr n0 L
set_option maxRecDepth 65536 in
set_option maxHeartbeats 40000000 in
theorem rm0 (l : Launch) (Z : State) (aw : Array Value) (hw : ∀ d ∈ tables_1, d.before aw Z = true) (ws : List Jvm.Cond) (p0 : Int32) (p1 : Int32) (w_TRUE : Addr) (w_FALSE : Addr) (w_PROPOSITION : Addr) (w_NOT : Addr) (w_AND : Addr) (w_OR : Addr) (w_IMPLIES : Addr) (w_IFF : Addr) (w_AX : Addr) (w_EX : Addr) (w_AU : Addr) (w_EU : Addr) (w_AR : Addr) (w_ER : Addr) (h0 : Heap) (n0 : Nat) (Z0 : n0 ≤ h0.size) (S_TRUE : Sta Z h0 "com/example/prune_to_fit/prunetofit/ctl/Operator" "TRUE" "Lcom/example/prune_to_fit/prunetofit/ctl/Operator;" (.ref w_TRUE)) (S_FALSE : Sta Z h0 "com/example/prune_to_fit/prunetofit/ctl/Operator" "FALSE" "Lcom/example/prune_to_fit/prunetofit/ctl/Operator;" (.ref w_FALSE)) (S_PROPOSITION : Sta Z h0 "com/example/prune_to_fit/prunetofit/ctl/Operator" "PROPOSITION" "Lcom/example/prune_to_fit/prunetofit/ctl/Operator;" (.ref w_PROPOSITION)) (S_NOT : Sta Z h0 "com/example/prune_to_fit/prunetofit/ctl/Operator" "NOT" "Lcom/example/prune_to_fit/prunetofit/ctl/Operator;" (.ref w_NOT)) (S_AND : Sta Z h0 "com/example/prune_to_fit/prunetofit/ctl/Operator" "AND" "Lcom/example/prune_to_fit/prunetofit/ctl/Operator;" (.ref w_AND)) (S_OR : Sta Z h0 "com/example/prune_to_fit/prunetofit/ctl/Operator" "OR" "Lcom/example/prune_to_fit/prunetofit/ctl/Operator;" (.ref w_OR)) (S_IMPLIES : Sta Z h0 "com/example/prune_to_fit/prunetofit/ctl/Operator" "IMPLIES" "Lcom/example/prune_to_fit/prunetofit/ctl/Operator;" (.ref w_IMPLIES)) (S_IFF : Sta Z h0 "com/example/prune_to_fit/prunetofit/ctl/Operator" "IFF" "Lcom/example/prune_to_fit/prunetofit/ctl/Operator;" (.ref w_IFF)) (S_AX : Sta Z h0 "com/example/prune_to_fit/prunetofit/ctl/Operator" "AX" "Lcom/example/prune_to_fit/prunetofit/ctl/Operator;" (.ref w_AX)) (S_EX : Sta Z h0 "com/example/prune_to_fit/prunetofit/ctl/Operator" "EX" "Lcom/example/prune_to_fit/prunetofit/ctl/Operator;" (.ref w_EX)) (S_AU : Sta Z h0 "com/example/prune_to_fit/prunetofit/ctl/Operator" "AU" "Lcom/example/prune_to_fit/prunetofit/ctl/Operator;" (.ref w_AU)) (S_EU : Sta Z h0 "com/example/prune_to_fit/prunetofit/ctl/Operator" "EU" "Lcom/example/prune_to_fit/prunetofit/ctl/Operator;" (.ref w_EU)) (S_AR : Sta Z h0 "com/example/prune_to_fit/prunetofit/ctl/Operator" "AR" "Lcom/example/prune_to_fit/prunetofit/ctl/Operator;" (.ref w_AR)) (S_ER : Sta Z h0 "com/example/prune_to_fit/prunetofit/ctl/Operator" "ER" "Lcom/example/prune_to_fit/prunetofit/ctl/Operator;" (.ref w_ER)) (E_w_TRUE : Exa Z h0 w_TRUE "com/example/prune_to_fit/prunetofit/ctl/Operator") (F_minOperands_w_TRUE : Fld Z h0 w_TRUE "com/example/prune_to_fit/prunetofit/ctl/Operator" "minOperands" "I" (.int (0 : Int32))) (F_maxOperands_w_TRUE : Fld Z h0 w_TRUE "com/example/prune_to_fit/prunetofit/ctl/Operator" "maxOperands" "I" (.int (0 : Int32))) (E_w_FALSE : Exa Z h0 w_FALSE "com/example/prune_to_fit/prunetofit/ctl/Operator") (F_minOperands_w_FALSE : Fld Z h0 w_FALSE "com/example/prune_to_fit/prunetofit/ctl/Operator" "minOperands" "I" (.int (0 : Int32))) (F_maxOperands_w_FALSE : Fld Z h0 w_FALSE "com/example/prune_to_fit/prunetofit/ctl/Operator" "maxOperands" "I" (.int (0 : Int32))) (E_w_PROPOSITION : Exa Z h0 w_PROPOSITION "com/example/prune_to_fit/prunetofit/ctl/Operator") (F_minOperands_w_PROPOSITION : Fld Z h0 w_PROPOSITION "com/example/prune_to_fit/prunetofit/ctl/Operator" "minOperands" "I" (.int (0 : Int32))) (F_maxOperands_w_PROPOSITION : Fld Z h0 w_PROPOSITION "com/example/prune_to_fit/prunetofit/ctl/Operator" "maxOperands" "I" (.int (0 : Int32))) (E_w_NOT : Exa Z h0 w_NOT "com/example/prune_to_fit/prunetofit/ctl/Operator") (F_minOperands_w_NOT : Fld Z h0 w_NOT "com/example/prune_to_fit/prunetofit/ctl/Operator" "minOperands" "I" (.int (1 : Int32))) (F_maxOperands_w_NOT : Fld Z h0 w_NOT "com/example/prune_to_fit/prunetofit/ctl/Operator" "maxOperands" "I" (.int (1 : Int32))) (E_w_AND : Exa Z h0 w_AND "com/example/prune_to_fit/prunetofit/ctl/Operator") (F_minOperands_w_AND : Fld Z h0 w_AND "com/example/prune_to_fit/prunetofit/ctl/Operator" "minOperands" "I" (.int (2 : Int32))) (F_maxOperands_w_AND : Fld Z h0 w_AND "com/example/prune_to_fit/prunetofit/ctl/Operator" "maxOperands" "I" (.int (2147483647 : Int32))) (E_w_OR : Exa Z h0 w_OR "com/example/prune_to_fit/prunetofit/ctl/Operator") (F_minOperands_w_OR : Fld Z h0 w_OR "com/example/prune_to_fit/prunetofit/ctl/Operator" "minOperands" "I" (.int (2 : Int32))) (F_maxOperands_w_OR : Fld Z h0 w_OR "com/example/prune_to_fit/prunetofit/ctl/Operator" "maxOperands" "I" (.int (2147483647 : Int32))) (E_w_IMPLIES : Exa Z h0 w_IMPLIES "com/example/prune_to_fit/prunetofit/ctl/Operator") (F_minOperands_w_IMPLIES : Fld Z h0 w_IMPLIES "com/example/prune_to_fit/prunetofit/ctl/Operator" "minOperands" "I" (.int (2 : Int32))) (F_maxOperands_w_IMPLIES : Fld Z h0 w_IMPLIES "com/example/prune_to_fit/prunetofit/ctl/Operator" "maxOperands" "I" (.int (2 : Int32))) (E_w_IFF : Exa Z h0 w_IFF "com/example/prune_to_fit/prunetofit/ctl/Operator") (F_minOperands_w_IFF : Fld Z h0 w_IFF "com/example/prune_to_fit/prunetofit/ctl/Operator" "minOperands" "I" (.int (2 : Int32))) (F_maxOperands_w_IFF : Fld Z h0 w_IFF "com/example/prune_to_fit/prunetofit/ctl/Operator" "maxOperands" "I" (.int (2 : Int32))) (E_w_AX : Exa Z h0 w_AX "com/example/prune_to_fit/prunetofit/ctl/Operator") (F_minOperands_w_AX : Fld Z h0 w_AX "com/example/prune_to_fit/prunetofit/ctl/Operator" "minOperands" "I" (.int (1 : Int32))) (F_maxOperands_w_AX : Fld Z h0 w_AX "com/example/prune_to_fit/prunetofit/ctl/Operator" "maxOperands" "I" (.int (1 : Int32))) (E_w_EX : Exa Z h0 w_EX "com/example/prune_to_fit/prunetofit/ctl/Operator") (F_minOperands_w_EX : Fld Z h0 w_EX "com/example/prune_to_fit/prunetofit/ctl/Operator" "minOperands" "I" (.int (1 : Int32))) (F_maxOperands_w_EX : Fld Z h0 w_EX "com/example/prune_to_fit/prunetofit/ctl/Operator" "maxOperands" "I" (.int (1 : Int32))) (E_w_AU : Exa Z h0 w_AU "com/example/prune_to_fit/prunetofit/ctl/Operator") (F_minOperands_w_AU : Fld Z h0 w_AU "com/example/prune_to_fit/prunetofit/ctl/Operator" "minOperands" "I" (.int (2 : Int32))) (F_maxOperands_w_AU : Fld Z h0 w_AU "com/example/prune_to_fit/prunetofit/ctl/Operator" "maxOperands" "I" (.int (2 : Int32))) (E_w_EU : Exa Z h0 w_EU "com/example/prune_to_fit/prunetofit/ctl/Operator") (F_minOperands_w_EU : Fld Z h0 w_EU "com/example/prune_to_fit/prunetofit/ctl/Operator" "minOperands" "I" (.int (2 : Int32))) (F_maxOperands_w_EU : Fld Z h0 w_EU "com/example/prune_to_fit/prunetofit/ctl/Operator" "maxOperands" "I" (.int (2 : Int32))) (E_w_AR : Exa Z h0 w_AR "com/example/prune_to_fit/prunetofit/ctl/Operator") (F_minOperands_w_AR : Fld Z h0 w_AR "com/example/prune_to_fit/prunetofit/ctl/Operator" "minOperands" "I" (.int (2 : Int32))) (F_maxOperands_w_AR : Fld Z h0 w_AR "com/example/prune_to_fit/prunetofit/ctl/Operator" "maxOperands" "I" (.int (2 : Int32))) (E_w_ER : Exa Z h0 w_ER "com/example/prune_to_fit/prunetofit/ctl/Operator") (F_minOperands_w_ER : Fld Z h0 w_ER "com/example/prune_to_fit/prunetofit/ctl/Operator" "minOperands" "I" (.int (2 : Int32))) (F_maxOperands_w_ER : Fld Z h0 w_ER "com/example/prune_to_fit/prunetofit/ctl/Operator" "maxOperands" "I" (.int (2 : Int32))) (hlaw : f0 p0 p1 w_TRUE w_FALSE w_PROPOSITION w_NOT w_AND w_OR w_IMPLIES w_IFF w_AX w_EX w_AU w_EU w_AR w_ER = 1) :
    MetFree l x (head1 (Jvm.Cond.code x code maxLocals ret :: ws) room_1) (fun a U => a = #[(.int p0), (.int p1)] ∧ Z.Warmed39 U.vm ∧ U.heap = h0) (fun _ _ _ _ _ => True) (fun _ U o U' => ∃ v L, o = .returned v ∧ Q0 Z p0 p1 w_TRUE w_FALSE w_PROPOSITION w_NOT w_AND w_OR w_IMPLIES w_IFF w_AX w_EX w_AU w_EU w_AR w_ER h0 n0 v U'.heap L ∧ FrameEnd U o U' L room_1.cells room_1.slots) := by
  refine MetFree.of_bodySF (plainFor_of_name pn_1) hisR ?_
  intro p e s m args below meth c s₁ Bd hml0 hP hK
  obtain ⟨rfl, hZ, hh⟩ := hP
  have hx := Bd.exec
  have hby := Bd.bytes
  have hml : c.maxLocals = 5 := hml0
  have hown : s.vm.findClass "com/example/prune_to_fit/prunetofit/ctl/OperatorTakesPinLaw" = some m.cls := findClass_of_methodNamed Bd.named
  have hnm := (name_of_methodNamed Bd.named Bd.method).1
  have X0 : Stand p l e room_1 s m #[(.int p0), (.int p1)] below meth c s₁ [] 0 0 := Stand.of_body Bd
  have e0 : s₁.heap = h0 := by rw [← hh, Bd.state]; rfl
  have N0 := Fr.nil n0
  have pre0 : ∀ t, Steps p.tables e below (s₁.setTop (mkF m 0 #[.val (.int p0), .val (.int p1), .unset, .unset, .unset] [])) t → Steps p.tables e below (s₁.setTop (entryFrame m #[(.int p0), (.int p1)] maxLocals)) t := fun t k => castTop (ef_0 m p0 p1) k
  have pre1 : ∀ t, Steps p.tables e below (s₁.setTop (mkF m 7 #[.val (.int p0), .val (.int p1), .unset, .unset, .unset] [(.int ((p0 &&& (2147483647 : Int32)) % (14 : Int32)))])) t → Steps p.tables e below (s₁.setTop (entryFrame m #[(.int p0), (.int p1)] maxLocals)) t := fun t k => pre0 t (by
    show Steps p.tables e below (s₁.setTop (mkF m 0 #[.val (.int p0), .val (.int p1), .unset, .unset, .unset] [])) _
    refine XS.iloadN X0.here hx rfl (hb hby at_0) rfl ?_
    show Steps p.tables e below (s₁.setTop (mkF m 1 #[.val (.int p0), .val (.int p1), .unset, .unset, .unset] [(.int p0)])) _
    refine X0.ldcInt hx hown (mvT hZ (hw _ (List.mem_of_getElem? (i := 0) rfl))) (g := (mkF m 1 #[.val (.int p0), .val (.int p1), .unset, .unset, .unset] [(.int p0)])) rfl (hb hby at_1) _ ?_
    show Steps p.tables e below (s₁.setTop (mkF m 3 #[.val (.int p0), .val (.int p1), .unset, .unset, .unset] [(.int (2147483647 : Int32)), (.int p0)])) _
    refine XS.iand X0.here hx rfl (hb hby at_3) rfl ?_
    show Steps p.tables e below (s₁.setTop (mkF m 4 #[.val (.int p0), .val (.int p1), .unset, .unset, .unset] [(.int (p0 &&& (2147483647 : Int32)))])) _
    refine XS.bipush X0.here hx rfl (hb hby at_4) ?_
    show Steps p.tables e below (s₁.setTop (mkF m 6 #[.val (.int p0), .val (.int p1), .unset, .unset, .unset] [(.int (14 : Int32)), (.int (p0 &&& (2147483647 : Int32)))])) _
    refine iremM X0 hx rfl (hb hby at_6) rfl (by decide) ?_
    exact k)
  obtain ⟨v2, hv2⟩ : ∃ z : Int32, z = ((p0 &&& (2147483647 : Int32)) % (14 : Int32)) := ⟨_, rfl⟩
  have pre3 : ∀ t, Steps p.tables e below (s₁.setTop (mkF m 7 #[.val (.int p0), .val (.int p1), .unset, .unset, .unset] [(.int v2)])) t → Steps p.tables e below (s₁.setTop (entryFrame m #[(.int p0), (.int p1)] maxLocals)) t := fun t k => pre1 t (by rw [hv2] at k; exact k)
  have pre4 : ∀ t, Steps p.tables e below (s₁.setTop (mkF m 9 #[.val (.int p0), .val (.int p1), .val (.int v2), .unset, .unset] [(.int v2)])) t → Steps p.tables e below (s₁.setTop (entryFrame m #[(.int p0), (.int p1)] maxLocals)) t := fun t k => pre3 t (by
    show Steps p.tables e below (s₁.setTop (mkF m 7 #[.val (.int p0), .val (.int p1), .unset, .unset, .unset] [(.int v2)])) _
    refine XS.istoreN X0.here hx rfl (hb hby at_7) rfl (l' := #[.val (.int p0), .val (.int p1), .val (.int v2), .unset, .unset]) rfl ?_
    show Steps p.tables e below (s₁.setTop (mkF m 8 #[.val (.int p0), .val (.int p1), .val (.int v2), .unset, .unset] [])) _
    refine XS.iloadN X0.here hx rfl (hb hby at_8) rfl ?_
    exact k)
  obtain ⟨_, _, ⟨T5, L5, k5, n5⟩, -, X5, ⟨Lc5, hQ5, l5, y5, z5⟩, st5⟩ := Jvm.LawKit.callS X0 hx (y := (⟨"com/example/prune_to_fit/prunetofit/ctl/OperatorTakesPinLaw", "pick", "(I)Lcom/example/prune_to_fit/prunetofit/ctl/Operator;"⟩ : MethodName)) hown (mvT hZ (hw _ (List.mem_of_getElem? (i := 1) rfl))) (mvT hZ (hw _ (List.mem_of_getElem? (i := 2) rfl))) (mvT hZ (hw _ (List.mem_of_getElem? (i := 3) rfl))) (mvT hZ (hw _ (List.mem_of_getElem? (i := 4) rfl))) (by decide) (backOf (W := 0) (rm1 l Z aw hw [] v2 w_TRUE w_FALSE w_PROPOSITION w_NOT w_AND w_OR w_IMPLIES w_IFF w_AX w_EX w_AU w_EU w_AR w_ER h0 n0 Z0 S_TRUE S_FALSE S_PROPOSITION S_NOT S_AND S_OR S_IMPLIES S_IFF S_AX S_EX S_AU S_EU S_AR S_ER) hZ (hw _ (List.mem_of_getElem? (i := 4) rfl)) (hw _ (List.mem_of_getElem? (i := 3) rfl)) (by decide) (by decide)) (g := (mkF m 9 #[.val (.int p0), .val (.int p1), .val (.int v2), .unset, .unset] [(.int v2)])) rfl (by rw [hml]; rfl) (argsL := [(.int v2)]) (rest := []) (lenOf pd_0 rfl) rfl (by show 2 * 0 + _ ≤ _; exact Nat.le_of_eq rfl) (hb hby at_9) (fun _ _ => ⟨rfl, e0, (by decide : 0 + 0 ≤ _), (by decide : 0 + 0 ≤ _)⟩)
  dsimp only [Pt.U, Pt.locs, Pt.cells, Pt.slots] at X5 l5 y5 z5 st5 hQ5
  subst l5 y5 z5
  obtain ⟨rfl, N5q, e5⟩ := hQ5
  have N5 := Fr.app N0 N5q
  have pre6 : ∀ t, Steps p.tables e below (T5.setTop (mkF m 12 #[.val (.int p0), .val (.int p1), .val (.int v2), .unset, .unset] [(.ref (f1 v2 w_TRUE w_FALSE w_PROPOSITION w_NOT w_AND w_OR w_IMPLIES w_IFF w_AX w_EX w_AU w_EU w_AR w_ER))])) t → Steps p.tables e below (s₁.setTop (entryFrame m #[(.int p0), (.int p1)] maxLocals)) t := fun t k => pre4 t (by
    show Steps p.tables e below (s₁.setTop (mkF m 9 #[.val (.int p0), .val (.int p1), .val (.int v2), .unset, .unset] [(.int v2)])) _
    refine st5 _ ?_
    exact k)
  obtain ⟨v7, hv7⟩ : ∃ z : Addr, z = (f1 v2 w_TRUE w_FALSE w_PROPOSITION w_NOT w_AND w_OR w_IMPLIES w_IFF w_AX w_EX w_AU w_EU w_AR w_ER) := ⟨_, rfl⟩
  have pre8 : ∀ t, Steps p.tables e below (T5.setTop (mkF m 12 #[.val (.int p0), .val (.int p1), .val (.int v2), .unset, .unset] [(.ref v7)])) t → Steps p.tables e below (s₁.setTop (entryFrame m #[(.int p0), (.int p1)] maxLocals)) t := fun t k => pre6 t (by rw [hv7] at k; exact k)
  have pre9 : ∀ t, Steps p.tables e below (T5.setTop (mkF m 13 #[.val (.int p0), .val (.int p1), .val (.int v2), .val (.ref v7), .unset] [])) t → Steps p.tables e below (s₁.setTop (entryFrame m #[(.int p0), (.int p1)] maxLocals)) t := fun t k => pre8 t (by
    show Steps p.tables e below (T5.setTop (mkF m 12 #[.val (.int p0), .val (.int p1), .val (.int v2), .unset, .unset] [(.ref v7)])) _
    refine XS.astoreN X5.here hx rfl (hb hby at_12) rfl rfl (l' := #[.val (.int p0), .val (.int p1), .val (.int v2), .val (.ref v7), .unset]) rfl ?_
    exact k)
  obtain ⟨E_v7, A_v7, M_v7⟩ : Exa Z h0 v7 "com/example/prune_to_fit/prunetofit/ctl/Operator" ∧ Fld Z h0 v7 "com/example/prune_to_fit/prunetofit/ctl/Operator" "minOperands" "I" (.int (own_min v2)) ∧ Fld Z h0 v7 "com/example/prune_to_fit/prunetofit/ctl/Operator" "maxOperands" "I" (.int (own_max v2)) := by rw [hv7]; exact own_pick v2 w_TRUE w_FALSE w_PROPOSITION w_NOT w_AND w_OR w_IMPLIES w_IFF w_AX w_EX w_AU w_EU w_AR w_ER E_w_TRUE F_minOperands_w_TRUE F_maxOperands_w_TRUE E_w_FALSE F_minOperands_w_FALSE F_maxOperands_w_FALSE E_w_PROPOSITION F_minOperands_w_PROPOSITION F_maxOperands_w_PROPOSITION E_w_NOT F_minOperands_w_NOT F_maxOperands_w_NOT E_w_AND F_minOperands_w_AND F_maxOperands_w_AND E_w_OR F_minOperands_w_OR F_maxOperands_w_OR E_w_IMPLIES F_minOperands_w_IMPLIES F_maxOperands_w_IMPLIES E_w_IFF F_minOperands_w_IFF F_maxOperands_w_IFF E_w_AX F_minOperands_w_AX F_maxOperands_w_AX E_w_EX F_minOperands_w_EX F_maxOperands_w_EX E_w_AU F_minOperands_w_AU F_maxOperands_w_AU E_w_EU F_minOperands_w_EU F_maxOperands_w_EU E_w_AR F_minOperands_w_AR F_maxOperands_w_AR E_w_ER F_minOperands_w_ER F_maxOperands_w_ER
  have pre10 : ∀ t, Steps p.tables e below (T5.setTop (mkF m 15 #[.val (.int p0), .val (.int p1), .val (.int v2), .val (.ref v7), .unset] [(.int (2 : Int32)), (.int v2)])) t → Steps p.tables e below (s₁.setTop (entryFrame m #[(.int p0), (.int p1)] maxLocals)) t := fun t k => pre9 t (by
    show Steps p.tables e below (T5.setTop (mkF m 13 #[.val (.int p0), .val (.int p1), .val (.int v2), .val (.ref v7), .unset] [])) _
    refine XS.iloadN X5.here hx rfl (hb hby at_13) rfl ?_
    show Steps p.tables e below (T5.setTop (mkF m 14 #[.val (.int p0), .val (.int p1), .val (.int v2), .val (.ref v7), .unset] [(.int v2)])) _
    refine XS.iconst X5.here hx rfl (hb hby at_14) ?_
    exact k)
  obtain ⟨j50, hj50, pre51⟩ : ∃ (j50 : Int32), j50 = (if (2 : Int32) < v2 then (if v2 = (3 : Int32) then (let j16 : Int32 := (if p1 = (1 : Int32) then (1 : Int32) else (0 : Int32)); j16) else (if v2 = (8 : Int32) then (let j22 : Int32 := (if p1 = (1 : Int32) then (1 : Int32) else (0 : Int32)); j22) else (if v2 = (9 : Int32) then (let j28 : Int32 := (if p1 = (1 : Int32) then (1 : Int32) else (0 : Int32)); j28) else (if v2 = (4 : Int32) then (let j34 : Int32 := (if p1 < (2 : Int32) then (0 : Int32) else (1 : Int32)); j34) else (if v2 = (5 : Int32) then (let j40 : Int32 := (if p1 < (2 : Int32) then (0 : Int32) else (1 : Int32)); j40) else (let j44 : Int32 := (if p1 = (2 : Int32) then (1 : Int32) else (0 : Int32)); j44)))))) else (let j48 : Int32 := (if p1 = (0 : Int32) then (1 : Int32) else (0 : Int32)); j48)) ∧ ∀ t, Steps p.tables e below (T5.setTop (mkF m 101 #[.val (.int p0), .val (.int p1), .val (.int v2), .val (.ref v7), .val (.int j50)] [])) t → Steps p.tables e below (s₁.setTop (entryFrame m #[(.int p0), (.int p1)] maxLocals)) t := by
    by_cases hc11 : (2 : Int32) < v2
    · have pre12 : ∀ t, Steps p.tables e below (T5.setTop (mkF m 34 #[.val (.int p0), .val (.int p1), .val (.int v2), .val (.ref v7), .unset] [(.int (3 : Int32)), (.int v2)])) t → Steps p.tables e below (s₁.setTop (entryFrame m #[(.int p0), (.int p1)] maxLocals)) t := fun t k => pre10 t (by
        show Steps p.tables e below (T5.setTop (mkF m 15 #[.val (.int p0), .val (.int p1), .val (.int v2), .val (.ref v7), .unset] [(.int (2 : Int32)), (.int v2)])) _
        refine XS.icmpYes X5.here hx rfl (pc0 := 15) (pc' := 32) rfl (hb hby at_15) rfl (tlt hc11).2.2.1 (by decide) (by decide) ?_
        show Steps p.tables e below (T5.setTop (mkF m 32 #[.val (.int p0), .val (.int p1), .val (.int v2), .val (.ref v7), .unset] [])) _
        refine XS.iloadN X5.here hx rfl (hb hby at_32) rfl ?_
        show Steps p.tables e below (T5.setTop (mkF m 33 #[.val (.int p0), .val (.int p1), .val (.int v2), .val (.ref v7), .unset] [(.int v2)])) _
        refine XS.iconst X5.here hx rfl (hb hby at_33) ?_
        exact k)
      by_cases hc13 : v2 = (3 : Int32)
      · have pre14 : ∀ t, Steps p.tables e below (T5.setTop (mkF m 51 #[.val (.int p0), .val (.int p1), .val (.int v2), .val (.ref v7), .unset] [(.int (1 : Int32)), (.int p1)])) t → Steps p.tables e below (s₁.setTop (entryFrame m #[(.int p0), (.int p1)] maxLocals)) t := fun t k => pre12 t (by
          show Steps p.tables e below (T5.setTop (mkF m 34 #[.val (.int p0), .val (.int p1), .val (.int v2), .val (.ref v7), .unset] [(.int (3 : Int32)), (.int v2)])) _
          refine XS.icmpYes X5.here hx rfl (pc0 := 34) (pc' := 49) rfl (hb hby at_34) rfl (teq hc13).1 (by decide) (by decide) ?_
          show Steps p.tables e below (T5.setTop (mkF m 49 #[.val (.int p0), .val (.int p1), .val (.int v2), .val (.ref v7), .unset] [])) _
          refine XS.iloadN X5.here hx rfl (hb hby at_49) rfl ?_
          show Steps p.tables e below (T5.setTop (mkF m 50 #[.val (.int p0), .val (.int p1), .val (.int v2), .val (.ref v7), .unset] [(.int p1)])) _
          refine XS.iconst X5.here hx rfl (hb hby at_50) ?_
          exact k)
        obtain ⟨j16, hj16, pre17⟩ : ∃ (j16 : Int32), j16 = (if p1 = (1 : Int32) then (1 : Int32) else (0 : Int32)) ∧ ∀ t, Steps p.tables e below (T5.setTop (mkF m 59 #[.val (.int p0), .val (.int p1), .val (.int v2), .val (.ref v7), .unset] [(.int j16)])) t → Steps p.tables e below (s₁.setTop (entryFrame m #[(.int p0), (.int p1)] maxLocals)) t := by
          by_cases hc15 : p1 = (1 : Int32)
          · exact ⟨(1 : Int32), (by rw [if_pos hc15]), fun t k => pre14 t (by
              show Steps p.tables e below (T5.setTop (mkF m 51 #[.val (.int p0), .val (.int p1), .val (.int v2), .val (.ref v7), .unset] [(.int (1 : Int32)), (.int p1)])) _
              refine XS.icmpNo X5.here hx rfl (hb hby at_51) rfl (teq hc15).2 ?_
              show Steps p.tables e below (T5.setTop (mkF m 54 #[.val (.int p0), .val (.int p1), .val (.int v2), .val (.ref v7), .unset] [])) _
              refine XS.iconst X5.here hx rfl (hb hby at_54) ?_
              show Steps p.tables e below (T5.setTop (mkF m 55 #[.val (.int p0), .val (.int p1), .val (.int v2), .val (.ref v7), .unset] [(.int (1 : Int32))])) _
              refine XS.goto X5.here hx rfl (pc0 := 55) (pc' := 59) rfl (hb hby at_55) (by decide) (by decide) ?_
              exact k)⟩
          · exact ⟨(0 : Int32), (by rw [if_neg hc15]), fun t k => pre14 t (by
              show Steps p.tables e below (T5.setTop (mkF m 51 #[.val (.int p0), .val (.int p1), .val (.int v2), .val (.ref v7), .unset] [(.int (1 : Int32)), (.int p1)])) _
              refine XS.icmpYes X5.here hx rfl (pc0 := 51) (pc' := 58) rfl (hb hby at_51) rfl (feq hc15).2 (by decide) (by decide) ?_
              show Steps p.tables e below (T5.setTop (mkF m 58 #[.val (.int p0), .val (.int p1), .val (.int v2), .val (.ref v7), .unset] [])) _
              refine XS.iconst X5.here hx rfl (hb hby at_58) ?_
              exact k)⟩
        exact ⟨j16, (by subst hj16; simp only [if_pos hc11, if_pos hc13]), fun t k => pre17 t (by
          show Steps p.tables e below (T5.setTop (mkF m 59 #[.val (.int p0), .val (.int p1), .val (.int v2), .val (.ref v7), .unset] [(.int j16)])) _
          refine XS.istore X5.here hx rfl (hb hby at_59) rfl (l' := #[.val (.int p0), .val (.int p1), .val (.int v2), .val (.ref v7), .val (.int j16)]) rfl ?_
          show Steps p.tables e below (T5.setTop (mkF m 61 #[.val (.int p0), .val (.int p1), .val (.int v2), .val (.ref v7), .val (.int j16)] [])) _
          refine XS.goto X5.here hx rfl (pc0 := 61) (pc' := 101) rfl (hb hby at_61) (by decide) (by decide) ?_
          exact k)⟩
      · have pre18 : ∀ t, Steps p.tables e below (T5.setTop (mkF m 40 #[.val (.int p0), .val (.int p1), .val (.int v2), .val (.ref v7), .unset] [(.int (8 : Int32)), (.int v2)])) t → Steps p.tables e below (s₁.setTop (entryFrame m #[(.int p0), (.int p1)] maxLocals)) t := fun t k => pre12 t (by
          show Steps p.tables e below (T5.setTop (mkF m 34 #[.val (.int p0), .val (.int p1), .val (.int v2), .val (.ref v7), .unset] [(.int (3 : Int32)), (.int v2)])) _
          refine XS.icmpNo X5.here hx rfl (hb hby at_34) rfl (feq hc13).1 ?_
          show Steps p.tables e below (T5.setTop (mkF m 37 #[.val (.int p0), .val (.int p1), .val (.int v2), .val (.ref v7), .unset] [])) _
          refine XS.iloadN X5.here hx rfl (hb hby at_37) rfl ?_
          show Steps p.tables e below (T5.setTop (mkF m 38 #[.val (.int p0), .val (.int p1), .val (.int v2), .val (.ref v7), .unset] [(.int v2)])) _
          refine XS.bipush X5.here hx rfl (hb hby at_38) ?_
          exact k)
        by_cases hc19 : v2 = (8 : Int32)
        · have pre20 : ∀ t, Steps p.tables e below (T5.setTop (mkF m 51 #[.val (.int p0), .val (.int p1), .val (.int v2), .val (.ref v7), .unset] [(.int (1 : Int32)), (.int p1)])) t → Steps p.tables e below (s₁.setTop (entryFrame m #[(.int p0), (.int p1)] maxLocals)) t := fun t k => pre18 t (by
            show Steps p.tables e below (T5.setTop (mkF m 40 #[.val (.int p0), .val (.int p1), .val (.int v2), .val (.ref v7), .unset] [(.int (8 : Int32)), (.int v2)])) _
            refine XS.icmpYes X5.here hx rfl (pc0 := 40) (pc' := 49) rfl (hb hby at_40) rfl (teq hc19).1 (by decide) (by decide) ?_
            show Steps p.tables e below (T5.setTop (mkF m 49 #[.val (.int p0), .val (.int p1), .val (.int v2), .val (.ref v7), .unset] [])) _
            refine XS.iloadN X5.here hx rfl (hb hby at_49) rfl ?_
            show Steps p.tables e below (T5.setTop (mkF m 50 #[.val (.int p0), .val (.int p1), .val (.int v2), .val (.ref v7), .unset] [(.int p1)])) _
            refine XS.iconst X5.here hx rfl (hb hby at_50) ?_
            exact k)
          obtain ⟨j22, hj22, pre23⟩ : ∃ (j22 : Int32), j22 = (if p1 = (1 : Int32) then (1 : Int32) else (0 : Int32)) ∧ ∀ t, Steps p.tables e below (T5.setTop (mkF m 59 #[.val (.int p0), .val (.int p1), .val (.int v2), .val (.ref v7), .unset] [(.int j22)])) t → Steps p.tables e below (s₁.setTop (entryFrame m #[(.int p0), (.int p1)] maxLocals)) t := by
            by_cases hc21 : p1 = (1 : Int32)
            · exact ⟨(1 : Int32), (by rw [if_pos hc21]), fun t k => pre20 t (by
                show Steps p.tables e below (T5.setTop (mkF m 51 #[.val (.int p0), .val (.int p1), .val (.int v2), .val (.ref v7), .unset] [(.int (1 : Int32)), (.int p1)])) _
                refine XS.icmpNo X5.here hx rfl (hb hby at_51) rfl (teq hc21).2 ?_
                show Steps p.tables e below (T5.setTop (mkF m 54 #[.val (.int p0), .val (.int p1), .val (.int v2), .val (.ref v7), .unset] [])) _
                refine XS.iconst X5.here hx rfl (hb hby at_54) ?_
                show Steps p.tables e below (T5.setTop (mkF m 55 #[.val (.int p0), .val (.int p1), .val (.int v2), .val (.ref v7), .unset] [(.int (1 : Int32))])) _
                refine XS.goto X5.here hx rfl (pc0 := 55) (pc' := 59) rfl (hb hby at_55) (by decide) (by decide) ?_
                exact k)⟩
            · exact ⟨(0 : Int32), (by rw [if_neg hc21]), fun t k => pre20 t (by
                show Steps p.tables e below (T5.setTop (mkF m 51 #[.val (.int p0), .val (.int p1), .val (.int v2), .val (.ref v7), .unset] [(.int (1 : Int32)), (.int p1)])) _
                refine XS.icmpYes X5.here hx rfl (pc0 := 51) (pc' := 58) rfl (hb hby at_51) rfl (feq hc21).2 (by decide) (by decide) ?_
                show Steps p.tables e below (T5.setTop (mkF m 58 #[.val (.int p0), .val (.int p1), .val (.int v2), .val (.ref v7), .unset] [])) _
                refine XS.iconst X5.here hx rfl (hb hby at_58) ?_
                exact k)⟩
          exact ⟨j22, (by subst hj22; simp only [if_pos hc11, if_neg hc13, if_pos hc19]), fun t k => pre23 t (by
            show Steps p.tables e below (T5.setTop (mkF m 59 #[.val (.int p0), .val (.int p1), .val (.int v2), .val (.ref v7), .unset] [(.int j22)])) _
            refine XS.istore X5.here hx rfl (hb hby at_59) rfl (l' := #[.val (.int p0), .val (.int p1), .val (.int v2), .val (.ref v7), .val (.int j22)]) rfl ?_
            show Steps p.tables e below (T5.setTop (mkF m 61 #[.val (.int p0), .val (.int p1), .val (.int v2), .val (.ref v7), .val (.int j22)] [])) _
            refine XS.goto X5.here hx rfl (pc0 := 61) (pc' := 101) rfl (hb hby at_61) (by decide) (by decide) ?_
            exact k)⟩
        · have pre24 : ∀ t, Steps p.tables e below (T5.setTop (mkF m 46 #[.val (.int p0), .val (.int p1), .val (.int v2), .val (.ref v7), .unset] [(.int (9 : Int32)), (.int v2)])) t → Steps p.tables e below (s₁.setTop (entryFrame m #[(.int p0), (.int p1)] maxLocals)) t := fun t k => pre18 t (by
            show Steps p.tables e below (T5.setTop (mkF m 40 #[.val (.int p0), .val (.int p1), .val (.int v2), .val (.ref v7), .unset] [(.int (8 : Int32)), (.int v2)])) _
            refine XS.icmpNo X5.here hx rfl (hb hby at_40) rfl (feq hc19).1 ?_
            show Steps p.tables e below (T5.setTop (mkF m 43 #[.val (.int p0), .val (.int p1), .val (.int v2), .val (.ref v7), .unset] [])) _
            refine XS.iloadN X5.here hx rfl (hb hby at_43) rfl ?_
            show Steps p.tables e below (T5.setTop (mkF m 44 #[.val (.int p0), .val (.int p1), .val (.int v2), .val (.ref v7), .unset] [(.int v2)])) _
            refine XS.bipush X5.here hx rfl (hb hby at_44) ?_
            exact k)
          by_cases hc25 : v2 = (9 : Int32)
          · have pre26 : ∀ t, Steps p.tables e below (T5.setTop (mkF m 51 #[.val (.int p0), .val (.int p1), .val (.int v2), .val (.ref v7), .unset] [(.int (1 : Int32)), (.int p1)])) t → Steps p.tables e below (s₁.setTop (entryFrame m #[(.int p0), (.int p1)] maxLocals)) t := fun t k => pre24 t (by
              show Steps p.tables e below (T5.setTop (mkF m 46 #[.val (.int p0), .val (.int p1), .val (.int v2), .val (.ref v7), .unset] [(.int (9 : Int32)), (.int v2)])) _
              refine XS.icmpNo X5.here hx rfl (hb hby at_46) rfl (teq hc25).2 ?_
              show Steps p.tables e below (T5.setTop (mkF m 49 #[.val (.int p0), .val (.int p1), .val (.int v2), .val (.ref v7), .unset] [])) _
              refine XS.iloadN X5.here hx rfl (hb hby at_49) rfl ?_
              show Steps p.tables e below (T5.setTop (mkF m 50 #[.val (.int p0), .val (.int p1), .val (.int v2), .val (.ref v7), .unset] [(.int p1)])) _
              refine XS.iconst X5.here hx rfl (hb hby at_50) ?_
              exact k)
            obtain ⟨j28, hj28, pre29⟩ : ∃ (j28 : Int32), j28 = (if p1 = (1 : Int32) then (1 : Int32) else (0 : Int32)) ∧ ∀ t, Steps p.tables e below (T5.setTop (mkF m 59 #[.val (.int p0), .val (.int p1), .val (.int v2), .val (.ref v7), .unset] [(.int j28)])) t → Steps p.tables e below (s₁.setTop (entryFrame m #[(.int p0), (.int p1)] maxLocals)) t := by
              by_cases hc27 : p1 = (1 : Int32)
              · exact ⟨(1 : Int32), (by rw [if_pos hc27]), fun t k => pre26 t (by
                  show Steps p.tables e below (T5.setTop (mkF m 51 #[.val (.int p0), .val (.int p1), .val (.int v2), .val (.ref v7), .unset] [(.int (1 : Int32)), (.int p1)])) _
                  refine XS.icmpNo X5.here hx rfl (hb hby at_51) rfl (teq hc27).2 ?_
                  show Steps p.tables e below (T5.setTop (mkF m 54 #[.val (.int p0), .val (.int p1), .val (.int v2), .val (.ref v7), .unset] [])) _
                  refine XS.iconst X5.here hx rfl (hb hby at_54) ?_
                  show Steps p.tables e below (T5.setTop (mkF m 55 #[.val (.int p0), .val (.int p1), .val (.int v2), .val (.ref v7), .unset] [(.int (1 : Int32))])) _
                  refine XS.goto X5.here hx rfl (pc0 := 55) (pc' := 59) rfl (hb hby at_55) (by decide) (by decide) ?_
                  exact k)⟩
              · exact ⟨(0 : Int32), (by rw [if_neg hc27]), fun t k => pre26 t (by
                  show Steps p.tables e below (T5.setTop (mkF m 51 #[.val (.int p0), .val (.int p1), .val (.int v2), .val (.ref v7), .unset] [(.int (1 : Int32)), (.int p1)])) _
                  refine XS.icmpYes X5.here hx rfl (pc0 := 51) (pc' := 58) rfl (hb hby at_51) rfl (feq hc27).2 (by decide) (by decide) ?_
                  show Steps p.tables e below (T5.setTop (mkF m 58 #[.val (.int p0), .val (.int p1), .val (.int v2), .val (.ref v7), .unset] [])) _
                  refine XS.iconst X5.here hx rfl (hb hby at_58) ?_
                  exact k)⟩
            exact ⟨j28, (by subst hj28; simp only [if_pos hc11, if_neg hc13, if_neg hc19, if_pos hc25]), fun t k => pre29 t (by
              show Steps p.tables e below (T5.setTop (mkF m 59 #[.val (.int p0), .val (.int p1), .val (.int v2), .val (.ref v7), .unset] [(.int j28)])) _
              refine XS.istore X5.here hx rfl (hb hby at_59) rfl (l' := #[.val (.int p0), .val (.int p1), .val (.int v2), .val (.ref v7), .val (.int j28)]) rfl ?_
              show Steps p.tables e below (T5.setTop (mkF m 61 #[.val (.int p0), .val (.int p1), .val (.int v2), .val (.ref v7), .val (.int j28)] [])) _
              refine XS.goto X5.here hx rfl (pc0 := 61) (pc' := 101) rfl (hb hby at_61) (by decide) (by decide) ?_
              exact k)⟩
          · have pre30 : ∀ t, Steps p.tables e below (T5.setTop (mkF m 66 #[.val (.int p0), .val (.int p1), .val (.int v2), .val (.ref v7), .unset] [(.int (4 : Int32)), (.int v2)])) t → Steps p.tables e below (s₁.setTop (entryFrame m #[(.int p0), (.int p1)] maxLocals)) t := fun t k => pre24 t (by
              show Steps p.tables e below (T5.setTop (mkF m 46 #[.val (.int p0), .val (.int p1), .val (.int v2), .val (.ref v7), .unset] [(.int (9 : Int32)), (.int v2)])) _
              refine XS.icmpYes X5.here hx rfl (pc0 := 46) (pc' := 64) rfl (hb hby at_46) rfl (feq hc25).2 (by decide) (by decide) ?_
              show Steps p.tables e below (T5.setTop (mkF m 64 #[.val (.int p0), .val (.int p1), .val (.int v2), .val (.ref v7), .unset] [])) _
              refine XS.iloadN X5.here hx rfl (hb hby at_64) rfl ?_
              show Steps p.tables e below (T5.setTop (mkF m 65 #[.val (.int p0), .val (.int p1), .val (.int v2), .val (.ref v7), .unset] [(.int v2)])) _
              refine XS.iconst X5.here hx rfl (hb hby at_65) ?_
              exact k)
            by_cases hc31 : v2 = (4 : Int32)
            · have pre32 : ∀ t, Steps p.tables e below (T5.setTop (mkF m 76 #[.val (.int p0), .val (.int p1), .val (.int v2), .val (.ref v7), .unset] [(.int (2 : Int32)), (.int p1)])) t → Steps p.tables e below (s₁.setTop (entryFrame m #[(.int p0), (.int p1)] maxLocals)) t := fun t k => pre30 t (by
                show Steps p.tables e below (T5.setTop (mkF m 66 #[.val (.int p0), .val (.int p1), .val (.int v2), .val (.ref v7), .unset] [(.int (4 : Int32)), (.int v2)])) _
                refine XS.icmpYes X5.here hx rfl (pc0 := 66) (pc' := 74) rfl (hb hby at_66) rfl (teq hc31).1 (by decide) (by decide) ?_
                show Steps p.tables e below (T5.setTop (mkF m 74 #[.val (.int p0), .val (.int p1), .val (.int v2), .val (.ref v7), .unset] [])) _
                refine XS.iloadN X5.here hx rfl (hb hby at_74) rfl ?_
                show Steps p.tables e below (T5.setTop (mkF m 75 #[.val (.int p0), .val (.int p1), .val (.int v2), .val (.ref v7), .unset] [(.int p1)])) _
                refine XS.iconst X5.here hx rfl (hb hby at_75) ?_
                exact k)
              obtain ⟨j34, hj34, pre35⟩ : ∃ (j34 : Int32), j34 = (if p1 < (2 : Int32) then (0 : Int32) else (1 : Int32)) ∧ ∀ t, Steps p.tables e below (T5.setTop (mkF m 84 #[.val (.int p0), .val (.int p1), .val (.int v2), .val (.ref v7), .unset] [(.int j34)])) t → Steps p.tables e below (s₁.setTop (entryFrame m #[(.int p0), (.int p1)] maxLocals)) t := by
                by_cases hc33 : p1 < (2 : Int32)
                · exact ⟨(0 : Int32), (by rw [if_pos hc33]), fun t k => pre32 t (by
                    show Steps p.tables e below (T5.setTop (mkF m 76 #[.val (.int p0), .val (.int p1), .val (.int v2), .val (.ref v7), .unset] [(.int (2 : Int32)), (.int p1)])) _
                    refine XS.icmpYes X5.here hx rfl (pc0 := 76) (pc' := 83) rfl (hb hby at_76) rfl (tlt hc33).1 (by decide) (by decide) ?_
                    show Steps p.tables e below (T5.setTop (mkF m 83 #[.val (.int p0), .val (.int p1), .val (.int v2), .val (.ref v7), .unset] [])) _
                    refine XS.iconst X5.here hx rfl (hb hby at_83) ?_
                    exact k)⟩
                · exact ⟨(1 : Int32), (by rw [if_neg hc33]), fun t k => pre32 t (by
                    show Steps p.tables e below (T5.setTop (mkF m 76 #[.val (.int p0), .val (.int p1), .val (.int v2), .val (.ref v7), .unset] [(.int (2 : Int32)), (.int p1)])) _
                    refine XS.icmpNo X5.here hx rfl (hb hby at_76) rfl (flt hc33).1 ?_
                    show Steps p.tables e below (T5.setTop (mkF m 79 #[.val (.int p0), .val (.int p1), .val (.int v2), .val (.ref v7), .unset] [])) _
                    refine XS.iconst X5.here hx rfl (hb hby at_79) ?_
                    show Steps p.tables e below (T5.setTop (mkF m 80 #[.val (.int p0), .val (.int p1), .val (.int v2), .val (.ref v7), .unset] [(.int (1 : Int32))])) _
                    refine XS.goto X5.here hx rfl (pc0 := 80) (pc' := 84) rfl (hb hby at_80) (by decide) (by decide) ?_
                    exact k)⟩
              exact ⟨j34, (by subst hj34; simp only [if_pos hc11, if_neg hc13, if_neg hc19, if_neg hc25, if_pos hc31]), fun t k => pre35 t (by
                show Steps p.tables e below (T5.setTop (mkF m 84 #[.val (.int p0), .val (.int p1), .val (.int v2), .val (.ref v7), .unset] [(.int j34)])) _
                refine XS.istore X5.here hx rfl (hb hby at_84) rfl (l' := #[.val (.int p0), .val (.int p1), .val (.int v2), .val (.ref v7), .val (.int j34)]) rfl ?_
                show Steps p.tables e below (T5.setTop (mkF m 86 #[.val (.int p0), .val (.int p1), .val (.int v2), .val (.ref v7), .val (.int j34)] [])) _
                refine XS.goto X5.here hx rfl (pc0 := 86) (pc' := 101) rfl (hb hby at_86) (by decide) (by decide) ?_
                exact k)⟩
            · have pre36 : ∀ t, Steps p.tables e below (T5.setTop (mkF m 71 #[.val (.int p0), .val (.int p1), .val (.int v2), .val (.ref v7), .unset] [(.int (5 : Int32)), (.int v2)])) t → Steps p.tables e below (s₁.setTop (entryFrame m #[(.int p0), (.int p1)] maxLocals)) t := fun t k => pre30 t (by
                show Steps p.tables e below (T5.setTop (mkF m 66 #[.val (.int p0), .val (.int p1), .val (.int v2), .val (.ref v7), .unset] [(.int (4 : Int32)), (.int v2)])) _
                refine XS.icmpNo X5.here hx rfl (hb hby at_66) rfl (feq hc31).1 ?_
                show Steps p.tables e below (T5.setTop (mkF m 69 #[.val (.int p0), .val (.int p1), .val (.int v2), .val (.ref v7), .unset] [])) _
                refine XS.iloadN X5.here hx rfl (hb hby at_69) rfl ?_
                show Steps p.tables e below (T5.setTop (mkF m 70 #[.val (.int p0), .val (.int p1), .val (.int v2), .val (.ref v7), .unset] [(.int v2)])) _
                refine XS.iconst X5.here hx rfl (hb hby at_70) ?_
                exact k)
              by_cases hc37 : v2 = (5 : Int32)
              · have pre38 : ∀ t, Steps p.tables e below (T5.setTop (mkF m 76 #[.val (.int p0), .val (.int p1), .val (.int v2), .val (.ref v7), .unset] [(.int (2 : Int32)), (.int p1)])) t → Steps p.tables e below (s₁.setTop (entryFrame m #[(.int p0), (.int p1)] maxLocals)) t := fun t k => pre36 t (by
                  show Steps p.tables e below (T5.setTop (mkF m 71 #[.val (.int p0), .val (.int p1), .val (.int v2), .val (.ref v7), .unset] [(.int (5 : Int32)), (.int v2)])) _
                  refine XS.icmpNo X5.here hx rfl (hb hby at_71) rfl (teq hc37).2 ?_
                  show Steps p.tables e below (T5.setTop (mkF m 74 #[.val (.int p0), .val (.int p1), .val (.int v2), .val (.ref v7), .unset] [])) _
                  refine XS.iloadN X5.here hx rfl (hb hby at_74) rfl ?_
                  show Steps p.tables e below (T5.setTop (mkF m 75 #[.val (.int p0), .val (.int p1), .val (.int v2), .val (.ref v7), .unset] [(.int p1)])) _
                  refine XS.iconst X5.here hx rfl (hb hby at_75) ?_
                  exact k)
                obtain ⟨j40, hj40, pre41⟩ : ∃ (j40 : Int32), j40 = (if p1 < (2 : Int32) then (0 : Int32) else (1 : Int32)) ∧ ∀ t, Steps p.tables e below (T5.setTop (mkF m 84 #[.val (.int p0), .val (.int p1), .val (.int v2), .val (.ref v7), .unset] [(.int j40)])) t → Steps p.tables e below (s₁.setTop (entryFrame m #[(.int p0), (.int p1)] maxLocals)) t := by
                  by_cases hc39 : p1 < (2 : Int32)
                  · exact ⟨(0 : Int32), (by rw [if_pos hc39]), fun t k => pre38 t (by
                      show Steps p.tables e below (T5.setTop (mkF m 76 #[.val (.int p0), .val (.int p1), .val (.int v2), .val (.ref v7), .unset] [(.int (2 : Int32)), (.int p1)])) _
                      refine XS.icmpYes X5.here hx rfl (pc0 := 76) (pc' := 83) rfl (hb hby at_76) rfl (tlt hc39).1 (by decide) (by decide) ?_
                      show Steps p.tables e below (T5.setTop (mkF m 83 #[.val (.int p0), .val (.int p1), .val (.int v2), .val (.ref v7), .unset] [])) _
                      refine XS.iconst X5.here hx rfl (hb hby at_83) ?_
                      exact k)⟩
                  · exact ⟨(1 : Int32), (by rw [if_neg hc39]), fun t k => pre38 t (by
                      show Steps p.tables e below (T5.setTop (mkF m 76 #[.val (.int p0), .val (.int p1), .val (.int v2), .val (.ref v7), .unset] [(.int (2 : Int32)), (.int p1)])) _
                      refine XS.icmpNo X5.here hx rfl (hb hby at_76) rfl (flt hc39).1 ?_
                      show Steps p.tables e below (T5.setTop (mkF m 79 #[.val (.int p0), .val (.int p1), .val (.int v2), .val (.ref v7), .unset] [])) _
                      refine XS.iconst X5.here hx rfl (hb hby at_79) ?_
                      show Steps p.tables e below (T5.setTop (mkF m 80 #[.val (.int p0), .val (.int p1), .val (.int v2), .val (.ref v7), .unset] [(.int (1 : Int32))])) _
                      refine XS.goto X5.here hx rfl (pc0 := 80) (pc' := 84) rfl (hb hby at_80) (by decide) (by decide) ?_
                      exact k)⟩
                exact ⟨j40, (by subst hj40; simp only [if_pos hc11, if_neg hc13, if_neg hc19, if_neg hc25, if_neg hc31, if_pos hc37]), fun t k => pre41 t (by
                  show Steps p.tables e below (T5.setTop (mkF m 84 #[.val (.int p0), .val (.int p1), .val (.int v2), .val (.ref v7), .unset] [(.int j40)])) _
                  refine XS.istore X5.here hx rfl (hb hby at_84) rfl (l' := #[.val (.int p0), .val (.int p1), .val (.int v2), .val (.ref v7), .val (.int j40)]) rfl ?_
                  show Steps p.tables e below (T5.setTop (mkF m 86 #[.val (.int p0), .val (.int p1), .val (.int v2), .val (.ref v7), .val (.int j40)] [])) _
                  refine XS.goto X5.here hx rfl (pc0 := 86) (pc' := 101) rfl (hb hby at_86) (by decide) (by decide) ?_
                  exact k)⟩
              · have pre42 : ∀ t, Steps p.tables e below (T5.setTop (mkF m 91 #[.val (.int p0), .val (.int p1), .val (.int v2), .val (.ref v7), .unset] [(.int (2 : Int32)), (.int p1)])) t → Steps p.tables e below (s₁.setTop (entryFrame m #[(.int p0), (.int p1)] maxLocals)) t := fun t k => pre36 t (by
                  show Steps p.tables e below (T5.setTop (mkF m 71 #[.val (.int p0), .val (.int p1), .val (.int v2), .val (.ref v7), .unset] [(.int (5 : Int32)), (.int v2)])) _
                  refine XS.icmpYes X5.here hx rfl (pc0 := 71) (pc' := 89) rfl (hb hby at_71) rfl (feq hc37).2 (by decide) (by decide) ?_
                  show Steps p.tables e below (T5.setTop (mkF m 89 #[.val (.int p0), .val (.int p1), .val (.int v2), .val (.ref v7), .unset] [])) _
                  refine XS.iloadN X5.here hx rfl (hb hby at_89) rfl ?_
                  show Steps p.tables e below (T5.setTop (mkF m 90 #[.val (.int p0), .val (.int p1), .val (.int v2), .val (.ref v7), .unset] [(.int p1)])) _
                  refine XS.iconst X5.here hx rfl (hb hby at_90) ?_
                  exact k)
                obtain ⟨j44, hj44, pre45⟩ : ∃ (j44 : Int32), j44 = (if p1 = (2 : Int32) then (1 : Int32) else (0 : Int32)) ∧ ∀ t, Steps p.tables e below (T5.setTop (mkF m 99 #[.val (.int p0), .val (.int p1), .val (.int v2), .val (.ref v7), .unset] [(.int j44)])) t → Steps p.tables e below (s₁.setTop (entryFrame m #[(.int p0), (.int p1)] maxLocals)) t := by
                  by_cases hc43 : p1 = (2 : Int32)
                  · exact ⟨(1 : Int32), (by rw [if_pos hc43]), fun t k => pre42 t (by
                      show Steps p.tables e below (T5.setTop (mkF m 91 #[.val (.int p0), .val (.int p1), .val (.int v2), .val (.ref v7), .unset] [(.int (2 : Int32)), (.int p1)])) _
                      refine XS.icmpNo X5.here hx rfl (hb hby at_91) rfl (teq hc43).2 ?_
                      show Steps p.tables e below (T5.setTop (mkF m 94 #[.val (.int p0), .val (.int p1), .val (.int v2), .val (.ref v7), .unset] [])) _
                      refine XS.iconst X5.here hx rfl (hb hby at_94) ?_
                      show Steps p.tables e below (T5.setTop (mkF m 95 #[.val (.int p0), .val (.int p1), .val (.int v2), .val (.ref v7), .unset] [(.int (1 : Int32))])) _
                      refine XS.goto X5.here hx rfl (pc0 := 95) (pc' := 99) rfl (hb hby at_95) (by decide) (by decide) ?_
                      exact k)⟩
                  · exact ⟨(0 : Int32), (by rw [if_neg hc43]), fun t k => pre42 t (by
                      show Steps p.tables e below (T5.setTop (mkF m 91 #[.val (.int p0), .val (.int p1), .val (.int v2), .val (.ref v7), .unset] [(.int (2 : Int32)), (.int p1)])) _
                      refine XS.icmpYes X5.here hx rfl (pc0 := 91) (pc' := 98) rfl (hb hby at_91) rfl (feq hc43).2 (by decide) (by decide) ?_
                      show Steps p.tables e below (T5.setTop (mkF m 98 #[.val (.int p0), .val (.int p1), .val (.int v2), .val (.ref v7), .unset] [])) _
                      refine XS.iconst X5.here hx rfl (hb hby at_98) ?_
                      exact k)⟩
                exact ⟨j44, (by subst hj44; simp only [if_pos hc11, if_neg hc13, if_neg hc19, if_neg hc25, if_neg hc31, if_neg hc37]), fun t k => pre45 t (by
                  show Steps p.tables e below (T5.setTop (mkF m 99 #[.val (.int p0), .val (.int p1), .val (.int v2), .val (.ref v7), .unset] [(.int j44)])) _
                  refine XS.istore X5.here hx rfl (hb hby at_99) rfl (l' := #[.val (.int p0), .val (.int p1), .val (.int v2), .val (.ref v7), .val (.int j44)]) rfl ?_
                  exact k)⟩
    · have pre46 : ∀ t, Steps p.tables e below (T5.setTop (mkF m 19 #[.val (.int p0), .val (.int p1), .val (.int v2), .val (.ref v7), .unset] [(.int p1)])) t → Steps p.tables e below (s₁.setTop (entryFrame m #[(.int p0), (.int p1)] maxLocals)) t := fun t k => pre10 t (by
        show Steps p.tables e below (T5.setTop (mkF m 15 #[.val (.int p0), .val (.int p1), .val (.int v2), .val (.ref v7), .unset] [(.int (2 : Int32)), (.int v2)])) _
        refine XS.icmpNo X5.here hx rfl (hb hby at_15) rfl (flt hc11).2.2.1 ?_
        show Steps p.tables e below (T5.setTop (mkF m 18 #[.val (.int p0), .val (.int p1), .val (.int v2), .val (.ref v7), .unset] [])) _
        refine XS.iloadN X5.here hx rfl (hb hby at_18) rfl ?_
        exact k)
      obtain ⟨j48, hj48, pre49⟩ : ∃ (j48 : Int32), j48 = (if p1 = (0 : Int32) then (1 : Int32) else (0 : Int32)) ∧ ∀ t, Steps p.tables e below (T5.setTop (mkF m 27 #[.val (.int p0), .val (.int p1), .val (.int v2), .val (.ref v7), .unset] [(.int j48)])) t → Steps p.tables e below (s₁.setTop (entryFrame m #[(.int p0), (.int p1)] maxLocals)) t := by
        by_cases hc47 : p1 = (0 : Int32)
        · exact ⟨(1 : Int32), (by rw [if_pos hc47]), fun t k => pre46 t (by
            show Steps p.tables e below (T5.setTop (mkF m 19 #[.val (.int p0), .val (.int p1), .val (.int v2), .val (.ref v7), .unset] [(.int p1)])) _
            refine XS.ifNo X5.here hx rfl (hb hby at_19) rfl ((if0 _ _).trans (teq hc47).2) ?_
            show Steps p.tables e below (T5.setTop (mkF m 22 #[.val (.int p0), .val (.int p1), .val (.int v2), .val (.ref v7), .unset] [])) _
            refine XS.iconst X5.here hx rfl (hb hby at_22) ?_
            show Steps p.tables e below (T5.setTop (mkF m 23 #[.val (.int p0), .val (.int p1), .val (.int v2), .val (.ref v7), .unset] [(.int (1 : Int32))])) _
            refine XS.goto X5.here hx rfl (pc0 := 23) (pc' := 27) rfl (hb hby at_23) (by decide) (by decide) ?_
            exact k)⟩
        · exact ⟨(0 : Int32), (by rw [if_neg hc47]), fun t k => pre46 t (by
            show Steps p.tables e below (T5.setTop (mkF m 19 #[.val (.int p0), .val (.int p1), .val (.int v2), .val (.ref v7), .unset] [(.int p1)])) _
            refine XS.ifYes X5.here hx rfl (pc0 := 19) (pc' := 26) rfl (hb hby at_19) rfl ((if0 _ _).trans (feq hc47).2) (by decide) (by decide) ?_
            show Steps p.tables e below (T5.setTop (mkF m 26 #[.val (.int p0), .val (.int p1), .val (.int v2), .val (.ref v7), .unset] [])) _
            refine XS.iconst X5.here hx rfl (hb hby at_26) ?_
            exact k)⟩
      exact ⟨j48, (by subst hj48; simp only [if_neg hc11]), fun t k => pre49 t (by
        show Steps p.tables e below (T5.setTop (mkF m 27 #[.val (.int p0), .val (.int p1), .val (.int v2), .val (.ref v7), .unset] [(.int j48)])) _
        refine XS.istore X5.here hx rfl (hb hby at_27) rfl (l' := #[.val (.int p0), .val (.int p1), .val (.int v2), .val (.ref v7), .val (.int j48)]) rfl ?_
        show Steps p.tables e below (T5.setTop (mkF m 29 #[.val (.int p0), .val (.int p1), .val (.int v2), .val (.ref v7), .val (.int j48)] [])) _
        refine XS.goto X5.here hx rfl (pc0 := 29) (pc' := 101) rfl (hb hby at_29) (by decide) (by decide) ?_
        exact k)⟩
  have pre52 : ∀ t, Steps p.tables e below (T5.setTop (mkF m 103 #[.val (.int p0), .val (.int p1), .val (.int v2), .val (.ref v7), .val (.int j50)] [(.int p1), (.ref v7)])) t → Steps p.tables e below (s₁.setTop (entryFrame m #[(.int p0), (.int p1)] maxLocals)) t := fun t k => pre51 t (by
    show Steps p.tables e below (T5.setTop (mkF m 101 #[.val (.int p0), .val (.int p1), .val (.int v2), .val (.ref v7), .val (.int j50)] [])) _
    refine XS.aloadN X5.here hx rfl (hb hby at_101) rfl rfl ?_
    show Steps p.tables e below (T5.setTop (mkF m 102 #[.val (.int p0), .val (.int p1), .val (.int v2), .val (.ref v7), .val (.int j50)] [(.ref v7)])) _
    refine XS.iloadN X5.here hx rfl (hb hby at_102) rfl ?_
    exact k)
  obtain ⟨cq53, kq53, q53a, q53b, q53c⟩ := isOf hZ e5 E_v7
  obtain ⟨_, _, ⟨T53, L53, k53, n53⟩, -, X53, ⟨Lc53, hQ53, l53, y53, z53⟩, st53⟩ := X5.virtualBack hx (y := (⟨"com/example/prune_to_fit/prunetofit/ctl/Operator", "takes", "(I)Z"⟩ : MethodName)) (z := (⟨"com/example/prune_to_fit/prunetofit/ctl/Operator", "takes", "(I)Z"⟩ : MethodName)) hown (mvT hZ (hw _ (List.mem_of_getElem? (i := 8) rfl))) (mvT hZ (hw _ (List.mem_of_getElem? (i := 9) rfl))) (notFace_of_selects (args := #[]) (mvT hZ (hw _ (List.mem_of_getElem? (i := 11) rfl)))) (mvT hZ (hw _ (List.mem_of_getElem? (i := 11) rfl))) (mvT hZ (hw _ (List.mem_of_getElem? (i := 10) rfl))) (by decide) (backOf (W := 0) (rm2 l Z aw hw [] v7 p1 (own_min v2) (own_max v2) h0 n0 Z0 A_v7 M_v7) hZ (hw _ (List.mem_of_getElem? (i := 12) rfl)) (hw _ (List.mem_of_getElem? (i := 6) rfl)) (by decide) (by decide)) q53a q53c (g := (mkF m 103 #[.val (.int p0), .val (.int p1), .val (.int v2), .val (.ref v7), .val (.int j50)] [(.int p1), (.ref v7)])) rfl (by rw [hml]; rfl) (Steps.refl _) (argsL := [(.int p1)]) (rest := []) (lenOf pd_1 rfl) rfl (by show 2 * 0 + _ ≤ _; exact Nat.le_of_eq rfl) (hb hby at_103) (fun _ _ => ⟨rfl, e5, (by decide : 0 + 0 ≤ _), (by decide : 0 + 0 ≤ _)⟩)
  dsimp only [Pt.U, Pt.locs, Pt.cells, Pt.slots] at X53 l53 y53 z53 st53 hQ53
  subst l53 y53 z53
  obtain ⟨rfl, N53q, e53⟩ := hQ53
  have N53 := Fr.app N5 N53q
  have pre54 : ∀ t, Steps p.tables e below (T53.setTop (mkF m 108 #[.val (.int p0), .val (.int p1), .val (.int v2), .val (.ref v7), .val (.int j50)] [(.int j50), (.int (f2 p1 (own_min v2) (own_max v2)))])) t → Steps p.tables e below (s₁.setTop (entryFrame m #[(.int p0), (.int p1)] maxLocals)) t := fun t k => pre52 t (by
    show Steps p.tables e below (T5.setTop (mkF m 103 #[.val (.int p0), .val (.int p1), .val (.int v2), .val (.ref v7), .val (.int j50)] [(.int p1), (.ref v7)])) _
    refine st53.trans ?_
    show Steps p.tables e below (T53.setTop (mkF m 106 #[.val (.int p0), .val (.int p1), .val (.int v2), .val (.ref v7), .val (.int j50)] [(.int (f2 p1 (own_min v2) (own_max v2)))])) _
    refine XS.iload X53.here hx rfl (hb hby at_106) rfl ?_
    exact k)
  obtain ⟨j56, hj56, pre57⟩ : ∃ (j56 : Int32), j56 = (if (f2 p1 (own_min v2) (own_max v2)) = j50 then (1 : Int32) else (0 : Int32)) ∧ ∀ t, Steps p.tables e below (T53.setTop (mkF m 116 #[.val (.int p0), .val (.int p1), .val (.int v2), .val (.ref v7), .val (.int j50)] [(.int j56)])) t → Steps p.tables e below (s₁.setTop (entryFrame m #[(.int p0), (.int p1)] maxLocals)) t := by
    by_cases hc55 : (f2 p1 (own_min v2) (own_max v2)) = j50
    · exact ⟨(1 : Int32), (by rw [if_pos hc55]), fun t k => pre54 t (by
        show Steps p.tables e below (T53.setTop (mkF m 108 #[.val (.int p0), .val (.int p1), .val (.int v2), .val (.ref v7), .val (.int j50)] [(.int j50), (.int (f2 p1 (own_min v2) (own_max v2)))])) _
        refine XS.icmpNo X53.here hx rfl (hb hby at_108) rfl (teq hc55).2 ?_
        show Steps p.tables e below (T53.setTop (mkF m 111 #[.val (.int p0), .val (.int p1), .val (.int v2), .val (.ref v7), .val (.int j50)] [])) _
        refine XS.iconst X53.here hx rfl (hb hby at_111) ?_
        show Steps p.tables e below (T53.setTop (mkF m 112 #[.val (.int p0), .val (.int p1), .val (.int v2), .val (.ref v7), .val (.int j50)] [(.int (1 : Int32))])) _
        refine XS.goto X53.here hx rfl (pc0 := 112) (pc' := 116) rfl (hb hby at_112) (by decide) (by decide) ?_
        exact k)⟩
    · exact ⟨(0 : Int32), (by rw [if_neg hc55]), fun t k => pre54 t (by
        show Steps p.tables e below (T53.setTop (mkF m 108 #[.val (.int p0), .val (.int p1), .val (.int v2), .val (.ref v7), .val (.int j50)] [(.int j50), (.int (f2 p1 (own_min v2) (own_max v2)))])) _
        refine XS.icmpYes X53.here hx rfl (pc0 := 108) (pc' := 115) rfl (hb hby at_108) rfl (feq hc55).2 (by decide) (by decide) ?_
        show Steps p.tables e below (T53.setTop (mkF m 115 #[.val (.int p0), .val (.int p1), .val (.int v2), .val (.ref v7), .val (.int j50)] [])) _
        refine XS.iconst X53.here hx rfl (hb hby at_115) ?_
        exact k)⟩
  obtain ⟨fs, hr, hrun, hended, hW, hsame⟩ := X53.leave (v := some (.int (nar .boolean j56))) (fun h => by rw [Bd.returns] at h; cases h)
  refine ⟨_, _, pre57 _ ?_, hrun, hended, _, _, rfl, ?_, ⟨_, rfl⟩, hW, hsame.mono (by decide) (by decide)⟩
  · show Steps p.tables e below (T53.setTop (mkF m 116 #[.val (.int p0), .val (.int p1), .val (.int v2), .val (.ref v7), .val (.int j50)] [(.int j56)])) _
    exact retN X53 hx (t := .boolean) Bd.returns (by simp) (hb hby at_116) hr
  · show Q0 Z p0 p1 w_TRUE w_FALSE w_PROPOSITION w_NOT w_AND w_OR w_IMPLIES w_IFF w_AX w_EX w_AU w_EU w_AR w_ER h0 n0 _ T53.heap _
    rw [e53]
    have hv : (nar .boolean j56) = f0 p0 p1 w_TRUE w_FALSE w_PROPOSITION w_NOT w_AND w_OR w_IMPLIES w_IFF w_AX w_EX w_AU w_EU w_AR w_ER := (by subst hj56 hj50 hv7 hv2; rfl)
    exact ⟨congrArg (fun z => some (Value.int z)) (hv.trans hlaw), N53⟩
theorem own_same (p k : Int32) : f2 p k k = if p = k then 1 else 0 := by
  show nar .boolean (if p < k then (0 : Int32) else (if k < p then (0 : Int32) else (1 : Int32))) = _
  simp only [Int32.lt_iff_toInt_lt, ← Int32.toInt_inj]
  repeat' split
  all_goals first | rfl | omega
theorem own_more (p : Int32) : f2 p 2 2147483647 = if p < 2 then 0 else 1 := by
  have hp := rng32 p
  have k : (2147483647 : Int32).toInt = 2147483647 := by decide
  show nar .boolean (if p < 2 then (0 : Int32) else (if 2147483647 < p then (0 : Int32) else (1 : Int32))) = _
  simp only [Int32.lt_iff_toInt_lt, k]
  repeat' split
  all_goals first | rfl | omega
theorem own_fin (i p1 : Int32) (h : i = 0 ∨ i = 1 ∨ i = 2 ∨ i = 3 ∨ i = 4 ∨ i = 5 ∨ i = 6 ∨ i = 7 ∨ i = 8 ∨ i = 9 ∨ i = 10 ∨ i = 11 ∨ i = 12 ∨ i = 13) :
    nar .boolean (if f2 p1 (own_min i) (own_max i) = (if (2 : Int32) < i then (if i = (3 : Int32) then (if p1 = (1 : Int32) then (1 : Int32) else (0 : Int32)) else (if i = (8 : Int32) then (if p1 = (1 : Int32) then (1 : Int32) else (0 : Int32)) else (if i = (9 : Int32) then (if p1 = (1 : Int32) then (1 : Int32) else (0 : Int32)) else (if i = (4 : Int32) then (if p1 < (2 : Int32) then (0 : Int32) else (1 : Int32)) else (if i = (5 : Int32) then (if p1 < (2 : Int32) then (0 : Int32) else (1 : Int32)) else (if p1 = (2 : Int32) then (1 : Int32) else (0 : Int32))))))) else (if p1 = (0 : Int32) then (1 : Int32) else (0 : Int32))) then (1 : Int32) else (0 : Int32)) = 1 := by
  have hp := rng32 p1
  have z0 : f2 p1 0 0 = if p1 = 0 then 1 else 0 := own_same p1 0
  have z1 : f2 p1 1 1 = if p1 = 1 then 1 else 0 := own_same p1 1
  have z2 : f2 p1 2 2 = if p1 = 2 then 1 else 0 := own_same p1 2
  have z3 : f2 p1 2 2147483647 = if p1 < 2 then 0 else 1 := own_more p1
  rcases h with rfl | rfl | rfl | rfl | rfl | rfl | rfl | rfl | rfl | rfl | rfl | rfl | rfl | rfl
  · show nar .boolean (if f2 p1 0 0 = (if p1 = (0 : Int32) then (1 : Int32) else (0 : Int32)) then (1 : Int32) else (0 : Int32)) = 1
    rw [if_pos z0]; decide
  · show nar .boolean (if f2 p1 0 0 = (if p1 = (0 : Int32) then (1 : Int32) else (0 : Int32)) then (1 : Int32) else (0 : Int32)) = 1
    rw [if_pos z0]; decide
  · show nar .boolean (if f2 p1 0 0 = (if p1 = (0 : Int32) then (1 : Int32) else (0 : Int32)) then (1 : Int32) else (0 : Int32)) = 1
    rw [if_pos z0]; decide
  · show nar .boolean (if f2 p1 1 1 = (if p1 = (1 : Int32) then (1 : Int32) else (0 : Int32)) then (1 : Int32) else (0 : Int32)) = 1
    rw [if_pos z1]; decide
  · show nar .boolean (if f2 p1 2 2147483647 = (if p1 < (2 : Int32) then (0 : Int32) else (1 : Int32)) then (1 : Int32) else (0 : Int32)) = 1
    rw [if_pos z3]; decide
  · show nar .boolean (if f2 p1 2 2147483647 = (if p1 < (2 : Int32) then (0 : Int32) else (1 : Int32)) then (1 : Int32) else (0 : Int32)) = 1
    rw [if_pos z3]; decide
  · show nar .boolean (if f2 p1 2 2 = (if p1 = (2 : Int32) then (1 : Int32) else (0 : Int32)) then (1 : Int32) else (0 : Int32)) = 1
    rw [if_pos z2]; decide
  · show nar .boolean (if f2 p1 2 2 = (if p1 = (2 : Int32) then (1 : Int32) else (0 : Int32)) then (1 : Int32) else (0 : Int32)) = 1
    rw [if_pos z2]; decide
  · show nar .boolean (if f2 p1 1 1 = (if p1 = (1 : Int32) then (1 : Int32) else (0 : Int32)) then (1 : Int32) else (0 : Int32)) = 1
    rw [if_pos z1]; decide
  · show nar .boolean (if f2 p1 1 1 = (if p1 = (1 : Int32) then (1 : Int32) else (0 : Int32)) then (1 : Int32) else (0 : Int32)) = 1
    rw [if_pos z1]; decide
  · show nar .boolean (if f2 p1 2 2 = (if p1 = (2 : Int32) then (1 : Int32) else (0 : Int32)) then (1 : Int32) else (0 : Int32)) = 1
    rw [if_pos z2]; decide
  · show nar .boolean (if f2 p1 2 2 = (if p1 = (2 : Int32) then (1 : Int32) else (0 : Int32)) then (1 : Int32) else (0 : Int32)) = 1
    rw [if_pos z2]; decide
  · show nar .boolean (if f2 p1 2 2 = (if p1 = (2 : Int32) then (1 : Int32) else (0 : Int32)) then (1 : Int32) else (0 : Int32)) = 1
    rw [if_pos z2]; decide
  · show nar .boolean (if f2 p1 2 2 = (if p1 = (2 : Int32) then (1 : Int32) else (0 : Int32)) then (1 : Int32) else (0 : Int32)) = 1
    rw [if_pos z2]; decide
theorem own_law (p0 : Int32) (p1 : Int32) (w_TRUE : Addr) (w_FALSE : Addr) (w_PROPOSITION : Addr) (w_NOT : Addr) (w_AND : Addr) (w_OR : Addr) (w_IMPLIES : Addr) (w_IFF : Addr) (w_AX : Addr) (w_EX : Addr) (w_AU : Addr) (w_EU : Addr) (w_AR : Addr) (w_ER : Addr) : f0 p0 p1 w_TRUE w_FALSE w_PROPOSITION w_NOT w_AND w_OR w_IMPLIES w_IFF w_AX w_EX w_AU w_EU w_AR w_ER = 1 := by
  have m := c_mask p0 2147483647 31 (by decide) (by decide)
  have k : ((2 ^ 31 : Nat) : Int) = 2147483648 := by decide
  rw [k] at m
  have r := (c_irem (p0 &&& (2147483647 : Int32)) 14 14 (by decide)).1 (by omega)
  refine own_fin ((p0 &&& (2147483647 : Int32)) % (14 : Int32)) p1 ?_
  generalize (p0 &&& (2147483647 : Int32)) % (14 : Int32) = i at r
  have h0 : (0 : Int32).toInt = 0 := by decide
  have h1 : (1 : Int32).toInt = 1 := by decide
  have h2 : (2 : Int32).toInt = 2 := by decide
  have h3 : (3 : Int32).toInt = 3 := by decide
  have h4 : (4 : Int32).toInt = 4 := by decide
  have h5 : (5 : Int32).toInt = 5 := by decide
  have h6 : (6 : Int32).toInt = 6 := by decide
  have h7 : (7 : Int32).toInt = 7 := by decide
  have h8 : (8 : Int32).toInt = 8 := by decide
  have h9 : (9 : Int32).toInt = 9 := by decide
  have h10 : (10 : Int32).toInt = 10 := by decide
  have h11 : (11 : Int32).toInt = 11 := by decide
  have h12 : (12 : Int32).toInt = 12 := by decide
  have h13 : (13 : Int32).toInt = 13 := by decide
  simp only [← Int32.toInt_inj, h0, h1, h2, h3, h4, h5, h6, h7, h8, h9, h10, h11, h12, h13]
  omega

set_option maxRecDepth 65536 in
set_option maxHeartbeats 40000000 in
theorem comes_1 {Post : Tables → Env → Array Value → State → Outcome → State → Prop} (hpost : ∀ tb e args s v u, (limb_1_1.after args s (.returned v) u = true ∧ limb_1_2.after args s (.returned v) u = true ∧ True) → FrameEnd s (.returned v) u (Jvm.fieldLocs frame_1_writes args s ++ Jvm.arrayLocs frame_1_arrays args s ++ Jvm.staticLocs frame_1_statics s) 0 0 → Post tb e args s (.returned v) u) :
    ArmFor flags0 classFile x code maxLocals ret World_1 tables_1 room_1 Calls_1 rest_1 Pre_1 Post := by
  intro l hfl _ _ p e ha hc hk s m args below hf hA hF happ hP
  obtain ⟨hcalls, hrest, hpre⟩ := hP
  obtain ⟨-, -, -, hnamed, -, -, -, hat⟩ := (Spec.applies_iff hf).mp happ
  obtain ⟨hg, hn⟩ := and_e (Cond.before_iff.mp (show (Jvm.Cond.and given_1 narrow_1).before args s = true from hpre))
  obtain ⟨g1, g2⟩ := and_e hg
  obtain ⟨g3, g4⟩ := and_e g2
  obtain ⟨w0, w1, rfl⟩ : ∃ w0 w1 : Value, args = #[w0, w1] := by
    have hs : args.size = 2 := by simpa [Cond.value, given_1] using g1
    obtain ⟨L⟩ := args
    match L, hs with
    | [w0, w1], _ => exact ⟨w0, w1, rfl⟩
  have hw := fun d (hd : d ∈ tables_1) => atoms_spec (ws := Jvm.Cond.code x code maxLocals ret :: tables_1) hat d (List.mem_cons_of_mem _ hd)
  have hfit : Fit s := fun {y c} hc i hi => by
    obtain ⟨ha, rfl⟩ := Array.getElem?_eq_some_iff.mp hc
    have q := List.all_eq_true.mp ((Array.all_eq_true_iff_forall_mem.mp hF) _ (Array.getElem_mem ha)) i (List.mem_range.mpr hi)
    simpa [Array.getElem?_eq_getElem hi] using q
  obtain ⟨i0, ei0⟩ := is_v g3
  obtain rfl : w0 = (.int i0) := Option.some.inj ei0
  obtain ⟨i1, ei1⟩ := is_v g4
  obtain rfl : w1 = (.int i1) := Option.some.inj ei1
  obtain ⟨nn1, nn2⟩ := and_e hn
  obtain ⟨nn3, nn4⟩ := and_e nn2
  obtain ⟨nn5, nn6⟩ := and_e nn4
  obtain ⟨nn7, nn8⟩ := and_e nn6
  obtain ⟨nn9, nn10⟩ := and_e nn8
  obtain ⟨nn11, nn12⟩ := and_e nn10
  obtain ⟨nn13, nn14⟩ := and_e nn12
  obtain ⟨nn15, nn16⟩ := and_e nn14
  obtain ⟨nn17, nn18⟩ := and_e nn16
  obtain ⟨nn19, nn20⟩ := and_e nn18
  obtain ⟨nn21, nn22⟩ := and_e nn20
  obtain ⟨nn23, nn24⟩ := and_e nn22
  obtain ⟨nn25, nn26⟩ := and_e nn24
  obtain ⟨nn27, nn28⟩ := and_e nn26
  obtain ⟨nn29, nn30⟩ := and_e nn28
  obtain ⟨nn31, nn32⟩ := and_e nn30
  obtain ⟨nn33, nn34⟩ := and_e nn32
  obtain ⟨nn35, nn36⟩ := and_e nn34
  obtain ⟨nn37, nn38⟩ := and_e nn36
  obtain ⟨nn39, nn40⟩ := and_e nn38
  obtain ⟨nn41, nn42⟩ := and_e nn40
  obtain ⟨nn43, nn44⟩ := and_e nn42
  obtain ⟨nn45, nn46⟩ := and_e nn44
  obtain ⟨nn47, nn48⟩ := and_e nn46
  obtain ⟨nn49, nn50⟩ := and_e nn48
  obtain ⟨nn51, nn52⟩ := and_e nn50
  obtain ⟨nn53, nn54⟩ := and_e nn52
  obtain ⟨nn55, nn56⟩ := and_e nn54
  obtain ⟨nn57, nn58⟩ := and_e nn56
  obtain ⟨nn59, nn60⟩ := and_e nn58
  obtain ⟨nn61, nn62⟩ := and_e nn60
  obtain ⟨nn63, nn64⟩ := and_e nn62
  obtain ⟨nn65, nn66⟩ := and_e nn64
  obtain ⟨nn67, nn68⟩ := and_e nn66
  obtain ⟨nn69, nn70⟩ := and_e nn68
  obtain ⟨nn71, nn72⟩ := and_e nn70
  obtain ⟨nn73, nn74⟩ := and_e nn72
  obtain ⟨nn75, nn76⟩ := and_e nn74
  obtain ⟨nn77, nn78⟩ := and_e nn76
  obtain ⟨nn79, nn80⟩ := and_e nn78
  obtain ⟨nn81, nn82⟩ := and_e nn80
  obtain ⟨z_TRUE, ez_TRUE⟩ := exa_v nn1
  have S_TRUE : Sta s s.heap "com/example/prune_to_fit/prunetofit/ctl/Operator" "TRUE" "Lcom/example/prune_to_fit/prunetofit/ctl/Operator;" (.ref z_TRUE) := Sta.start ez_TRUE (Or.inr ⟨hw _ (List.mem_of_getElem? (i := 6) rfl), hw _ (List.mem_of_getElem? (i := 7) rfl)⟩)
  have E_TRUE : Exa s s.heap z_TRUE "com/example/prune_to_fit/prunetofit/ctl/Operator" := Exa.start ez_TRUE nn1
  obtain ⟨z_AU, ez_AU⟩ := exa_v nn7
  have S_AU : Sta s s.heap "com/example/prune_to_fit/prunetofit/ctl/Operator" "AU" "Lcom/example/prune_to_fit/prunetofit/ctl/Operator;" (.ref z_AU) := Sta.start ez_AU (Or.inr ⟨hw _ (List.mem_of_getElem? (i := 6) rfl), hw _ (List.mem_of_getElem? (i := 18) rfl)⟩)
  have E_AU : Exa s s.heap z_AU "com/example/prune_to_fit/prunetofit/ctl/Operator" := Exa.start ez_AU nn7
  obtain ⟨z_AX, ez_AX⟩ := exa_v nn13
  have S_AX : Sta s s.heap "com/example/prune_to_fit/prunetofit/ctl/Operator" "AX" "Lcom/example/prune_to_fit/prunetofit/ctl/Operator;" (.ref z_AX) := Sta.start ez_AX (Or.inr ⟨hw _ (List.mem_of_getElem? (i := 6) rfl), hw _ (List.mem_of_getElem? (i := 20) rfl)⟩)
  have E_AX : Exa s s.heap z_AX "com/example/prune_to_fit/prunetofit/ctl/Operator" := Exa.start ez_AX nn13
  obtain ⟨z_AND, ez_AND⟩ := exa_v nn17
  have S_AND : Sta s s.heap "com/example/prune_to_fit/prunetofit/ctl/Operator" "AND" "Lcom/example/prune_to_fit/prunetofit/ctl/Operator;" (.ref z_AND) := Sta.start ez_AND (Or.inr ⟨hw _ (List.mem_of_getElem? (i := 6) rfl), hw _ (List.mem_of_getElem? (i := 22) rfl)⟩)
  have E_AND : Exa s s.heap z_AND "com/example/prune_to_fit/prunetofit/ctl/Operator" := Exa.start ez_AND nn17
  obtain ⟨z_EU, ez_EU⟩ := exa_v nn21
  have S_EU : Sta s s.heap "com/example/prune_to_fit/prunetofit/ctl/Operator" "EU" "Lcom/example/prune_to_fit/prunetofit/ctl/Operator;" (.ref z_EU) := Sta.start ez_EU (Or.inr ⟨hw _ (List.mem_of_getElem? (i := 6) rfl), hw _ (List.mem_of_getElem? (i := 24) rfl)⟩)
  have E_EU : Exa s s.heap z_EU "com/example/prune_to_fit/prunetofit/ctl/Operator" := Exa.start ez_EU nn21
  obtain ⟨z_IMPLIES, ez_IMPLIES⟩ := exa_v nn27
  have S_IMPLIES : Sta s s.heap "com/example/prune_to_fit/prunetofit/ctl/Operator" "IMPLIES" "Lcom/example/prune_to_fit/prunetofit/ctl/Operator;" (.ref z_IMPLIES) := Sta.start ez_IMPLIES (Or.inr ⟨hw _ (List.mem_of_getElem? (i := 6) rfl), hw _ (List.mem_of_getElem? (i := 26) rfl)⟩)
  have E_IMPLIES : Exa s s.heap z_IMPLIES "com/example/prune_to_fit/prunetofit/ctl/Operator" := Exa.start ez_IMPLIES nn27
  obtain ⟨z_AR, ez_AR⟩ := exa_v nn33
  have S_AR : Sta s s.heap "com/example/prune_to_fit/prunetofit/ctl/Operator" "AR" "Lcom/example/prune_to_fit/prunetofit/ctl/Operator;" (.ref z_AR) := Sta.start ez_AR (Or.inr ⟨hw _ (List.mem_of_getElem? (i := 6) rfl), hw _ (List.mem_of_getElem? (i := 28) rfl)⟩)
  have E_AR : Exa s s.heap z_AR "com/example/prune_to_fit/prunetofit/ctl/Operator" := Exa.start ez_AR nn33
  obtain ⟨z_IFF, ez_IFF⟩ := exa_v nn39
  have S_IFF : Sta s s.heap "com/example/prune_to_fit/prunetofit/ctl/Operator" "IFF" "Lcom/example/prune_to_fit/prunetofit/ctl/Operator;" (.ref z_IFF) := Sta.start ez_IFF (Or.inr ⟨hw _ (List.mem_of_getElem? (i := 6) rfl), hw _ (List.mem_of_getElem? (i := 30) rfl)⟩)
  have E_IFF : Exa s s.heap z_IFF "com/example/prune_to_fit/prunetofit/ctl/Operator" := Exa.start ez_IFF nn39
  obtain ⟨z_NOT, ez_NOT⟩ := exa_v nn45
  have S_NOT : Sta s s.heap "com/example/prune_to_fit/prunetofit/ctl/Operator" "NOT" "Lcom/example/prune_to_fit/prunetofit/ctl/Operator;" (.ref z_NOT) := Sta.start ez_NOT (Or.inr ⟨hw _ (List.mem_of_getElem? (i := 6) rfl), hw _ (List.mem_of_getElem? (i := 32) rfl)⟩)
  have E_NOT : Exa s s.heap z_NOT "com/example/prune_to_fit/prunetofit/ctl/Operator" := Exa.start ez_NOT nn45
  obtain ⟨z_OR, ez_OR⟩ := exa_v nn51
  have S_OR : Sta s s.heap "com/example/prune_to_fit/prunetofit/ctl/Operator" "OR" "Lcom/example/prune_to_fit/prunetofit/ctl/Operator;" (.ref z_OR) := Sta.start ez_OR (Or.inr ⟨hw _ (List.mem_of_getElem? (i := 6) rfl), hw _ (List.mem_of_getElem? (i := 34) rfl)⟩)
  have E_OR : Exa s s.heap z_OR "com/example/prune_to_fit/prunetofit/ctl/Operator" := Exa.start ez_OR nn51
  obtain ⟨z_FALSE, ez_FALSE⟩ := exa_v nn55
  have S_FALSE : Sta s s.heap "com/example/prune_to_fit/prunetofit/ctl/Operator" "FALSE" "Lcom/example/prune_to_fit/prunetofit/ctl/Operator;" (.ref z_FALSE) := Sta.start ez_FALSE (Or.inr ⟨hw _ (List.mem_of_getElem? (i := 6) rfl), hw _ (List.mem_of_getElem? (i := 36) rfl)⟩)
  have E_FALSE : Exa s s.heap z_FALSE "com/example/prune_to_fit/prunetofit/ctl/Operator" := Exa.start ez_FALSE nn55
  obtain ⟨z_PROPOSITION, ez_PROPOSITION⟩ := exa_v nn61
  have S_PROPOSITION : Sta s s.heap "com/example/prune_to_fit/prunetofit/ctl/Operator" "PROPOSITION" "Lcom/example/prune_to_fit/prunetofit/ctl/Operator;" (.ref z_PROPOSITION) := Sta.start ez_PROPOSITION (Or.inr ⟨hw _ (List.mem_of_getElem? (i := 6) rfl), hw _ (List.mem_of_getElem? (i := 38) rfl)⟩)
  have E_PROPOSITION : Exa s s.heap z_PROPOSITION "com/example/prune_to_fit/prunetofit/ctl/Operator" := Exa.start ez_PROPOSITION nn61
  obtain ⟨z_ER, ez_ER⟩ := exa_v nn67
  have S_ER : Sta s s.heap "com/example/prune_to_fit/prunetofit/ctl/Operator" "ER" "Lcom/example/prune_to_fit/prunetofit/ctl/Operator;" (.ref z_ER) := Sta.start ez_ER (Or.inr ⟨hw _ (List.mem_of_getElem? (i := 6) rfl), hw _ (List.mem_of_getElem? (i := 40) rfl)⟩)
  have E_ER : Exa s s.heap z_ER "com/example/prune_to_fit/prunetofit/ctl/Operator" := Exa.start ez_ER nn67
  obtain ⟨z_EX, ez_EX⟩ := exa_v nn77
  have S_EX : Sta s s.heap "com/example/prune_to_fit/prunetofit/ctl/Operator" "EX" "Lcom/example/prune_to_fit/prunetofit/ctl/Operator;" (.ref z_EX) := Sta.start ez_EX (Or.inr ⟨hw _ (List.mem_of_getElem? (i := 6) rfl), hw _ (List.mem_of_getElem? (i := 42) rfl)⟩)
  have E_EX : Exa s s.heap z_EX "com/example/prune_to_fit/prunetofit/ctl/Operator" := Exa.start ez_EX nn77
  have F_minOperands_TRUE : Fld s s.heap z_TRUE "com/example/prune_to_fit/prunetofit/ctl/Operator" "minOperands" "I" (.int (0 : Int32)) := Fld.start ((fld_at ez_TRUE).symm.trans (own_eq_int nn3))
  have F_maxOperands_TRUE : Fld s s.heap z_TRUE "com/example/prune_to_fit/prunetofit/ctl/Operator" "maxOperands" "I" (.int (0 : Int32)) := Fld.start ((fld_at ez_TRUE).symm.trans (own_eq_int nn5))
  have F_minOperands_AU : Fld s s.heap z_AU "com/example/prune_to_fit/prunetofit/ctl/Operator" "minOperands" "I" (.int (2 : Int32)) := Fld.start ((fld_at ez_AU).symm.trans (own_eq_int nn9))
  have F_maxOperands_AU : Fld s s.heap z_AU "com/example/prune_to_fit/prunetofit/ctl/Operator" "maxOperands" "I" (.int (2 : Int32)) := Fld.start ((fld_at ez_AU).symm.trans (own_eq_int nn11))
  have F_minOperands_AX : Fld s s.heap z_AX "com/example/prune_to_fit/prunetofit/ctl/Operator" "minOperands" "I" (.int (1 : Int32)) := Fld.start ((fld_at ez_AX).symm.trans (own_eq_int nn15))
  have F_minOperands_AND : Fld s s.heap z_AND "com/example/prune_to_fit/prunetofit/ctl/Operator" "minOperands" "I" (.int (2 : Int32)) := Fld.start ((fld_at ez_AND).symm.trans (own_eq_int nn19))
  have F_minOperands_EU : Fld s s.heap z_EU "com/example/prune_to_fit/prunetofit/ctl/Operator" "minOperands" "I" (.int (2 : Int32)) := Fld.start ((fld_at ez_EU).symm.trans (own_eq_int nn23))
  have F_maxOperands_EU : Fld s s.heap z_EU "com/example/prune_to_fit/prunetofit/ctl/Operator" "maxOperands" "I" (.int (2 : Int32)) := Fld.start ((fld_at ez_EU).symm.trans (own_eq_int nn25))
  have F_minOperands_IMPLIES : Fld s s.heap z_IMPLIES "com/example/prune_to_fit/prunetofit/ctl/Operator" "minOperands" "I" (.int (2 : Int32)) := Fld.start ((fld_at ez_IMPLIES).symm.trans (own_eq_int nn29))
  have F_maxOperands_AX : Fld s s.heap z_AX "com/example/prune_to_fit/prunetofit/ctl/Operator" "maxOperands" "I" (.int (1 : Int32)) := Fld.start ((fld_at ez_AX).symm.trans (own_eq_int nn31))
  have F_minOperands_AR : Fld s s.heap z_AR "com/example/prune_to_fit/prunetofit/ctl/Operator" "minOperands" "I" (.int (2 : Int32)) := Fld.start ((fld_at ez_AR).symm.trans (own_eq_int nn35))
  have F_maxOperands_AR : Fld s s.heap z_AR "com/example/prune_to_fit/prunetofit/ctl/Operator" "maxOperands" "I" (.int (2 : Int32)) := Fld.start ((fld_at ez_AR).symm.trans (own_eq_int nn37))
  have F_minOperands_IFF : Fld s s.heap z_IFF "com/example/prune_to_fit/prunetofit/ctl/Operator" "minOperands" "I" (.int (2 : Int32)) := Fld.start ((fld_at ez_IFF).symm.trans (own_eq_int nn41))
  have F_maxOperands_IFF : Fld s s.heap z_IFF "com/example/prune_to_fit/prunetofit/ctl/Operator" "maxOperands" "I" (.int (2 : Int32)) := Fld.start ((fld_at ez_IFF).symm.trans (own_eq_int nn43))
  have F_minOperands_NOT : Fld s s.heap z_NOT "com/example/prune_to_fit/prunetofit/ctl/Operator" "minOperands" "I" (.int (1 : Int32)) := Fld.start ((fld_at ez_NOT).symm.trans (own_eq_int nn47))
  have F_maxOperands_NOT : Fld s s.heap z_NOT "com/example/prune_to_fit/prunetofit/ctl/Operator" "maxOperands" "I" (.int (1 : Int32)) := Fld.start ((fld_at ez_NOT).symm.trans (own_eq_int nn49))
  have F_minOperands_OR : Fld s s.heap z_OR "com/example/prune_to_fit/prunetofit/ctl/Operator" "minOperands" "I" (.int (2 : Int32)) := Fld.start ((fld_at ez_OR).symm.trans (own_eq_int nn53))
  have F_minOperands_FALSE : Fld s s.heap z_FALSE "com/example/prune_to_fit/prunetofit/ctl/Operator" "minOperands" "I" (.int (0 : Int32)) := Fld.start ((fld_at ez_FALSE).symm.trans (own_eq_int nn57))
  have F_maxOperands_FALSE : Fld s s.heap z_FALSE "com/example/prune_to_fit/prunetofit/ctl/Operator" "maxOperands" "I" (.int (0 : Int32)) := Fld.start ((fld_at ez_FALSE).symm.trans (own_eq_int nn59))
  have F_minOperands_PROPOSITION : Fld s s.heap z_PROPOSITION "com/example/prune_to_fit/prunetofit/ctl/Operator" "minOperands" "I" (.int (0 : Int32)) := Fld.start ((fld_at ez_PROPOSITION).symm.trans (own_eq_int nn63))
  have F_maxOperands_PROPOSITION : Fld s s.heap z_PROPOSITION "com/example/prune_to_fit/prunetofit/ctl/Operator" "maxOperands" "I" (.int (0 : Int32)) := Fld.start ((fld_at ez_PROPOSITION).symm.trans (own_eq_int nn65))
  have F_minOperands_ER : Fld s s.heap z_ER "com/example/prune_to_fit/prunetofit/ctl/Operator" "minOperands" "I" (.int (2 : Int32)) := Fld.start ((fld_at ez_ER).symm.trans (own_eq_int nn69))
  have F_maxOperands_ER : Fld s s.heap z_ER "com/example/prune_to_fit/prunetofit/ctl/Operator" "maxOperands" "I" (.int (2 : Int32)) := Fld.start ((fld_at ez_ER).symm.trans (own_eq_int nn71))
  have F_maxOperands_OR : Fld s s.heap z_OR "com/example/prune_to_fit/prunetofit/ctl/Operator" "maxOperands" "I" (.int (2147483647 : Int32)) := Fld.start ((fld_at ez_OR).symm.trans (own_eq_int nn73))
  have F_maxOperands_IMPLIES : Fld s s.heap z_IMPLIES "com/example/prune_to_fit/prunetofit/ctl/Operator" "maxOperands" "I" (.int (2 : Int32)) := Fld.start ((fld_at ez_IMPLIES).symm.trans (own_eq_int nn75))
  have F_minOperands_EX : Fld s s.heap z_EX "com/example/prune_to_fit/prunetofit/ctl/Operator" "minOperands" "I" (.int (1 : Int32)) := Fld.start ((fld_at ez_EX).symm.trans (own_eq_int nn79))
  have F_maxOperands_EX : Fld s s.heap z_EX "com/example/prune_to_fit/prunetofit/ctl/Operator" "maxOperands" "I" (.int (1 : Int32)) := Fld.start ((fld_at ez_EX).symm.trans (own_eq_int nn81))
  have F_maxOperands_AND : Fld s s.heap z_AND "com/example/prune_to_fit/prunetofit/ctl/Operator" "maxOperands" "I" (.int (2147483647 : Int32)) := Fld.start ((fld_at ez_AND).symm.trans (own_eq_int nn82))
  obtain ⟨n, o, h1, h2, h3, _, L, rfl, ⟨rfl, N⟩, hq⟩ := rm0 l s _ hw tables_1 i0 i1 z_TRUE z_FALSE z_PROPOSITION z_NOT z_AND z_OR z_IMPLIES z_IFF z_AX z_EX z_AU z_EU z_AR z_ER s.heap s.heap.size (Nat.le_refl _) S_TRUE S_FALSE S_PROPOSITION S_NOT S_AND S_OR S_IMPLIES S_IFF S_AX S_EX S_AU S_EU S_AR S_ER E_TRUE F_minOperands_TRUE F_maxOperands_TRUE E_FALSE F_minOperands_FALSE F_maxOperands_FALSE E_PROPOSITION F_minOperands_PROPOSITION F_maxOperands_PROPOSITION E_NOT F_minOperands_NOT F_maxOperands_NOT E_AND F_minOperands_AND F_maxOperands_AND E_OR F_minOperands_OR F_maxOperands_OR E_IMPLIES F_minOperands_IMPLIES F_maxOperands_IMPLIES E_IFF F_minOperands_IFF F_maxOperands_IFF E_AX F_minOperands_AX F_maxOperands_AX E_EX F_minOperands_EX F_maxOperands_EX E_AU F_minOperands_AU F_maxOperands_AU E_EU F_minOperands_EU F_maxOperands_EU E_AR F_minOperands_AR F_maxOperands_AR E_ER F_minOperands_ER F_maxOperands_ER (own_law i0 i1 z_TRUE z_FALSE z_PROPOSITION z_NOT z_AND z_OR z_IMPLIES z_IFF z_AX z_EX z_AU z_EU z_AR z_ER) p e ha hc hk s m _ below hf ((Spec.applies_iff_loose hf).mp happ).1 ⟨rfl, State.Warmed39.refl s, rfl⟩ trivial
  refine ⟨n, _, h1, h2, h3, hpost _ _ _ _ _ _ ⟨Cond.after_iff.mpr rfl, Cond.after_iff.mpr (eq_i res_at (Term.int_eval (1)) rfl), trivial⟩ ⟨hq.1, hq.2.1, (hq.2.2.sift fun y hy => Or.inr (N y hy)).mono (by decide) (by decide)⟩⟩
theorem main_1_1 : Claimed_1_1 := comes_1 fun _ _ _ _ _ _ h hF => ⟨h.1, hF⟩
theorem main_1_2 : Claimed_1_2 := comes_1 fun _ _ _ _ _ _ h hF => ⟨h.2.1, hF⟩
end Jvm.Pilot.@@N@@
namespace Jvm.Pilot.@@N@@
open Jvm Jvm.ClassFile Sem Op Lib Jvm.Free Jvm.Stand Jvm.Pilot.@@N@@.Jvm.D
/-! MADE BY PROGRAM (witnessworld.py) out of the Statement's table words and the real class files: 12 classes; the members and pool entries that the words name. The judged class is class 1, her method 2. -/
namespace start1
open Jvm.ClassFile
def u (s : String) : CpInfo := .utf8 (stringToUtf16 s)
/-- a pool by its gaps: so many unusable entries, then the entry; so many at the end -/
def gap : Nat → List CpInfo → List CpInfo
  | 0, r => r
  | n + 1, r => .unusable :: gap n r
def poolList (es : List (Nat × CpInfo)) (last : Nat) : List CpInfo := es.foldr (fun e r => gap e.1 (e.2 :: r)) (gap last [])
def pool (es : List (Nat × CpInfo)) (last : Nat) : Array CpInfo := ⟨poolList es last⟩
def fileOf (pool : Array CpInfo) (this : Nat) (attrs : Array Attribute := #[]) (ms : Array MethodInfo := #[]) (fl : Nat := 33) (sup : Nat := 0) (ifs : Array Nat := #[]) (fds : Array FieldInfo := #[]) : ClassFile where
  minorVersion := 0
  majorVersion := 65
  constantPool := pool
  accessFlags := fl
  thisClass := this
  superClass := sup
  interfaces := ifs
  fields := fds
  methods := ms
  attributes := attrs
def plain (name : String) (sup : Option ClassId) : Class where
  name := name
  kind := .ordinary
  loader := none
  accessFlags := 33
  super := sup
  interfaces := #[]
  cf := none
  fields := #[]
  methods := #[]
  instanceTypes := #[]
  staticTypes := #[]
  resolved := #[]
  callSites := []
  init := .initialized
  statics := none
  mirror := none

def pool0 : Array CpInfo := pool [(5, u "<init>"), (0, u "()V"), (1, .class_ 10), (1, u "java/lang/Object")] 113

def k0m0 : Method := { name := "<init>", desc := "()V", sig := { parameters := [], returnType := none }, accessFlags := 1, code := none }
/-- java/lang/Object -/
def k0 : Class := { plain "java/lang/Object" none with
  accessFlags := 33
  interfaces := #[]
  cf := some (fileOf pool0 8 #[] #[{ accessFlags := 1, nameIndex := 5, descriptorIndex := 6, attributes := #[] }] 33 0 #[] #[])
  fields := #[]
  methods := #[k0m0]
  instanceTypes := #[]
  staticTypes := #[]
  resolved := Array.replicate 124 none
  statics := none }

def pool1 : Array CpInfo := pool [(2, .class_ 4), (1, u "java/lang/Object"), (0, u "<init>"), (0, u "()V"), (0, .fieldref 8 9), (0, .class_ 10), (0, .nameAndType 11 12), (0, u "com/example/prune_to_fit/prunetofit/ctl/Operator"), (0, u "TRUE"), (0, u "Lcom/example/prune_to_fit/prunetofit/ctl/Operator;"), (0, .fieldref 8 14), (0, .nameAndType 15 12), (0, u "FALSE"), (0, .fieldref 8 17), (0, .nameAndType 18 12), (0, u "PROPOSITION"), (0, .fieldref 8 20), (0, .nameAndType 21 12), (0, u "NOT"), (0, .fieldref 8 23), (0, .nameAndType 24 12), (0, u "AND"), (0, .fieldref 8 26), (0, .nameAndType 27 12), (0, u "OR"), (0, .fieldref 8 29), (0, .nameAndType 30 12), (0, u "IMPLIES"), (0, .fieldref 8 32), (0, .nameAndType 33 12), (0, u "IFF"), (0, .fieldref 8 35), (0, .nameAndType 36 12), (0, u "AX"), (0, .fieldref 8 38), (0, .nameAndType 39 12), (0, u "EX"), (0, .fieldref 8 41), (0, .nameAndType 42 12), (0, u "AU"), (0, .fieldref 8 44), (0, .nameAndType 45 12), (0, u "EU"), (0, .fieldref 8 47), (0, .nameAndType 48 12), (0, u "AR"), (0, .fieldref 8 50), (0, .nameAndType 51 12), (0, u "ER"), (0, .integer 2147483647), (0, .methodref 54 55), (0, .class_ 56), (0, .nameAndType 57 58), (0, u "com/example/prune_to_fit/prunetofit/ctl/OperatorTakesPinLaw"), (0, u "pick"), (0, u "(I)Lcom/example/prune_to_fit/prunetofit/ctl/Operator;"), (0, .methodref 8 60), (0, .nameAndType 61 62), (0, u "takes"), (0, u "(I)Z"), (3, u "law"), (0, u "(II)Z")] 2

def k1m0 : Method := { name := "<init>", desc := "()V", sig := { parameters := [], returnType := none }, accessFlags := 2, code := none }
def k1c1 : Code := { maxStack := 2, maxLocals := 1, code := method_2_code, exceptionTable := #[], attributes := #[] }
def k1m1 : Method := { name := "pick", desc := "(I)Lcom/example/prune_to_fit/prunetofit/ctl/Operator;", sig := { parameters := [.int], returnType := some (.object "com/example/prune_to_fit/prunetofit/ctl/Operator") }, accessFlags := 10, code := some k1c1 }
def k1c2 : Code := { maxStack := 2, maxLocals := 5, code := code, exceptionTable := #[], attributes := #[] }
def k1m2 : Method := { name := "law", desc := "(II)Z", sig := { parameters := [.int, .int], returnType := some .boolean }, accessFlags := 9, code := some k1c2 }
/-- com/example/prune_to_fit/prunetofit/ctl/OperatorTakesPinLaw -/
def k1 : Class := { plain "com/example/prune_to_fit/prunetofit/ctl/OperatorTakesPinLaw" (some 0) with
  accessFlags := 49
  interfaces := #[]
  cf := some (fileOf pool1 54 #[] #[{ accessFlags := 2, nameIndex := 5, descriptorIndex := 6, attributes := #[] }, { accessFlags := 10, nameIndex := 57, descriptorIndex := 58, attributes := #[] }, { accessFlags := 9, nameIndex := 66, descriptorIndex := 67, attributes := #[] }] 49 2 #[] #[])
  fields := #[]
  methods := #[k1m0, k1m1, k1m2]
  instanceTypes := #[]
  staticTypes := #[]
  resolved := Array.replicate 70 none
  statics := none }

def pool2 : Array CpInfo := pool [(1, .class_ 2), (0, u "java/lang/constant/Constable"), (0, .class_ 4), (0, u "java/lang/Object")] 6

/-- java/lang/constant/Constable -/
def k2 : Class := { plain "java/lang/constant/Constable" (some 0) with
  accessFlags := 1537
  interfaces := #[]
  cf := some (fileOf pool2 1 #[] #[] 1537 3 #[] #[])
  fields := #[]
  methods := #[]
  instanceTypes := #[]
  staticTypes := #[]
  resolved := Array.replicate 11 none
  statics := none }

def pool3 : Array CpInfo := pool [(1, .class_ 2), (0, u "java/lang/Comparable"), (0, .class_ 4), (0, u "java/lang/Object")] 7

/-- java/lang/Comparable -/
def k3 : Class := { plain "java/lang/Comparable" (some 0) with
  accessFlags := 1537
  interfaces := #[]
  cf := some (fileOf pool3 1 #[] #[] 1537 3 #[] #[])
  fields := #[]
  methods := #[]
  instanceTypes := #[]
  staticTypes := #[]
  resolved := Array.replicate 12 none
  statics := none }

def pool4 : Array CpInfo := pool [(1, .class_ 2), (0, u "java/io/Serializable"), (0, .class_ 4), (0, u "java/lang/Object")] 2

/-- java/io/Serializable -/
def k4 : Class := { plain "java/io/Serializable" (some 0) with
  accessFlags := 1537
  interfaces := #[]
  cf := some (fileOf pool4 1 #[] #[] 1537 3 #[] #[])
  fields := #[]
  methods := #[]
  instanceTypes := #[]
  staticTypes := #[]
  resolved := Array.replicate 7 none
  statics := none }

def pool5 : Array CpInfo := pool [(2, .class_ 4), (1, u "java/lang/Enum"), (0, u "name"), (0, u "Ljava/lang/String;"), (2, u "ordinal"), (0, u "I"), (1, .class_ 14), (1, u "java/lang/Object"), (4, u "hash"), (86, .class_ 108), (1, u "java/lang/Enum$EnumDesc"), (2, .class_ 112), (0, u "java/lang/constant/Constable"), (0, .class_ 114), (0, u "java/lang/Comparable"), (0, .class_ 116), (0, u "java/io/Serializable")] 87

/-- java/lang/Enum -/
def k5 : Class := { plain "java/lang/Enum" (some 0) with
  accessFlags := 1057
  interfaces := #[2, 3, 4]
  cf := some (fileOf pool5 2 #[.nestMembers #[106]] #[] 1057 12 #[111, 113, 115] #[{ accessFlags := 18, nameIndex := 5, descriptorIndex := 6, attributes := #[] }, { accessFlags := 18, nameIndex := 9, descriptorIndex := 10, attributes := #[] }, { accessFlags := 2, nameIndex := 19, descriptorIndex := 10, attributes := #[] }])
  fields := #[{ name := "name", type := (.object "java/lang/String"), accessFlags := 18, slot := 0, constantValue := 0 }, { name := "ordinal", type := .int, accessFlags := 18, slot := 1, constantValue := 0 }, { name := "hash", type := .int, accessFlags := 2, slot := 2, constantValue := 0 }]
  methods := #[]
  instanceTypes := #[(.object "java/lang/String"), .int, .int]
  staticTypes := #[]
  resolved := Array.replicate 204 none
  statics := none }

def pool6 : Array CpInfo := pool [(1, .class_ 2), (0, u "com/example/prune_to_fit/prunetofit/ctl/Operator"), (2, u "TRUE"), (0, u "Lcom/example/prune_to_fit/prunetofit/ctl/Operator;"), (2, u "FALSE"), (2, u "PROPOSITION"), (2, u "NOT"), (2, u "AND"), (2, u "OR"), (2, u "IMPLIES"), (2, u "IFF"), (2, u "AX"), (2, u "EX"), (2, u "AU"), (2, u "EU"), (2, u "AR"), (2, u "ER"), (2, u "$VALUES"), (0, u "[Lcom/example/prune_to_fit/prunetofit/ctl/Operator;"), (6, .class_ 58), (1, u "java/lang/Enum"), (6, .fieldref 1 66), (0, .nameAndType 67 68), (0, u "minOperands"), (0, u "I"), (0, .fieldref 1 70), (0, .nameAndType 71 68), (0, u "maxOperands"), (31, u "takes"), (0, u "(I)Z")] 6

def k6c0 : Code := { maxStack := 2, maxLocals := 2, code := prog_11_method_4_code, exceptionTable := #[], attributes := #[] }
def k6m0 : Method := { name := "takes", desc := "(I)Z", sig := { parameters := [.int], returnType := some .boolean }, accessFlags := 1, code := some k6c0 }
/-- com/example/prune_to_fit/prunetofit/ctl/Operator -/
def k6 : Class := { plain "com/example/prune_to_fit/prunetofit/ctl/Operator" (some 5) with
  accessFlags := 16433
  interfaces := #[]
  cf := some (fileOf pool6 1 #[] #[{ accessFlags := 1, nameIndex := 103, descriptorIndex := 104, attributes := #[] }] 16433 56 #[] #[{ accessFlags := 16409, nameIndex := 5, descriptorIndex := 6, attributes := #[] }, { accessFlags := 16409, nameIndex := 9, descriptorIndex := 6, attributes := #[] }, { accessFlags := 16409, nameIndex := 12, descriptorIndex := 6, attributes := #[] }, { accessFlags := 16409, nameIndex := 15, descriptorIndex := 6, attributes := #[] }, { accessFlags := 16409, nameIndex := 18, descriptorIndex := 6, attributes := #[] }, { accessFlags := 16409, nameIndex := 21, descriptorIndex := 6, attributes := #[] }, { accessFlags := 16409, nameIndex := 24, descriptorIndex := 6, attributes := #[] }, { accessFlags := 16409, nameIndex := 27, descriptorIndex := 6, attributes := #[] }, { accessFlags := 16409, nameIndex := 30, descriptorIndex := 6, attributes := #[] }, { accessFlags := 16409, nameIndex := 33, descriptorIndex := 6, attributes := #[] }, { accessFlags := 16409, nameIndex := 36, descriptorIndex := 6, attributes := #[] }, { accessFlags := 16409, nameIndex := 39, descriptorIndex := 6, attributes := #[] }, { accessFlags := 16409, nameIndex := 42, descriptorIndex := 6, attributes := #[] }, { accessFlags := 16409, nameIndex := 45, descriptorIndex := 6, attributes := #[] }, { accessFlags := 18, nameIndex := 67, descriptorIndex := 68, attributes := #[] }, { accessFlags := 18, nameIndex := 71, descriptorIndex := 68, attributes := #[] }, { accessFlags := 4122, nameIndex := 48, descriptorIndex := 49, attributes := #[] }])
  fields := #[{ name := "TRUE", type := (.object "com/example/prune_to_fit/prunetofit/ctl/Operator"), accessFlags := 16409, slot := 0, constantValue := 0 }, { name := "FALSE", type := (.object "com/example/prune_to_fit/prunetofit/ctl/Operator"), accessFlags := 16409, slot := 1, constantValue := 0 }, { name := "PROPOSITION", type := (.object "com/example/prune_to_fit/prunetofit/ctl/Operator"), accessFlags := 16409, slot := 2, constantValue := 0 }, { name := "NOT", type := (.object "com/example/prune_to_fit/prunetofit/ctl/Operator"), accessFlags := 16409, slot := 3, constantValue := 0 }, { name := "AND", type := (.object "com/example/prune_to_fit/prunetofit/ctl/Operator"), accessFlags := 16409, slot := 4, constantValue := 0 }, { name := "OR", type := (.object "com/example/prune_to_fit/prunetofit/ctl/Operator"), accessFlags := 16409, slot := 5, constantValue := 0 }, { name := "IMPLIES", type := (.object "com/example/prune_to_fit/prunetofit/ctl/Operator"), accessFlags := 16409, slot := 6, constantValue := 0 }, { name := "IFF", type := (.object "com/example/prune_to_fit/prunetofit/ctl/Operator"), accessFlags := 16409, slot := 7, constantValue := 0 }, { name := "AX", type := (.object "com/example/prune_to_fit/prunetofit/ctl/Operator"), accessFlags := 16409, slot := 8, constantValue := 0 }, { name := "EX", type := (.object "com/example/prune_to_fit/prunetofit/ctl/Operator"), accessFlags := 16409, slot := 9, constantValue := 0 }, { name := "AU", type := (.object "com/example/prune_to_fit/prunetofit/ctl/Operator"), accessFlags := 16409, slot := 10, constantValue := 0 }, { name := "EU", type := (.object "com/example/prune_to_fit/prunetofit/ctl/Operator"), accessFlags := 16409, slot := 11, constantValue := 0 }, { name := "AR", type := (.object "com/example/prune_to_fit/prunetofit/ctl/Operator"), accessFlags := 16409, slot := 12, constantValue := 0 }, { name := "ER", type := (.object "com/example/prune_to_fit/prunetofit/ctl/Operator"), accessFlags := 16409, slot := 13, constantValue := 0 }, { name := "minOperands", type := .int, accessFlags := 18, slot := 3, constantValue := 0 }, { name := "maxOperands", type := .int, accessFlags := 18, slot := 4, constantValue := 0 }, { name := "$VALUES", type := (.array (.object "com/example/prune_to_fit/prunetofit/ctl/Operator")), accessFlags := 4122, slot := 14, constantValue := 0 }]
  methods := #[k6m0]
  instanceTypes := #[(.object "java/lang/String"), .int, .int, .int, .int]
  staticTypes := #[(.object "com/example/prune_to_fit/prunetofit/ctl/Operator"), (.object "com/example/prune_to_fit/prunetofit/ctl/Operator"), (.object "com/example/prune_to_fit/prunetofit/ctl/Operator"), (.object "com/example/prune_to_fit/prunetofit/ctl/Operator"), (.object "com/example/prune_to_fit/prunetofit/ctl/Operator"), (.object "com/example/prune_to_fit/prunetofit/ctl/Operator"), (.object "com/example/prune_to_fit/prunetofit/ctl/Operator"), (.object "com/example/prune_to_fit/prunetofit/ctl/Operator"), (.object "com/example/prune_to_fit/prunetofit/ctl/Operator"), (.object "com/example/prune_to_fit/prunetofit/ctl/Operator"), (.object "com/example/prune_to_fit/prunetofit/ctl/Operator"), (.object "com/example/prune_to_fit/prunetofit/ctl/Operator"), (.object "com/example/prune_to_fit/prunetofit/ctl/Operator"), (.object "com/example/prune_to_fit/prunetofit/ctl/Operator"), (.array (.object "com/example/prune_to_fit/prunetofit/ctl/Operator"))]
  resolved := Array.replicate 111 none
  statics := some 0 }

def pool7 : Array CpInfo := pool [(1, u "java/lang/Cloneable"), (0, .class_ 1), (0, u "java/lang/Object"), (0, .class_ 3)] 3

/-- java/lang/Cloneable -/
def k7 : Class := { plain "java/lang/Cloneable" (some 0) with
  accessFlags := 1537
  interfaces := #[]
  cf := some (fileOf pool7 2 #[] #[] 1537 4 #[] #[])
  fields := #[]
  methods := #[]
  instanceTypes := #[]
  staticTypes := #[]
  resolved := Array.replicate 8 none
  statics := none }

/-- the primitive byte -/
def k8 : Class := { plain "byte" none with kind := .primitive 'B', accessFlags := 0x411 }
/-- [B -/
def k9 : Class := { plain "[B" (some 0) with kind := .array 8 .byte, interfaces := #[7, 4], accessFlags := 1041 }

/-- the primitive int -/
def k10 : Class := { plain "int" none with kind := .primitive 'I', accessFlags := 0x411 }
/-- [I -/
def k11 : Class := { plain "[I" (some 0) with kind := .array 10 .int, interfaces := #[7, 4], accessFlags := 1041 }

def heap : Heap := #[{ cls := 6, slots := #[.ref 1, .ref 11, .ref 12, .ref 9, .ref 4, .ref 10, .ref 6, .ref 8, .ref 3, .ref 14, .ref 2, .ref 5, .ref 7, .ref 13, .null], vm := .statics 6 },
  { cls := 6, slots := #[.null, .int 0, .int 0, .int 0, .int 0], vm := .none },
  { cls := 6, slots := #[.null, .int 0, .int 0, .int 2, .int 2], vm := .none },
  { cls := 6, slots := #[.null, .int 0, .int 0, .int 1, .int 1], vm := .none },
  { cls := 6, slots := #[.null, .int 0, .int 0, .int 2, .int 2147483647], vm := .none },
  { cls := 6, slots := #[.null, .int 0, .int 0, .int 2, .int 2], vm := .none },
  { cls := 6, slots := #[.null, .int 0, .int 0, .int 2, .int 2], vm := .none },
  { cls := 6, slots := #[.null, .int 0, .int 0, .int 2, .int 2], vm := .none },
  { cls := 6, slots := #[.null, .int 0, .int 0, .int 2, .int 2], vm := .none },
  { cls := 6, slots := #[.null, .int 0, .int 0, .int 1, .int 1], vm := .none },
  { cls := 6, slots := #[.null, .int 0, .int 0, .int 2, .int 2147483647], vm := .none },
  { cls := 6, slots := #[.null, .int 0, .int 0, .int 0, .int 0], vm := .none },
  { cls := 6, slots := #[.null, .int 0, .int 0, .int 0, .int 0], vm := .none },
  { cls := 6, slots := #[.null, .int 0, .int 0, .int 2, .int 2], vm := .none },
  { cls := 6, slots := #[.null, .int 0, .int 0, .int 1, .int 1], vm := .none }]
def classes : Array Class := #[k0, k1, k2, k3, k4, k5, k6, k7, k8, k9, k10, k11]
def interned : List (Array UInt16 × Addr) := []
def slotsUsed : Nat := 85
def theMethod : MethodId := ⟨1, 2⟩
def args0 : Array Value := #[.int 5, .int 2]
def aboutOver (below : List Frame) : State where
  vm := { classes := classes, interned := interned.toArray }
  heap := heap
  slotsUsed := slotsUsed
  threads := #[{ frames := .invoking theMethod args0 :: below }]
def below0 : List Frame := [.native { method := ⟨0, 0⟩, args := #[] }]
def about1 : State := aboutOver below0
def p0 : Program := .bare "" "" ""
def e0 : Env := launch0.env 0 0 0
theorem w_frames : about1.frames = Frame.invoking theMethod args0 :: below0 := rfl
set_option maxRecDepth 65536 in
theorem w_args : argsFit about1.vm theMethod args0 = true := by decide +kernel
set_option maxRecDepth 65536 in
theorem w_heap : heapFits about1 = true := by decide +kernel
set_option maxRecDepth 65536 in
theorem w_runnable : about1.curStatus? = some .runnable := by decide +kernel
set_option maxRecDepth 65536 in
theorem w_alone : about1.alone = true := by decide +kernel
set_option maxRecDepth 65536 in
theorem w_named : about1.methodNamed? x = some theMethod := by decide +kernel
set_option maxRecDepth 65536 in
theorem w_hears : about1.hears theMethod below0 = true := by decide +kernel
set_option maxRecDepth 65536 in
theorem w_ripe : about1.ripe theMethod args0 below0 = true := by decide +kernel
theorem w_running : about1.status = .running := rfl
set_option maxRecDepth 65536 in
theorem w_room : about1.hasRoom e0.platform room_1 = true :=
  launch0.hasRoom_least _ room_1 (by decide +kernel) (by decide +kernel) (by decide +kernel) (by decide +kernel) (by decide +kernel) (by decide +kernel)
theorem allAtoms_all (ts : List Jvm.Cond) (a : Array Jvm.Value) (st : Jvm.State) : (allAtoms ts).before a st = ts.all (fun c => c.before a st) := by
  induction ts with
  | nil => rfl
  | cons c t ih =>
    show (Jvm.Cond.and c (allAtoms t)).before a st = _
    rw [Jvm.Cond.before_and, ih, List.all_cons]
def words1 : List Jvm.Cond := Jvm.Cond.code x code maxLocals ret :: tables_1
/-- a 'code' word, met by the world's own term for the bytes: nothing is compared byte by byte -/
theorem code_word {y : MethodName} {bytes : ByteArray} {mx : Nat} {rt : Option FieldType} {a : Array Value} {s : State} {m : MethodId} {meth : Method} {c : Code} (h1 : s.methodNamed? y = some m) (h2 : s.vm.method? m = some meth) (h3 : meth.code = some c) (h4 : c.code = bytes)
    (h5 : (c.maxLocals == mx && c.exceptionTable.isEmpty && decide (c.maxStack ≤ mostOperands) && decide (meth.sig.returnType = rt) && !meth.locks && decide (parseMethodDescriptor y.desc = some meth.sig)) = true) : (Jvm.Cond.code y bytes mx rt).before a s = true := by
  simp only [Bool.and_eq_true, beq_iff_eq, Bool.not_eq_true', decide_eq_true_eq] at h5
  obtain ⟨⟨⟨⟨⟨g1, g2⟩, g3⟩, g4⟩, g5⟩, g6⟩ := h5
  simp [Cond.before, Cond.holds, Cond.value, h1, h2, h3, h4, g1, g2, g3, g4, g5, g6]
def isCode : Jvm.Cond → Bool
  | .code _ _ _ _ => true
  | _ => false
theorem all_split {L : List Jvm.Cond} {P : Jvm.Cond → Bool} (h1 : L.all (fun c => isCode c || P c) = true) (h2 : ∀ c ∈ L.filter isCode, P c = true) : L.all P = true := by
  refine List.all_eq_true.mpr fun c hc => ?_
  have h := List.all_eq_true.mp h1 c hc
  rcases Bool.eq_false_or_eq_true (isCode c) with hi | hi
  · exact h2 c (List.mem_filter.mpr ⟨hc, hi⟩)
  · simpa [hi] using h
set_option maxRecDepth 65536 in
theorem w_c0 : (Jvm.Cond.code x code maxLocals ret).before args0 about1 = true := code_word (m := ⟨1, 2⟩) (meth := k1m2) (c := k1c2) (by decide +kernel) rfl rfl rfl (by decide +kernel)
set_option maxRecDepth 65536 in
theorem w_c1 : (Jvm.Cond.code ({ cls := "com/example/prune_to_fit/prunetofit/ctl/OperatorTakesPinLaw", name := "pick", desc := "(I)Lcom/example/prune_to_fit/prunetofit/ctl/Operator;" } : Jvm.MethodName) method_2_code (1 : Nat) (Option.some (Jvm.ClassFile.FieldType.object "com/example/prune_to_fit/prunetofit/ctl/Operator"))).before args0 about1 = true := code_word (m := ⟨1, 1⟩) (meth := k1m1) (c := k1c1) (by decide +kernel) rfl rfl rfl (by decide +kernel)
set_option maxRecDepth 65536 in
theorem w_c2 : (Jvm.Cond.code ({ cls := "com/example/prune_to_fit/prunetofit/ctl/Operator", name := "takes", desc := "(I)Z" } : Jvm.MethodName) prog_11_method_4_code (2 : Nat) (Option.some Jvm.ClassFile.FieldType.boolean)).before args0 about1 = true := code_word (m := ⟨6, 0⟩) (meth := k6m0) (c := k6c0) (by decide +kernel) rfl rfl rfl (by decide +kernel)
def codes1 : List Jvm.Cond := [Jvm.Cond.code x code maxLocals ret, Jvm.Cond.code ({ cls := "com/example/prune_to_fit/prunetofit/ctl/OperatorTakesPinLaw", name := "pick", desc := "(I)Lcom/example/prune_to_fit/prunetofit/ctl/Operator;" } : Jvm.MethodName) method_2_code (1 : Nat) (Option.some (Jvm.ClassFile.FieldType.object "com/example/prune_to_fit/prunetofit/ctl/Operator")), Jvm.Cond.code ({ cls := "com/example/prune_to_fit/prunetofit/ctl/Operator", name := "takes", desc := "(I)Z" } : Jvm.MethodName) prog_11_method_4_code (2 : Nat) (Option.some Jvm.ClassFile.FieldType.boolean)]
set_option maxRecDepth 65536 in
theorem codes_eq : words1.filter isCode = codes1 := rfl
theorem w_codes : ∀ c ∈ words1.filter isCode, c.before args0 about1 = true := by
  rw [codes_eq]
  intro c hc
  simp only [codes1, List.mem_cons, List.not_mem_nil, or_false] at hc
  rcases hc with rfl | rfl | rfl
  · exact w_c0
  · exact w_c1
  · exact w_c2
set_option maxRecDepth 65536 in
theorem w_t1 : (words1.take 24).all (fun c => isCode c || c.before args0 about1) = true := by decide +kernel
set_option maxRecDepth 65536 in
theorem w_t2 : (words1.drop 24).all (fun c => isCode c || c.before args0 about1) = true := by decide +kernel
theorem w_tables : (allAtoms (Jvm.Cond.code x code maxLocals ret :: tables_1)).before args0 about1 = true := by
  rw [allAtoms_all]
  show words1.all (fun c => c.before args0 about1) = true
  refine all_split ?_ w_codes
  rw [← List.take_append_drop 24 words1, List.all_append, w_t1, w_t2]
  rfl
set_option maxRecDepth 65536 in
theorem w_case : (Jvm.Cond.and given_1 narrow_1).before args0 about1 = true := by decide +kernel
theorem w_applies : (headSpec (Jvm.Cond.code x code maxLocals ret :: tables_1) room_1).applies x e0.platform about1 = true :=
  (Spec.applies_iff w_frames).mpr ⟨w_running, w_runnable, w_alone, w_named, w_hears, w_ripe, w_room, w_tables⟩
theorem atStart : AtStart classFile x code maxLocals ret World_1 tables_1 room_1 Calls_1 rest_1 Pre_1 launch0 p0 e0 about1 theMethod args0 below0 :=
  ⟨lists_1, trivial, launch0.admits_env _ _ _, launch0.least_env, fairChoices_fair.cas, fairChoices_fair.clock, w_frames, w_args, w_heap, w_applies, trivial, trivial, w_case⟩
end start1
theorem witness_1 : WitnessClaimed_1 := ⟨start1.p0, start1.e0, start1.about1, start1.theMethod, start1.args0, start1.below0, start1.atStart⟩
end Jvm.Pilot.@@N@@
