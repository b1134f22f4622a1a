import JvmDerived
import JvmDerived.Pilot.@@N@@Statement
import JvmDerived.Pilot.@@N@@Code
set_option linter.unusedVariables false
set_option linter.unusedSimpArgs false
namespace Jvm.RoadKit
open Sem ClassFile Op Lib Jvm.Stand Jvm.Free Jvm.LawKit
section New
variable {p : Program} {l : Launch} {e : Env} {R : Room} {s : State} {m : MethodId} {args : Array Value} {below : List Frame} {meth : Method} {c : Code} {T : State} {locs : List Loc} {cells slots : Nat}
theorem retI (X : Stand p l e R s m args below meth c T locs cells slots) (hx : p.tables.exec = Jvm.exec) {pc : Nat} {Ls : Array Slot} {z : Int32} {rest : List Value} (hret : meth.sig.returnType = some .int) (hd : decode c.code pc = .ok (.ireturn, 1)) {fs : List Frame}
    (hl : ∀ (f : JFrame) (acts : List Action), f.method = m → f.locked = none → f.entered = [] → (doReturn e (T.setTop f) acts (some (.int z))).1 = T.setFrames fs) : Steps p.tables e below (T.setTop (mkF m pc Ls (.int z :: rest))) (T.setFrames fs) := by
  have hm' : T.vm.method? m = some meth := X.method'
  have hn : narrow .int (.int z) = .int z := rfl
  show Steps p.tables e below (T.setTop { method := m, pc := pc, locals := Ls, stack := _ :: rest, locked := none }) _
  jvm_step X.here [X.here.top, hx, hd, hm', hret, hn]
  first | (intro acts; rw [hl _ acts rfl rfl rfl]) | rw [hl _ _ rfl rfl rfl]
  exact Steps.refl _
end New
end Jvm.RoadKit
namespace Jvm.Pilot.@@N@@
open Jvm Jvm.ClassFile Sem Op Lib Jvm.Free Jvm.Stand Jvm.LawKit Jvm.RoadKit Bundle Jvm.Pilot.@@N@@.Jvm.D
theorem pn_0 : plainName "com/example/hyperslab/hyperslab/dap2/DapText" = true := by first | (simp [plainName, overriddenIn]; done) | decide +kernel
theorem d1_0 : decode prog_12_method_4_code 0 = .ok (.iload_n 0, 1) := by decide +kernel
theorem d1_1 : decode prog_12_method_4_code 1 = .ok (.bipush 65, 2) := by decide +kernel
theorem d1_3 : decode prog_12_method_4_code 3 = .ok (.if_icmp .lt 9, 3) := by decide +kernel
theorem d1_12 : decode prog_12_method_4_code 12 = .ok (.iload_n 0, 1) := by decide +kernel
theorem d1_13 : decode prog_12_method_4_code 13 = .ok (.bipush 97, 2) := by decide +kernel
theorem d1_15 : decode prog_12_method_4_code 15 = .ok (.if_icmp .lt 9, 3) := by decide +kernel
theorem d1_24 : decode prog_12_method_4_code 24 = .ok (.iload_n 0, 1) := by decide +kernel
theorem d1_25 : decode prog_12_method_4_code 25 = .ok (.bipush 48, 2) := by decide +kernel
theorem d1_27 : decode prog_12_method_4_code 27 = .ok (.if_icmp .lt 9, 3) := by decide +kernel
theorem d1_36 : decode prog_12_method_4_code 36 = .ok (.iload_n 0, 1) := by decide +kernel
theorem d1_37 : decode prog_12_method_4_code 37 = .ok (.bipush 95, 2) := by decide +kernel
theorem d1_39 : decode prog_12_method_4_code 39 = .ok (.if_icmp .eq 9, 3) := by decide +kernel
theorem d1_48 : decode prog_12_method_4_code 48 = .ok (.iconst 1, 1) := by decide +kernel
theorem d1_49 : decode prog_12_method_4_code 49 = .ok (.goto 4, 3) := by decide +kernel
theorem d1_42 : decode prog_12_method_4_code 42 = .ok (.iload_n 0, 1) := by decide +kernel
theorem d1_43 : decode prog_12_method_4_code 43 = .ok (.bipush 45, 2) := by decide +kernel
theorem d1_45 : decode prog_12_method_4_code 45 = .ok (.if_icmp .ne 7, 3) := by decide +kernel
theorem d1_52 : decode prog_12_method_4_code 52 = .ok (.iconst 0, 1) := by decide +kernel
theorem d1_30 : decode prog_12_method_4_code 30 = .ok (.iload_n 0, 1) := by decide +kernel
theorem d1_31 : decode prog_12_method_4_code 31 = .ok (.bipush 57, 2) := by decide +kernel
theorem d1_33 : decode prog_12_method_4_code 33 = .ok (.if_icmp .le 15, 3) := by decide +kernel
theorem d1_18 : decode prog_12_method_4_code 18 = .ok (.iload_n 0, 1) := by decide +kernel
theorem d1_19 : decode prog_12_method_4_code 19 = .ok (.bipush 122, 2) := by decide +kernel
theorem d1_21 : decode prog_12_method_4_code 21 = .ok (.if_icmp .le 27, 3) := by decide +kernel
theorem d1_6 : decode prog_12_method_4_code 6 = .ok (.iload_n 0, 1) := by decide +kernel
theorem d1_7 : decode prog_12_method_4_code 7 = .ok (.bipush 90, 2) := by decide +kernel
theorem d1_9 : decode prog_12_method_4_code 9 = .ok (.if_icmp .le 39, 3) := by decide +kernel
theorem ef_1 (m : MethodId) (x0 : Int32) : entryFrame m #[(.int x0)] 1 = mkF m 0 #[.val (.int x0)] [] := by first | (simp [entryFrame, mkF, argsToLocals, Value.category]; done) | rfl
def f1 (p0 : Int32) : Int32 := (let j61 : Int32 := (if p0 < (65 : Int32) then (if p0 < (97 : Int32) then (if p0 < (48 : Int32) then (if p0 = (95 : Int32) then (1 : Int32) else (if p0 = (45 : Int32) then (1 : Int32) else (0 : Int32))) else (if (57 : Int32) < p0 then (if p0 = (95 : Int32) then (1 : Int32) else (if p0 = (45 : Int32) then (1 : Int32) else (0 : Int32))) else (1 : Int32))) else (if (122 : Int32) < p0 then (if p0 < (48 : Int32) then (if p0 = (95 : Int32) then (1 : Int32) else (if p0 = (45 : Int32) then (1 : Int32) else (0 : Int32))) else (if (57 : Int32) < p0 then (if p0 = (95 : Int32) then (1 : Int32) else (if p0 = (45 : Int32) then (1 : Int32) else (0 : Int32))) else (1 : Int32))) else (1 : Int32))) else (if (90 : Int32) < p0 then (if p0 < (97 : Int32) then (if p0 < (48 : Int32) then (if p0 = (95 : Int32) then (1 : Int32) else (if p0 = (45 : Int32) then (1 : Int32) else (0 : Int32))) else (if (57 : Int32) < p0 then (if p0 = (95 : Int32) then (1 : Int32) else (if p0 = (45 : Int32) then (1 : Int32) else (0 : Int32))) else (1 : Int32))) else (if (122 : Int32) < p0 then (if p0 < (48 : Int32) then (if p0 = (95 : Int32) then (1 : Int32) else (if p0 = (45 : Int32) then (1 : Int32) else (0 : Int32))) else (if (57 : Int32) < p0 then (if p0 = (95 : Int32) then (1 : Int32) else (if p0 = (45 : Int32) then (1 : Int32) else (0 : Int32))) else (1 : Int32))) else (1 : Int32))) else (1 : Int32))); (nar .boolean j61))
def Q1 (Z : State) (p0 : Int32) (h0 : Heap) (n0 : Nat) (v : Option Value) (h : Heap) (L : List Loc) : Prop := v = some (.int (f1 p0)) ∧ Fr n0 L ∧ h = h0
theorem d1_53 : decode prog_12_method_4_code 53 = .ok (.ireturn, 1) := by decide +kernel
set_option maxRecDepth 65536 in
set_option maxHeartbeats 40000000 in
theorem rm1 (l : Launch) (Z : State) (aw : Array Value) (hw : ∀ d ∈ tables_1, d.before aw Z = true) (ws : List Jvm.Cond) (p0 : Int32) (h0 : Heap) (n0 : Nat) (Z0 : n0 ≤ h0.size) :
    MetFree l (⟨"com/example/hyperslab/hyperslab/dap2/DapText", "isPlain", "(C)Z"⟩ : MethodName) (head1 (Jvm.Cond.code (⟨"com/example/hyperslab/hyperslab/dap2/DapText", "isPlain", "(C)Z"⟩ : MethodName) prog_12_method_4_code 1 (some .boolean) :: ws) ({ frames := 0, cells := 0, slots := 0, locals := 0 } : Room)) (fun a U => a = #[(.int p0)] ∧ Z.Warmed39 U.vm ∧ U.heap = h0) (fun _ _ _ _ _ => True) (fun _ U o U' => ∃ v L, o = .returned v ∧ Q1 Z p0 h0 n0 v U'.heap L ∧ FrameEnd U o U' L ({ frames := 0, cells := 0, slots := 0, locals := 0 } : Room).cells ({ frames := 0, cells := 0, slots := 0, locals := 0 } : Room).slots) := by
  refine MetFree.of_bodySF (plainFor_of_name pn_0) hisR ?_
  intro p e s m args below meth c s₁ Bd hml0 hP hK
  obtain ⟨rfl, hZ, hh⟩ := hP
  have hx := Bd.exec
  have hby := Bd.bytes
  have hml : c.maxLocals = 1 := hml0
  have hown : s.vm.findClass "com/example/hyperslab/hyperslab/dap2/DapText" = some m.cls := findClass_of_methodNamed Bd.named
  have hnm := (name_of_methodNamed Bd.named Bd.method).1
  have X0 : Stand p l e ({ frames := 0, cells := 0, slots := 0, locals := 0 } : Room) s m #[(.int p0)] below meth c s₁ [] 0 0 := Stand.of_body Bd
  have e0 : s₁.heap = h0 := by rw [← hh, Bd.state]; rfl
  have N0 := Fr.nil n0
  have pre0 : ∀ t, Steps p.tables e below (s₁.setTop (mkF m 0 #[.val (.int p0)] [])) t → Steps p.tables e below (s₁.setTop (entryFrame m #[(.int p0)] 1)) t := fun t k => castTop (ef_1 m p0) k
  have pre1 : ∀ t, Steps p.tables e below (s₁.setTop (mkF m 3 #[.val (.int p0)] [(.int (65 : Int32)), (.int p0)])) t → Steps p.tables e below (s₁.setTop (entryFrame m #[(.int p0)] 1)) t := fun t k => pre0 t (by
    show Steps p.tables e below (s₁.setTop (mkF m 0 #[.val (.int p0)] [])) _
    refine XS.iloadN X0.here hx rfl (hb hby d1_0) rfl ?_
    show Steps p.tables e below (s₁.setTop (mkF m 1 #[.val (.int p0)] [(.int p0)])) _
    refine XS.bipush X0.here hx rfl (hb hby d1_1) ?_
    exact k)
  obtain ⟨j61, hj61, pre62⟩ : ∃ (j61 : Int32), j61 = (if p0 < (65 : Int32) then (if p0 < (97 : Int32) then (if p0 < (48 : Int32) then (if p0 = (95 : Int32) then (1 : Int32) else (if p0 = (45 : Int32) then (1 : Int32) else (0 : Int32))) else (if (57 : Int32) < p0 then (if p0 = (95 : Int32) then (1 : Int32) else (if p0 = (45 : Int32) then (1 : Int32) else (0 : Int32))) else (1 : Int32))) else (if (122 : Int32) < p0 then (if p0 < (48 : Int32) then (if p0 = (95 : Int32) then (1 : Int32) else (if p0 = (45 : Int32) then (1 : Int32) else (0 : Int32))) else (if (57 : Int32) < p0 then (if p0 = (95 : Int32) then (1 : Int32) else (if p0 = (45 : Int32) then (1 : Int32) else (0 : Int32))) else (1 : Int32))) else (1 : Int32))) else (if (90 : Int32) < p0 then (if p0 < (97 : Int32) then (if p0 < (48 : Int32) then (if p0 = (95 : Int32) then (1 : Int32) else (if p0 = (45 : Int32) then (1 : Int32) else (0 : Int32))) else (if (57 : Int32) < p0 then (if p0 = (95 : Int32) then (1 : Int32) else (if p0 = (45 : Int32) then (1 : Int32) else (0 : Int32))) else (1 : Int32))) else (if (122 : Int32) < p0 then (if p0 < (48 : Int32) then (if p0 = (95 : Int32) then (1 : Int32) else (if p0 = (45 : Int32) then (1 : Int32) else (0 : Int32))) else (if (57 : Int32) < p0 then (if p0 = (95 : Int32) then (1 : Int32) else (if p0 = (45 : Int32) then (1 : Int32) else (0 : Int32))) else (1 : Int32))) else (1 : Int32))) else (1 : Int32))) ∧ ∀ t, Steps p.tables e below (s₁.setTop (mkF m 53 #[.val (.int p0)] [(.int j61)])) t → Steps p.tables e below (s₁.setTop (entryFrame m #[(.int p0)] 1)) t := by
    by_cases hc2 : p0 < (65 : Int32)
    · have pre3 : ∀ t, Steps p.tables e below (s₁.setTop (mkF m 15 #[.val (.int p0)] [(.int (97 : Int32)), (.int p0)])) t → Steps p.tables e below (s₁.setTop (entryFrame m #[(.int p0)] 1)) t := fun t k => pre1 t (by
        show Steps p.tables e below (s₁.setTop (mkF m 3 #[.val (.int p0)] [(.int (65 : Int32)), (.int p0)])) _
        refine XS.icmpYes X0.here hx rfl (pc0 := 3) (pc' := 12) rfl (hb hby d1_3) rfl (tlt hc2).1 (by decide) (by decide) ?_
        show Steps p.tables e below (s₁.setTop (mkF m 12 #[.val (.int p0)] [])) _
        refine XS.iloadN X0.here hx rfl (hb hby d1_12) rfl ?_
        show Steps p.tables e below (s₁.setTop (mkF m 13 #[.val (.int p0)] [(.int p0)])) _
        refine XS.bipush X0.here hx rfl (hb hby d1_13) ?_
        exact k)
      by_cases hc4 : p0 < (97 : Int32)
      · have pre5 : ∀ t, Steps p.tables e below (s₁.setTop (mkF m 27 #[.val (.int p0)] [(.int (48 : Int32)), (.int p0)])) t → Steps p.tables e below (s₁.setTop (entryFrame m #[(.int p0)] 1)) t := fun t k => pre3 t (by
          show Steps p.tables e below (s₁.setTop (mkF m 15 #[.val (.int p0)] [(.int (97 : Int32)), (.int p0)])) _
          refine XS.icmpYes X0.here hx rfl (pc0 := 15) (pc' := 24) rfl (hb hby d1_15) rfl (tlt hc4).1 (by decide) (by decide) ?_
          show Steps p.tables e below (s₁.setTop (mkF m 24 #[.val (.int p0)] [])) _
          refine XS.iloadN X0.here hx rfl (hb hby d1_24) rfl ?_
          show Steps p.tables e below (s₁.setTop (mkF m 25 #[.val (.int p0)] [(.int p0)])) _
          refine XS.bipush X0.here hx rfl (hb hby d1_25) ?_
          exact k)
        by_cases hc6 : p0 < (48 : Int32)
        · have pre7 : ∀ t, Steps p.tables e below (s₁.setTop (mkF m 39 #[.val (.int p0)] [(.int (95 : Int32)), (.int p0)])) t → Steps p.tables e below (s₁.setTop (entryFrame m #[(.int p0)] 1)) t := fun t k => pre5 t (by
            show Steps p.tables e below (s₁.setTop (mkF m 27 #[.val (.int p0)] [(.int (48 : Int32)), (.int p0)])) _
            refine XS.icmpYes X0.here hx rfl (pc0 := 27) (pc' := 36) rfl (hb hby d1_27) rfl (tlt hc6).1 (by decide) (by decide) ?_
            show Steps p.tables e below (s₁.setTop (mkF m 36 #[.val (.int p0)] [])) _
            refine XS.iloadN X0.here hx rfl (hb hby d1_36) rfl ?_
            show Steps p.tables e below (s₁.setTop (mkF m 37 #[.val (.int p0)] [(.int p0)])) _
            refine XS.bipush X0.here hx rfl (hb hby d1_37) ?_
            exact k)
          by_cases hc8 : p0 = (95 : Int32)
          · exact ⟨(1 : Int32), (by rw [if_pos hc2, if_pos hc4, if_pos hc6, if_pos hc8]), fun t k => pre7 t (by
              show Steps p.tables e below (s₁.setTop (mkF m 39 #[.val (.int p0)] [(.int (95 : Int32)), (.int p0)])) _
              refine XS.icmpYes X0.here hx rfl (pc0 := 39) (pc' := 48) rfl (hb hby d1_39) rfl (teq hc8).1 (by decide) (by decide) ?_
              show Steps p.tables e below (s₁.setTop (mkF m 48 #[.val (.int p0)] [])) _
              refine XS.iconst X0.here hx rfl (hb hby d1_48) ?_
              show Steps p.tables e below (s₁.setTop (mkF m 49 #[.val (.int p0)] [(.int (1 : Int32))])) _
              refine XS.goto X0.here hx rfl (pc0 := 49) (pc' := 53) rfl (hb hby d1_49) (by decide) (by decide) ?_
              exact k)⟩
          · have pre9 : ∀ t, Steps p.tables e below (s₁.setTop (mkF m 45 #[.val (.int p0)] [(.int (45 : Int32)), (.int p0)])) t → Steps p.tables e below (s₁.setTop (entryFrame m #[(.int p0)] 1)) t := fun t k => pre7 t (by
              show Steps p.tables e below (s₁.setTop (mkF m 39 #[.val (.int p0)] [(.int (95 : Int32)), (.int p0)])) _
              refine XS.icmpNo X0.here hx rfl (hb hby d1_39) rfl (feq hc8).1 ?_
              show Steps p.tables e below (s₁.setTop (mkF m 42 #[.val (.int p0)] [])) _
              refine XS.iloadN X0.here hx rfl (hb hby d1_42) rfl ?_
              show Steps p.tables e below (s₁.setTop (mkF m 43 #[.val (.int p0)] [(.int p0)])) _
              refine XS.bipush X0.here hx rfl (hb hby d1_43) ?_
              exact k)
            by_cases hc10 : p0 = (45 : Int32)
            · exact ⟨(1 : Int32), (by rw [if_pos hc2, if_pos hc4, if_pos hc6, if_neg hc8, if_pos hc10]), fun t k => pre9 t (by
                show Steps p.tables e below (s₁.setTop (mkF m 45 #[.val (.int p0)] [(.int (45 : Int32)), (.int p0)])) _
                refine XS.icmpNo X0.here hx rfl (hb hby d1_45) rfl (teq hc10).2 ?_
                show Steps p.tables e below (s₁.setTop (mkF m 48 #[.val (.int p0)] [])) _
                refine XS.iconst X0.here hx rfl (hb hby d1_48) ?_
                show Steps p.tables e below (s₁.setTop (mkF m 49 #[.val (.int p0)] [(.int (1 : Int32))])) _
                refine XS.goto X0.here hx rfl (pc0 := 49) (pc' := 53) rfl (hb hby d1_49) (by decide) (by decide) ?_
                exact k)⟩
            · exact ⟨(0 : Int32), (by rw [if_pos hc2, if_pos hc4, if_pos hc6, if_neg hc8, if_neg hc10]), fun t k => pre9 t (by
                show Steps p.tables e below (s₁.setTop (mkF m 45 #[.val (.int p0)] [(.int (45 : Int32)), (.int p0)])) _
                refine XS.icmpYes X0.here hx rfl (pc0 := 45) (pc' := 52) rfl (hb hby d1_45) rfl (feq hc10).2 (by decide) (by decide) ?_
                show Steps p.tables e below (s₁.setTop (mkF m 52 #[.val (.int p0)] [])) _
                refine XS.iconst X0.here hx rfl (hb hby d1_52) ?_
                exact k)⟩
        · have pre11 : ∀ t, Steps p.tables e below (s₁.setTop (mkF m 33 #[.val (.int p0)] [(.int (57 : Int32)), (.int p0)])) t → Steps p.tables e below (s₁.setTop (entryFrame m #[(.int p0)] 1)) t := fun t k => pre5 t (by
            show Steps p.tables e below (s₁.setTop (mkF m 27 #[.val (.int p0)] [(.int (48 : Int32)), (.int p0)])) _
            refine XS.icmpNo X0.here hx rfl (hb hby d1_27) rfl (flt hc6).1 ?_
            show Steps p.tables e below (s₁.setTop (mkF m 30 #[.val (.int p0)] [])) _
            refine XS.iloadN X0.here hx rfl (hb hby d1_30) rfl ?_
            show Steps p.tables e below (s₁.setTop (mkF m 31 #[.val (.int p0)] [(.int p0)])) _
            refine XS.bipush X0.here hx rfl (hb hby d1_31) ?_
            exact k)
          by_cases hc12 : (57 : Int32) < p0
          · have pre13 : ∀ t, Steps p.tables e below (s₁.setTop (mkF m 39 #[.val (.int p0)] [(.int (95 : Int32)), (.int p0)])) t → Steps p.tables e below (s₁.setTop (entryFrame m #[(.int p0)] 1)) t := fun t k => pre11 t (by
              show Steps p.tables e below (s₁.setTop (mkF m 33 #[.val (.int p0)] [(.int (57 : Int32)), (.int p0)])) _
              refine XS.icmpNo X0.here hx rfl (hb hby d1_33) rfl (tlt hc12).2.2.2 ?_
              show Steps p.tables e below (s₁.setTop (mkF m 36 #[.val (.int p0)] [])) _
              refine XS.iloadN X0.here hx rfl (hb hby d1_36) rfl ?_
              show Steps p.tables e below (s₁.setTop (mkF m 37 #[.val (.int p0)] [(.int p0)])) _
              refine XS.bipush X0.here hx rfl (hb hby d1_37) ?_
              exact k)
            by_cases hc14 : p0 = (95 : Int32)
            · exact ⟨(1 : Int32), (by rw [if_pos hc2, if_pos hc4, if_neg hc6, if_pos hc12, if_pos hc14]), fun t k => pre13 t (by
                show Steps p.tables e below (s₁.setTop (mkF m 39 #[.val (.int p0)] [(.int (95 : Int32)), (.int p0)])) _
                refine XS.icmpYes X0.here hx rfl (pc0 := 39) (pc' := 48) rfl (hb hby d1_39) rfl (teq hc14).1 (by decide) (by decide) ?_
                show Steps p.tables e below (s₁.setTop (mkF m 48 #[.val (.int p0)] [])) _
                refine XS.iconst X0.here hx rfl (hb hby d1_48) ?_
                show Steps p.tables e below (s₁.setTop (mkF m 49 #[.val (.int p0)] [(.int (1 : Int32))])) _
                refine XS.goto X0.here hx rfl (pc0 := 49) (pc' := 53) rfl (hb hby d1_49) (by decide) (by decide) ?_
                exact k)⟩
            · have pre15 : ∀ t, Steps p.tables e below (s₁.setTop (mkF m 45 #[.val (.int p0)] [(.int (45 : Int32)), (.int p0)])) t → Steps p.tables e below (s₁.setTop (entryFrame m #[(.int p0)] 1)) t := fun t k => pre13 t (by
                show Steps p.tables e below (s₁.setTop (mkF m 39 #[.val (.int p0)] [(.int (95 : Int32)), (.int p0)])) _
                refine XS.icmpNo X0.here hx rfl (hb hby d1_39) rfl (feq hc14).1 ?_
                show Steps p.tables e below (s₁.setTop (mkF m 42 #[.val (.int p0)] [])) _
                refine XS.iloadN X0.here hx rfl (hb hby d1_42) rfl ?_
                show Steps p.tables e below (s₁.setTop (mkF m 43 #[.val (.int p0)] [(.int p0)])) _
                refine XS.bipush X0.here hx rfl (hb hby d1_43) ?_
                exact k)
              by_cases hc16 : p0 = (45 : Int32)
              · exact ⟨(1 : Int32), (by rw [if_pos hc2, if_pos hc4, if_neg hc6, if_pos hc12, if_neg hc14, if_pos hc16]), fun t k => pre15 t (by
                  show Steps p.tables e below (s₁.setTop (mkF m 45 #[.val (.int p0)] [(.int (45 : Int32)), (.int p0)])) _
                  refine XS.icmpNo X0.here hx rfl (hb hby d1_45) rfl (teq hc16).2 ?_
                  show Steps p.tables e below (s₁.setTop (mkF m 48 #[.val (.int p0)] [])) _
                  refine XS.iconst X0.here hx rfl (hb hby d1_48) ?_
                  show Steps p.tables e below (s₁.setTop (mkF m 49 #[.val (.int p0)] [(.int (1 : Int32))])) _
                  refine XS.goto X0.here hx rfl (pc0 := 49) (pc' := 53) rfl (hb hby d1_49) (by decide) (by decide) ?_
                  exact k)⟩
              · exact ⟨(0 : Int32), (by rw [if_pos hc2, if_pos hc4, if_neg hc6, if_pos hc12, if_neg hc14, if_neg hc16]), fun t k => pre15 t (by
                  show Steps p.tables e below (s₁.setTop (mkF m 45 #[.val (.int p0)] [(.int (45 : Int32)), (.int p0)])) _
                  refine XS.icmpYes X0.here hx rfl (pc0 := 45) (pc' := 52) rfl (hb hby d1_45) rfl (feq hc16).2 (by decide) (by decide) ?_
                  show Steps p.tables e below (s₁.setTop (mkF m 52 #[.val (.int p0)] [])) _
                  refine XS.iconst X0.here hx rfl (hb hby d1_52) ?_
                  exact k)⟩
          · exact ⟨(1 : Int32), (by rw [if_pos hc2, if_pos hc4, if_neg hc6, if_neg hc12]), fun t k => pre11 t (by
              show Steps p.tables e below (s₁.setTop (mkF m 33 #[.val (.int p0)] [(.int (57 : Int32)), (.int p0)])) _
              refine XS.icmpYes X0.here hx rfl (pc0 := 33) (pc' := 48) rfl (hb hby d1_33) rfl (flt hc12).2.2.2 (by decide) (by decide) ?_
              show Steps p.tables e below (s₁.setTop (mkF m 48 #[.val (.int p0)] [])) _
              refine XS.iconst X0.here hx rfl (hb hby d1_48) ?_
              show Steps p.tables e below (s₁.setTop (mkF m 49 #[.val (.int p0)] [(.int (1 : Int32))])) _
              refine XS.goto X0.here hx rfl (pc0 := 49) (pc' := 53) rfl (hb hby d1_49) (by decide) (by decide) ?_
              exact k)⟩
      · have pre17 : ∀ t, Steps p.tables e below (s₁.setTop (mkF m 21 #[.val (.int p0)] [(.int (122 : Int32)), (.int p0)])) t → Steps p.tables e below (s₁.setTop (entryFrame m #[(.int p0)] 1)) t := fun t k => pre3 t (by
          show Steps p.tables e below (s₁.setTop (mkF m 15 #[.val (.int p0)] [(.int (97 : Int32)), (.int p0)])) _
          refine XS.icmpNo X0.here hx rfl (hb hby d1_15) rfl (flt hc4).1 ?_
          show Steps p.tables e below (s₁.setTop (mkF m 18 #[.val (.int p0)] [])) _
          refine XS.iloadN X0.here hx rfl (hb hby d1_18) rfl ?_
          show Steps p.tables e below (s₁.setTop (mkF m 19 #[.val (.int p0)] [(.int p0)])) _
          refine XS.bipush X0.here hx rfl (hb hby d1_19) ?_
          exact k)
        by_cases hc18 : (122 : Int32) < p0
        · have pre19 : ∀ t, Steps p.tables e below (s₁.setTop (mkF m 27 #[.val (.int p0)] [(.int (48 : Int32)), (.int p0)])) t → Steps p.tables e below (s₁.setTop (entryFrame m #[(.int p0)] 1)) t := fun t k => pre17 t (by
            show Steps p.tables e below (s₁.setTop (mkF m 21 #[.val (.int p0)] [(.int (122 : Int32)), (.int p0)])) _
            refine XS.icmpNo X0.here hx rfl (hb hby d1_21) rfl (tlt hc18).2.2.2 ?_
            show Steps p.tables e below (s₁.setTop (mkF m 24 #[.val (.int p0)] [])) _
            refine XS.iloadN X0.here hx rfl (hb hby d1_24) rfl ?_
            show Steps p.tables e below (s₁.setTop (mkF m 25 #[.val (.int p0)] [(.int p0)])) _
            refine XS.bipush X0.here hx rfl (hb hby d1_25) ?_
            exact k)
          by_cases hc20 : p0 < (48 : Int32)
          · have pre21 : ∀ t, Steps p.tables e below (s₁.setTop (mkF m 39 #[.val (.int p0)] [(.int (95 : Int32)), (.int p0)])) t → Steps p.tables e below (s₁.setTop (entryFrame m #[(.int p0)] 1)) t := fun t k => pre19 t (by
              show Steps p.tables e below (s₁.setTop (mkF m 27 #[.val (.int p0)] [(.int (48 : Int32)), (.int p0)])) _
              refine XS.icmpYes X0.here hx rfl (pc0 := 27) (pc' := 36) rfl (hb hby d1_27) rfl (tlt hc20).1 (by decide) (by decide) ?_
              show Steps p.tables e below (s₁.setTop (mkF m 36 #[.val (.int p0)] [])) _
              refine XS.iloadN X0.here hx rfl (hb hby d1_36) rfl ?_
              show Steps p.tables e below (s₁.setTop (mkF m 37 #[.val (.int p0)] [(.int p0)])) _
              refine XS.bipush X0.here hx rfl (hb hby d1_37) ?_
              exact k)
            by_cases hc22 : p0 = (95 : Int32)
            · exact ⟨(1 : Int32), (by rw [if_pos hc2, if_neg hc4, if_pos hc18, if_pos hc20, if_pos hc22]), fun t k => pre21 t (by
                show Steps p.tables e below (s₁.setTop (mkF m 39 #[.val (.int p0)] [(.int (95 : Int32)), (.int p0)])) _
                refine XS.icmpYes X0.here hx rfl (pc0 := 39) (pc' := 48) rfl (hb hby d1_39) rfl (teq hc22).1 (by decide) (by decide) ?_
                show Steps p.tables e below (s₁.setTop (mkF m 48 #[.val (.int p0)] [])) _
                refine XS.iconst X0.here hx rfl (hb hby d1_48) ?_
                show Steps p.tables e below (s₁.setTop (mkF m 49 #[.val (.int p0)] [(.int (1 : Int32))])) _
                refine XS.goto X0.here hx rfl (pc0 := 49) (pc' := 53) rfl (hb hby d1_49) (by decide) (by decide) ?_
                exact k)⟩
            · have pre23 : ∀ t, Steps p.tables e below (s₁.setTop (mkF m 45 #[.val (.int p0)] [(.int (45 : Int32)), (.int p0)])) t → Steps p.tables e below (s₁.setTop (entryFrame m #[(.int p0)] 1)) t := fun t k => pre21 t (by
                show Steps p.tables e below (s₁.setTop (mkF m 39 #[.val (.int p0)] [(.int (95 : Int32)), (.int p0)])) _
                refine XS.icmpNo X0.here hx rfl (hb hby d1_39) rfl (feq hc22).1 ?_
                show Steps p.tables e below (s₁.setTop (mkF m 42 #[.val (.int p0)] [])) _
                refine XS.iloadN X0.here hx rfl (hb hby d1_42) rfl ?_
                show Steps p.tables e below (s₁.setTop (mkF m 43 #[.val (.int p0)] [(.int p0)])) _
                refine XS.bipush X0.here hx rfl (hb hby d1_43) ?_
                exact k)
              by_cases hc24 : p0 = (45 : Int32)
              · exact ⟨(1 : Int32), (by rw [if_pos hc2, if_neg hc4, if_pos hc18, if_pos hc20, if_neg hc22, if_pos hc24]), fun t k => pre23 t (by
                  show Steps p.tables e below (s₁.setTop (mkF m 45 #[.val (.int p0)] [(.int (45 : Int32)), (.int p0)])) _
                  refine XS.icmpNo X0.here hx rfl (hb hby d1_45) rfl (teq hc24).2 ?_
                  show Steps p.tables e below (s₁.setTop (mkF m 48 #[.val (.int p0)] [])) _
                  refine XS.iconst X0.here hx rfl (hb hby d1_48) ?_
                  show Steps p.tables e below (s₁.setTop (mkF m 49 #[.val (.int p0)] [(.int (1 : Int32))])) _
                  refine XS.goto X0.here hx rfl (pc0 := 49) (pc' := 53) rfl (hb hby d1_49) (by decide) (by decide) ?_
                  exact k)⟩
              · exact ⟨(0 : Int32), (by rw [if_pos hc2, if_neg hc4, if_pos hc18, if_pos hc20, if_neg hc22, if_neg hc24]), fun t k => pre23 t (by
                  show Steps p.tables e below (s₁.setTop (mkF m 45 #[.val (.int p0)] [(.int (45 : Int32)), (.int p0)])) _
                  refine XS.icmpYes X0.here hx rfl (pc0 := 45) (pc' := 52) rfl (hb hby d1_45) rfl (feq hc24).2 (by decide) (by decide) ?_
                  show Steps p.tables e below (s₁.setTop (mkF m 52 #[.val (.int p0)] [])) _
                  refine XS.iconst X0.here hx rfl (hb hby d1_52) ?_
                  exact k)⟩
          · have pre25 : ∀ t, Steps p.tables e below (s₁.setTop (mkF m 33 #[.val (.int p0)] [(.int (57 : Int32)), (.int p0)])) t → Steps p.tables e below (s₁.setTop (entryFrame m #[(.int p0)] 1)) t := fun t k => pre19 t (by
              show Steps p.tables e below (s₁.setTop (mkF m 27 #[.val (.int p0)] [(.int (48 : Int32)), (.int p0)])) _
              refine XS.icmpNo X0.here hx rfl (hb hby d1_27) rfl (flt hc20).1 ?_
              show Steps p.tables e below (s₁.setTop (mkF m 30 #[.val (.int p0)] [])) _
              refine XS.iloadN X0.here hx rfl (hb hby d1_30) rfl ?_
              show Steps p.tables e below (s₁.setTop (mkF m 31 #[.val (.int p0)] [(.int p0)])) _
              refine XS.bipush X0.here hx rfl (hb hby d1_31) ?_
              exact k)
            by_cases hc26 : (57 : Int32) < p0
            · have pre27 : ∀ t, Steps p.tables e below (s₁.setTop (mkF m 39 #[.val (.int p0)] [(.int (95 : Int32)), (.int p0)])) t → Steps p.tables e below (s₁.setTop (entryFrame m #[(.int p0)] 1)) t := fun t k => pre25 t (by
                show Steps p.tables e below (s₁.setTop (mkF m 33 #[.val (.int p0)] [(.int (57 : Int32)), (.int p0)])) _
                refine XS.icmpNo X0.here hx rfl (hb hby d1_33) rfl (tlt hc26).2.2.2 ?_
                show Steps p.tables e below (s₁.setTop (mkF m 36 #[.val (.int p0)] [])) _
                refine XS.iloadN X0.here hx rfl (hb hby d1_36) rfl ?_
                show Steps p.tables e below (s₁.setTop (mkF m 37 #[.val (.int p0)] [(.int p0)])) _
                refine XS.bipush X0.here hx rfl (hb hby d1_37) ?_
                exact k)
              by_cases hc28 : p0 = (95 : Int32)
              · exact ⟨(1 : Int32), (by rw [if_pos hc2, if_neg hc4, if_pos hc18, if_neg hc20, if_pos hc26, if_pos hc28]), fun t k => pre27 t (by
                  show Steps p.tables e below (s₁.setTop (mkF m 39 #[.val (.int p0)] [(.int (95 : Int32)), (.int p0)])) _
                  refine XS.icmpYes X0.here hx rfl (pc0 := 39) (pc' := 48) rfl (hb hby d1_39) rfl (teq hc28).1 (by decide) (by decide) ?_
                  show Steps p.tables e below (s₁.setTop (mkF m 48 #[.val (.int p0)] [])) _
                  refine XS.iconst X0.here hx rfl (hb hby d1_48) ?_
                  show Steps p.tables e below (s₁.setTop (mkF m 49 #[.val (.int p0)] [(.int (1 : Int32))])) _
                  refine XS.goto X0.here hx rfl (pc0 := 49) (pc' := 53) rfl (hb hby d1_49) (by decide) (by decide) ?_
                  exact k)⟩
              · have pre29 : ∀ t, Steps p.tables e below (s₁.setTop (mkF m 45 #[.val (.int p0)] [(.int (45 : Int32)), (.int p0)])) t → Steps p.tables e below (s₁.setTop (entryFrame m #[(.int p0)] 1)) t := fun t k => pre27 t (by
                  show Steps p.tables e below (s₁.setTop (mkF m 39 #[.val (.int p0)] [(.int (95 : Int32)), (.int p0)])) _
                  refine XS.icmpNo X0.here hx rfl (hb hby d1_39) rfl (feq hc28).1 ?_
                  show Steps p.tables e below (s₁.setTop (mkF m 42 #[.val (.int p0)] [])) _
                  refine XS.iloadN X0.here hx rfl (hb hby d1_42) rfl ?_
                  show Steps p.tables e below (s₁.setTop (mkF m 43 #[.val (.int p0)] [(.int p0)])) _
                  refine XS.bipush X0.here hx rfl (hb hby d1_43) ?_
                  exact k)
                by_cases hc30 : p0 = (45 : Int32)
                · exact ⟨(1 : Int32), (by rw [if_pos hc2, if_neg hc4, if_pos hc18, if_neg hc20, if_pos hc26, if_neg hc28, if_pos hc30]), fun t k => pre29 t (by
                    show Steps p.tables e below (s₁.setTop (mkF m 45 #[.val (.int p0)] [(.int (45 : Int32)), (.int p0)])) _
                    refine XS.icmpNo X0.here hx rfl (hb hby d1_45) rfl (teq hc30).2 ?_
                    show Steps p.tables e below (s₁.setTop (mkF m 48 #[.val (.int p0)] [])) _
                    refine XS.iconst X0.here hx rfl (hb hby d1_48) ?_
                    show Steps p.tables e below (s₁.setTop (mkF m 49 #[.val (.int p0)] [(.int (1 : Int32))])) _
                    refine XS.goto X0.here hx rfl (pc0 := 49) (pc' := 53) rfl (hb hby d1_49) (by decide) (by decide) ?_
                    exact k)⟩
                · exact ⟨(0 : Int32), (by rw [if_pos hc2, if_neg hc4, if_pos hc18, if_neg hc20, if_pos hc26, if_neg hc28, if_neg hc30]), fun t k => pre29 t (by
                    show Steps p.tables e below (s₁.setTop (mkF m 45 #[.val (.int p0)] [(.int (45 : Int32)), (.int p0)])) _
                    refine XS.icmpYes X0.here hx rfl (pc0 := 45) (pc' := 52) rfl (hb hby d1_45) rfl (feq hc30).2 (by decide) (by decide) ?_
                    show Steps p.tables e below (s₁.setTop (mkF m 52 #[.val (.int p0)] [])) _
                    refine XS.iconst X0.here hx rfl (hb hby d1_52) ?_
                    exact k)⟩
            · exact ⟨(1 : Int32), (by rw [if_pos hc2, if_neg hc4, if_pos hc18, if_neg hc20, if_neg hc26]), fun t k => pre25 t (by
                show Steps p.tables e below (s₁.setTop (mkF m 33 #[.val (.int p0)] [(.int (57 : Int32)), (.int p0)])) _
                refine XS.icmpYes X0.here hx rfl (pc0 := 33) (pc' := 48) rfl (hb hby d1_33) rfl (flt hc26).2.2.2 (by decide) (by decide) ?_
                show Steps p.tables e below (s₁.setTop (mkF m 48 #[.val (.int p0)] [])) _
                refine XS.iconst X0.here hx rfl (hb hby d1_48) ?_
                show Steps p.tables e below (s₁.setTop (mkF m 49 #[.val (.int p0)] [(.int (1 : Int32))])) _
                refine XS.goto X0.here hx rfl (pc0 := 49) (pc' := 53) rfl (hb hby d1_49) (by decide) (by decide) ?_
                exact k)⟩
        · exact ⟨(1 : Int32), (by rw [if_pos hc2, if_neg hc4, if_neg hc18]), fun t k => pre17 t (by
            show Steps p.tables e below (s₁.setTop (mkF m 21 #[.val (.int p0)] [(.int (122 : Int32)), (.int p0)])) _
            refine XS.icmpYes X0.here hx rfl (pc0 := 21) (pc' := 48) rfl (hb hby d1_21) rfl (flt hc18).2.2.2 (by decide) (by decide) ?_
            show Steps p.tables e below (s₁.setTop (mkF m 48 #[.val (.int p0)] [])) _
            refine XS.iconst X0.here hx rfl (hb hby d1_48) ?_
            show Steps p.tables e below (s₁.setTop (mkF m 49 #[.val (.int p0)] [(.int (1 : Int32))])) _
            refine XS.goto X0.here hx rfl (pc0 := 49) (pc' := 53) rfl (hb hby d1_49) (by decide) (by decide) ?_
            exact k)⟩
    · have pre31 : ∀ t, Steps p.tables e below (s₁.setTop (mkF m 9 #[.val (.int p0)] [(.int (90 : Int32)), (.int p0)])) t → Steps p.tables e below (s₁.setTop (entryFrame m #[(.int p0)] 1)) t := fun t k => pre1 t (by
        show Steps p.tables e below (s₁.setTop (mkF m 3 #[.val (.int p0)] [(.int (65 : Int32)), (.int p0)])) _
        refine XS.icmpNo X0.here hx rfl (hb hby d1_3) rfl (flt hc2).1 ?_
        show Steps p.tables e below (s₁.setTop (mkF m 6 #[.val (.int p0)] [])) _
        refine XS.iloadN X0.here hx rfl (hb hby d1_6) rfl ?_
        show Steps p.tables e below (s₁.setTop (mkF m 7 #[.val (.int p0)] [(.int p0)])) _
        refine XS.bipush X0.here hx rfl (hb hby d1_7) ?_
        exact k)
      by_cases hc32 : (90 : Int32) < p0
      · have pre33 : ∀ t, Steps p.tables e below (s₁.setTop (mkF m 15 #[.val (.int p0)] [(.int (97 : Int32)), (.int p0)])) t → Steps p.tables e below (s₁.setTop (entryFrame m #[(.int p0)] 1)) t := fun t k => pre31 t (by
          show Steps p.tables e below (s₁.setTop (mkF m 9 #[.val (.int p0)] [(.int (90 : Int32)), (.int p0)])) _
          refine XS.icmpNo X0.here hx rfl (hb hby d1_9) rfl (tlt hc32).2.2.2 ?_
          show Steps p.tables e below (s₁.setTop (mkF m 12 #[.val (.int p0)] [])) _
          refine XS.iloadN X0.here hx rfl (hb hby d1_12) rfl ?_
          show Steps p.tables e below (s₁.setTop (mkF m 13 #[.val (.int p0)] [(.int p0)])) _
          refine XS.bipush X0.here hx rfl (hb hby d1_13) ?_
          exact k)
        by_cases hc34 : p0 < (97 : Int32)
        · have pre35 : ∀ t, Steps p.tables e below (s₁.setTop (mkF m 27 #[.val (.int p0)] [(.int (48 : Int32)), (.int p0)])) t → Steps p.tables e below (s₁.setTop (entryFrame m #[(.int p0)] 1)) t := fun t k => pre33 t (by
            show Steps p.tables e below (s₁.setTop (mkF m 15 #[.val (.int p0)] [(.int (97 : Int32)), (.int p0)])) _
            refine XS.icmpYes X0.here hx rfl (pc0 := 15) (pc' := 24) rfl (hb hby d1_15) rfl (tlt hc34).1 (by decide) (by decide) ?_
            show Steps p.tables e below (s₁.setTop (mkF m 24 #[.val (.int p0)] [])) _
            refine XS.iloadN X0.here hx rfl (hb hby d1_24) rfl ?_
            show Steps p.tables e below (s₁.setTop (mkF m 25 #[.val (.int p0)] [(.int p0)])) _
            refine XS.bipush X0.here hx rfl (hb hby d1_25) ?_
            exact k)
          by_cases hc36 : p0 < (48 : Int32)
          · have pre37 : ∀ t, Steps p.tables e below (s₁.setTop (mkF m 39 #[.val (.int p0)] [(.int (95 : Int32)), (.int p0)])) t → Steps p.tables e below (s₁.setTop (entryFrame m #[(.int p0)] 1)) t := fun t k => pre35 t (by
              show Steps p.tables e below (s₁.setTop (mkF m 27 #[.val (.int p0)] [(.int (48 : Int32)), (.int p0)])) _
              refine XS.icmpYes X0.here hx rfl (pc0 := 27) (pc' := 36) rfl (hb hby d1_27) rfl (tlt hc36).1 (by decide) (by decide) ?_
              show Steps p.tables e below (s₁.setTop (mkF m 36 #[.val (.int p0)] [])) _
              refine XS.iloadN X0.here hx rfl (hb hby d1_36) rfl ?_
              show Steps p.tables e below (s₁.setTop (mkF m 37 #[.val (.int p0)] [(.int p0)])) _
              refine XS.bipush X0.here hx rfl (hb hby d1_37) ?_
              exact k)
            by_cases hc38 : p0 = (95 : Int32)
            · exact ⟨(1 : Int32), (by rw [if_neg hc2, if_pos hc32, if_pos hc34, if_pos hc36, if_pos hc38]), fun t k => pre37 t (by
                show Steps p.tables e below (s₁.setTop (mkF m 39 #[.val (.int p0)] [(.int (95 : Int32)), (.int p0)])) _
                refine XS.icmpYes X0.here hx rfl (pc0 := 39) (pc' := 48) rfl (hb hby d1_39) rfl (teq hc38).1 (by decide) (by decide) ?_
                show Steps p.tables e below (s₁.setTop (mkF m 48 #[.val (.int p0)] [])) _
                refine XS.iconst X0.here hx rfl (hb hby d1_48) ?_
                show Steps p.tables e below (s₁.setTop (mkF m 49 #[.val (.int p0)] [(.int (1 : Int32))])) _
                refine XS.goto X0.here hx rfl (pc0 := 49) (pc' := 53) rfl (hb hby d1_49) (by decide) (by decide) ?_
                exact k)⟩
            · have pre39 : ∀ t, Steps p.tables e below (s₁.setTop (mkF m 45 #[.val (.int p0)] [(.int (45 : Int32)), (.int p0)])) t → Steps p.tables e below (s₁.setTop (entryFrame m #[(.int p0)] 1)) t := fun t k => pre37 t (by
                show Steps p.tables e below (s₁.setTop (mkF m 39 #[.val (.int p0)] [(.int (95 : Int32)), (.int p0)])) _
                refine XS.icmpNo X0.here hx rfl (hb hby d1_39) rfl (feq hc38).1 ?_
                show Steps p.tables e below (s₁.setTop (mkF m 42 #[.val (.int p0)] [])) _
                refine XS.iloadN X0.here hx rfl (hb hby d1_42) rfl ?_
                show Steps p.tables e below (s₁.setTop (mkF m 43 #[.val (.int p0)] [(.int p0)])) _
                refine XS.bipush X0.here hx rfl (hb hby d1_43) ?_
                exact k)
              by_cases hc40 : p0 = (45 : Int32)
              · exact ⟨(1 : Int32), (by rw [if_neg hc2, if_pos hc32, if_pos hc34, if_pos hc36, if_neg hc38, if_pos hc40]), fun t k => pre39 t (by
                  show Steps p.tables e below (s₁.setTop (mkF m 45 #[.val (.int p0)] [(.int (45 : Int32)), (.int p0)])) _
                  refine XS.icmpNo X0.here hx rfl (hb hby d1_45) rfl (teq hc40).2 ?_
                  show Steps p.tables e below (s₁.setTop (mkF m 48 #[.val (.int p0)] [])) _
                  refine XS.iconst X0.here hx rfl (hb hby d1_48) ?_
                  show Steps p.tables e below (s₁.setTop (mkF m 49 #[.val (.int p0)] [(.int (1 : Int32))])) _
                  refine XS.goto X0.here hx rfl (pc0 := 49) (pc' := 53) rfl (hb hby d1_49) (by decide) (by decide) ?_
                  exact k)⟩
              · exact ⟨(0 : Int32), (by rw [if_neg hc2, if_pos hc32, if_pos hc34, if_pos hc36, if_neg hc38, if_neg hc40]), fun t k => pre39 t (by
                  show Steps p.tables e below (s₁.setTop (mkF m 45 #[.val (.int p0)] [(.int (45 : Int32)), (.int p0)])) _
                  refine XS.icmpYes X0.here hx rfl (pc0 := 45) (pc' := 52) rfl (hb hby d1_45) rfl (feq hc40).2 (by decide) (by decide) ?_
                  show Steps p.tables e below (s₁.setTop (mkF m 52 #[.val (.int p0)] [])) _
                  refine XS.iconst X0.here hx rfl (hb hby d1_52) ?_
                  exact k)⟩
          · have pre41 : ∀ t, Steps p.tables e below (s₁.setTop (mkF m 33 #[.val (.int p0)] [(.int (57 : Int32)), (.int p0)])) t → Steps p.tables e below (s₁.setTop (entryFrame m #[(.int p0)] 1)) t := fun t k => pre35 t (by
              show Steps p.tables e below (s₁.setTop (mkF m 27 #[.val (.int p0)] [(.int (48 : Int32)), (.int p0)])) _
              refine XS.icmpNo X0.here hx rfl (hb hby d1_27) rfl (flt hc36).1 ?_
              show Steps p.tables e below (s₁.setTop (mkF m 30 #[.val (.int p0)] [])) _
              refine XS.iloadN X0.here hx rfl (hb hby d1_30) rfl ?_
              show Steps p.tables e below (s₁.setTop (mkF m 31 #[.val (.int p0)] [(.int p0)])) _
              refine XS.bipush X0.here hx rfl (hb hby d1_31) ?_
              exact k)
            by_cases hc42 : (57 : Int32) < p0
            · have pre43 : ∀ t, Steps p.tables e below (s₁.setTop (mkF m 39 #[.val (.int p0)] [(.int (95 : Int32)), (.int p0)])) t → Steps p.tables e below (s₁.setTop (entryFrame m #[(.int p0)] 1)) t := fun t k => pre41 t (by
                show Steps p.tables e below (s₁.setTop (mkF m 33 #[.val (.int p0)] [(.int (57 : Int32)), (.int p0)])) _
                refine XS.icmpNo X0.here hx rfl (hb hby d1_33) rfl (tlt hc42).2.2.2 ?_
                show Steps p.tables e below (s₁.setTop (mkF m 36 #[.val (.int p0)] [])) _
                refine XS.iloadN X0.here hx rfl (hb hby d1_36) rfl ?_
                show Steps p.tables e below (s₁.setTop (mkF m 37 #[.val (.int p0)] [(.int p0)])) _
                refine XS.bipush X0.here hx rfl (hb hby d1_37) ?_
                exact k)
              by_cases hc44 : p0 = (95 : Int32)
              · exact ⟨(1 : Int32), (by rw [if_neg hc2, if_pos hc32, if_pos hc34, if_neg hc36, if_pos hc42, if_pos hc44]), fun t k => pre43 t (by
                  show Steps p.tables e below (s₁.setTop (mkF m 39 #[.val (.int p0)] [(.int (95 : Int32)), (.int p0)])) _
                  refine XS.icmpYes X0.here hx rfl (pc0 := 39) (pc' := 48) rfl (hb hby d1_39) rfl (teq hc44).1 (by decide) (by decide) ?_
                  show Steps p.tables e below (s₁.setTop (mkF m 48 #[.val (.int p0)] [])) _
                  refine XS.iconst X0.here hx rfl (hb hby d1_48) ?_
                  show Steps p.tables e below (s₁.setTop (mkF m 49 #[.val (.int p0)] [(.int (1 : Int32))])) _
                  refine XS.goto X0.here hx rfl (pc0 := 49) (pc' := 53) rfl (hb hby d1_49) (by decide) (by decide) ?_
                  exact k)⟩
              · have pre45 : ∀ t, Steps p.tables e below (s₁.setTop (mkF m 45 #[.val (.int p0)] [(.int (45 : Int32)), (.int p0)])) t → Steps p.tables e below (s₁.setTop (entryFrame m #[(.int p0)] 1)) t := fun t k => pre43 t (by
                  show Steps p.tables e below (s₁.setTop (mkF m 39 #[.val (.int p0)] [(.int (95 : Int32)), (.int p0)])) _
                  refine XS.icmpNo X0.here hx rfl (hb hby d1_39) rfl (feq hc44).1 ?_
                  show Steps p.tables e below (s₁.setTop (mkF m 42 #[.val (.int p0)] [])) _
                  refine XS.iloadN X0.here hx rfl (hb hby d1_42) rfl ?_
                  show Steps p.tables e below (s₁.setTop (mkF m 43 #[.val (.int p0)] [(.int p0)])) _
                  refine XS.bipush X0.here hx rfl (hb hby d1_43) ?_
                  exact k)
                by_cases hc46 : p0 = (45 : Int32)
                · exact ⟨(1 : Int32), (by rw [if_neg hc2, if_pos hc32, if_pos hc34, if_neg hc36, if_pos hc42, if_neg hc44, if_pos hc46]), fun t k => pre45 t (by
                    show Steps p.tables e below (s₁.setTop (mkF m 45 #[.val (.int p0)] [(.int (45 : Int32)), (.int p0)])) _
                    refine XS.icmpNo X0.here hx rfl (hb hby d1_45) rfl (teq hc46).2 ?_
                    show Steps p.tables e below (s₁.setTop (mkF m 48 #[.val (.int p0)] [])) _
                    refine XS.iconst X0.here hx rfl (hb hby d1_48) ?_
                    show Steps p.tables e below (s₁.setTop (mkF m 49 #[.val (.int p0)] [(.int (1 : Int32))])) _
                    refine XS.goto X0.here hx rfl (pc0 := 49) (pc' := 53) rfl (hb hby d1_49) (by decide) (by decide) ?_
                    exact k)⟩
                · exact ⟨(0 : Int32), (by rw [if_neg hc2, if_pos hc32, if_pos hc34, if_neg hc36, if_pos hc42, if_neg hc44, if_neg hc46]), fun t k => pre45 t (by
                    show Steps p.tables e below (s₁.setTop (mkF m 45 #[.val (.int p0)] [(.int (45 : Int32)), (.int p0)])) _
                    refine XS.icmpYes X0.here hx rfl (pc0 := 45) (pc' := 52) rfl (hb hby d1_45) rfl (feq hc46).2 (by decide) (by decide) ?_
                    show Steps p.tables e below (s₁.setTop (mkF m 52 #[.val (.int p0)] [])) _
                    refine XS.iconst X0.here hx rfl (hb hby d1_52) ?_
                    exact k)⟩
            · exact ⟨(1 : Int32), (by rw [if_neg hc2, if_pos hc32, if_pos hc34, if_neg hc36, if_neg hc42]), fun t k => pre41 t (by
                show Steps p.tables e below (s₁.setTop (mkF m 33 #[.val (.int p0)] [(.int (57 : Int32)), (.int p0)])) _
                refine XS.icmpYes X0.here hx rfl (pc0 := 33) (pc' := 48) rfl (hb hby d1_33) rfl (flt hc42).2.2.2 (by decide) (by decide) ?_
                show Steps p.tables e below (s₁.setTop (mkF m 48 #[.val (.int p0)] [])) _
                refine XS.iconst X0.here hx rfl (hb hby d1_48) ?_
                show Steps p.tables e below (s₁.setTop (mkF m 49 #[.val (.int p0)] [(.int (1 : Int32))])) _
                refine XS.goto X0.here hx rfl (pc0 := 49) (pc' := 53) rfl (hb hby d1_49) (by decide) (by decide) ?_
                exact k)⟩
        · have pre47 : ∀ t, Steps p.tables e below (s₁.setTop (mkF m 21 #[.val (.int p0)] [(.int (122 : Int32)), (.int p0)])) t → Steps p.tables e below (s₁.setTop (entryFrame m #[(.int p0)] 1)) t := fun t k => pre33 t (by
            show Steps p.tables e below (s₁.setTop (mkF m 15 #[.val (.int p0)] [(.int (97 : Int32)), (.int p0)])) _
            refine XS.icmpNo X0.here hx rfl (hb hby d1_15) rfl (flt hc34).1 ?_
            show Steps p.tables e below (s₁.setTop (mkF m 18 #[.val (.int p0)] [])) _
            refine XS.iloadN X0.here hx rfl (hb hby d1_18) rfl ?_
            show Steps p.tables e below (s₁.setTop (mkF m 19 #[.val (.int p0)] [(.int p0)])) _
            refine XS.bipush X0.here hx rfl (hb hby d1_19) ?_
            exact k)
          by_cases hc48 : (122 : Int32) < p0
          · have pre49 : ∀ t, Steps p.tables e below (s₁.setTop (mkF m 27 #[.val (.int p0)] [(.int (48 : Int32)), (.int p0)])) t → Steps p.tables e below (s₁.setTop (entryFrame m #[(.int p0)] 1)) t := fun t k => pre47 t (by
              show Steps p.tables e below (s₁.setTop (mkF m 21 #[.val (.int p0)] [(.int (122 : Int32)), (.int p0)])) _
              refine XS.icmpNo X0.here hx rfl (hb hby d1_21) rfl (tlt hc48).2.2.2 ?_
              show Steps p.tables e below (s₁.setTop (mkF m 24 #[.val (.int p0)] [])) _
              refine XS.iloadN X0.here hx rfl (hb hby d1_24) rfl ?_
              show Steps p.tables e below (s₁.setTop (mkF m 25 #[.val (.int p0)] [(.int p0)])) _
              refine XS.bipush X0.here hx rfl (hb hby d1_25) ?_
              exact k)
            by_cases hc50 : p0 < (48 : Int32)
            · have pre51 : ∀ t, Steps p.tables e below (s₁.setTop (mkF m 39 #[.val (.int p0)] [(.int (95 : Int32)), (.int p0)])) t → Steps p.tables e below (s₁.setTop (entryFrame m #[(.int p0)] 1)) t := fun t k => pre49 t (by
                show Steps p.tables e below (s₁.setTop (mkF m 27 #[.val (.int p0)] [(.int (48 : Int32)), (.int p0)])) _
                refine XS.icmpYes X0.here hx rfl (pc0 := 27) (pc' := 36) rfl (hb hby d1_27) rfl (tlt hc50).1 (by decide) (by decide) ?_
                show Steps p.tables e below (s₁.setTop (mkF m 36 #[.val (.int p0)] [])) _
                refine XS.iloadN X0.here hx rfl (hb hby d1_36) rfl ?_
                show Steps p.tables e below (s₁.setTop (mkF m 37 #[.val (.int p0)] [(.int p0)])) _
                refine XS.bipush X0.here hx rfl (hb hby d1_37) ?_
                exact k)
              by_cases hc52 : p0 = (95 : Int32)
              · exact ⟨(1 : Int32), (by rw [if_neg hc2, if_pos hc32, if_neg hc34, if_pos hc48, if_pos hc50, if_pos hc52]), fun t k => pre51 t (by
                  show Steps p.tables e below (s₁.setTop (mkF m 39 #[.val (.int p0)] [(.int (95 : Int32)), (.int p0)])) _
                  refine XS.icmpYes X0.here hx rfl (pc0 := 39) (pc' := 48) rfl (hb hby d1_39) rfl (teq hc52).1 (by decide) (by decide) ?_
                  show Steps p.tables e below (s₁.setTop (mkF m 48 #[.val (.int p0)] [])) _
                  refine XS.iconst X0.here hx rfl (hb hby d1_48) ?_
                  show Steps p.tables e below (s₁.setTop (mkF m 49 #[.val (.int p0)] [(.int (1 : Int32))])) _
                  refine XS.goto X0.here hx rfl (pc0 := 49) (pc' := 53) rfl (hb hby d1_49) (by decide) (by decide) ?_
                  exact k)⟩
              · have pre53 : ∀ t, Steps p.tables e below (s₁.setTop (mkF m 45 #[.val (.int p0)] [(.int (45 : Int32)), (.int p0)])) t → Steps p.tables e below (s₁.setTop (entryFrame m #[(.int p0)] 1)) t := fun t k => pre51 t (by
                  show Steps p.tables e below (s₁.setTop (mkF m 39 #[.val (.int p0)] [(.int (95 : Int32)), (.int p0)])) _
                  refine XS.icmpNo X0.here hx rfl (hb hby d1_39) rfl (feq hc52).1 ?_
                  show Steps p.tables e below (s₁.setTop (mkF m 42 #[.val (.int p0)] [])) _
                  refine XS.iloadN X0.here hx rfl (hb hby d1_42) rfl ?_
                  show Steps p.tables e below (s₁.setTop (mkF m 43 #[.val (.int p0)] [(.int p0)])) _
                  refine XS.bipush X0.here hx rfl (hb hby d1_43) ?_
                  exact k)
                by_cases hc54 : p0 = (45 : Int32)
                · exact ⟨(1 : Int32), (by rw [if_neg hc2, if_pos hc32, if_neg hc34, if_pos hc48, if_pos hc50, if_neg hc52, if_pos hc54]), fun t k => pre53 t (by
                    show Steps p.tables e below (s₁.setTop (mkF m 45 #[.val (.int p0)] [(.int (45 : Int32)), (.int p0)])) _
                    refine XS.icmpNo X0.here hx rfl (hb hby d1_45) rfl (teq hc54).2 ?_
                    show Steps p.tables e below (s₁.setTop (mkF m 48 #[.val (.int p0)] [])) _
                    refine XS.iconst X0.here hx rfl (hb hby d1_48) ?_
                    show Steps p.tables e below (s₁.setTop (mkF m 49 #[.val (.int p0)] [(.int (1 : Int32))])) _
                    refine XS.goto X0.here hx rfl (pc0 := 49) (pc' := 53) rfl (hb hby d1_49) (by decide) (by decide) ?_
                    exact k)⟩
                · exact ⟨(0 : Int32), (by rw [if_neg hc2, if_pos hc32, if_neg hc34, if_pos hc48, if_pos hc50, if_neg hc52, if_neg hc54]), fun t k => pre53 t (by
                    show Steps p.tables e below (s₁.setTop (mkF m 45 #[.val (.int p0)] [(.int (45 : Int32)), (.int p0)])) _
                    refine XS.icmpYes X0.here hx rfl (pc0 := 45) (pc' := 52) rfl (hb hby d1_45) rfl (feq hc54).2 (by decide) (by decide) ?_
                    show Steps p.tables e below (s₁.setTop (mkF m 52 #[.val (.int p0)] [])) _
                    refine XS.iconst X0.here hx rfl (hb hby d1_52) ?_
                    exact k)⟩
            · have pre55 : ∀ t, Steps p.tables e below (s₁.setTop (mkF m 33 #[.val (.int p0)] [(.int (57 : Int32)), (.int p0)])) t → Steps p.tables e below (s₁.setTop (entryFrame m #[(.int p0)] 1)) t := fun t k => pre49 t (by
                show Steps p.tables e below (s₁.setTop (mkF m 27 #[.val (.int p0)] [(.int (48 : Int32)), (.int p0)])) _
                refine XS.icmpNo X0.here hx rfl (hb hby d1_27) rfl (flt hc50).1 ?_
                show Steps p.tables e below (s₁.setTop (mkF m 30 #[.val (.int p0)] [])) _
                refine XS.iloadN X0.here hx rfl (hb hby d1_30) rfl ?_
                show Steps p.tables e below (s₁.setTop (mkF m 31 #[.val (.int p0)] [(.int p0)])) _
                refine XS.bipush X0.here hx rfl (hb hby d1_31) ?_
                exact k)
              by_cases hc56 : (57 : Int32) < p0
              · have pre57 : ∀ t, Steps p.tables e below (s₁.setTop (mkF m 39 #[.val (.int p0)] [(.int (95 : Int32)), (.int p0)])) t → Steps p.tables e below (s₁.setTop (entryFrame m #[(.int p0)] 1)) t := fun t k => pre55 t (by
                  show Steps p.tables e below (s₁.setTop (mkF m 33 #[.val (.int p0)] [(.int (57 : Int32)), (.int p0)])) _
                  refine XS.icmpNo X0.here hx rfl (hb hby d1_33) rfl (tlt hc56).2.2.2 ?_
                  show Steps p.tables e below (s₁.setTop (mkF m 36 #[.val (.int p0)] [])) _
                  refine XS.iloadN X0.here hx rfl (hb hby d1_36) rfl ?_
                  show Steps p.tables e below (s₁.setTop (mkF m 37 #[.val (.int p0)] [(.int p0)])) _
                  refine XS.bipush X0.here hx rfl (hb hby d1_37) ?_
                  exact k)
                by_cases hc58 : p0 = (95 : Int32)
                · exact ⟨(1 : Int32), (by rw [if_neg hc2, if_pos hc32, if_neg hc34, if_pos hc48, if_neg hc50, if_pos hc56, if_pos hc58]), fun t k => pre57 t (by
                    show Steps p.tables e below (s₁.setTop (mkF m 39 #[.val (.int p0)] [(.int (95 : Int32)), (.int p0)])) _
                    refine XS.icmpYes X0.here hx rfl (pc0 := 39) (pc' := 48) rfl (hb hby d1_39) rfl (teq hc58).1 (by decide) (by decide) ?_
                    show Steps p.tables e below (s₁.setTop (mkF m 48 #[.val (.int p0)] [])) _
                    refine XS.iconst X0.here hx rfl (hb hby d1_48) ?_
                    show Steps p.tables e below (s₁.setTop (mkF m 49 #[.val (.int p0)] [(.int (1 : Int32))])) _
                    refine XS.goto X0.here hx rfl (pc0 := 49) (pc' := 53) rfl (hb hby d1_49) (by decide) (by decide) ?_
                    exact k)⟩
                · have pre59 : ∀ t, Steps p.tables e below (s₁.setTop (mkF m 45 #[.val (.int p0)] [(.int (45 : Int32)), (.int p0)])) t → Steps p.tables e below (s₁.setTop (entryFrame m #[(.int p0)] 1)) t := fun t k => pre57 t (by
                    show Steps p.tables e below (s₁.setTop (mkF m 39 #[.val (.int p0)] [(.int (95 : Int32)), (.int p0)])) _
                    refine XS.icmpNo X0.here hx rfl (hb hby d1_39) rfl (feq hc58).1 ?_
                    show Steps p.tables e below (s₁.setTop (mkF m 42 #[.val (.int p0)] [])) _
                    refine XS.iloadN X0.here hx rfl (hb hby d1_42) rfl ?_
                    show Steps p.tables e below (s₁.setTop (mkF m 43 #[.val (.int p0)] [(.int p0)])) _
                    refine XS.bipush X0.here hx rfl (hb hby d1_43) ?_
                    exact k)
                  by_cases hc60 : p0 = (45 : Int32)
                  · exact ⟨(1 : Int32), (by rw [if_neg hc2, if_pos hc32, if_neg hc34, if_pos hc48, if_neg hc50, if_pos hc56, if_neg hc58, if_pos hc60]), fun t k => pre59 t (by
                      show Steps p.tables e below (s₁.setTop (mkF m 45 #[.val (.int p0)] [(.int (45 : Int32)), (.int p0)])) _
                      refine XS.icmpNo X0.here hx rfl (hb hby d1_45) rfl (teq hc60).2 ?_
                      show Steps p.tables e below (s₁.setTop (mkF m 48 #[.val (.int p0)] [])) _
                      refine XS.iconst X0.here hx rfl (hb hby d1_48) ?_
                      show Steps p.tables e below (s₁.setTop (mkF m 49 #[.val (.int p0)] [(.int (1 : Int32))])) _
                      refine XS.goto X0.here hx rfl (pc0 := 49) (pc' := 53) rfl (hb hby d1_49) (by decide) (by decide) ?_
                      exact k)⟩
                  · exact ⟨(0 : Int32), (by rw [if_neg hc2, if_pos hc32, if_neg hc34, if_pos hc48, if_neg hc50, if_pos hc56, if_neg hc58, if_neg hc60]), fun t k => pre59 t (by
                      show Steps p.tables e below (s₁.setTop (mkF m 45 #[.val (.int p0)] [(.int (45 : Int32)), (.int p0)])) _
                      refine XS.icmpYes X0.here hx rfl (pc0 := 45) (pc' := 52) rfl (hb hby d1_45) rfl (feq hc60).2 (by decide) (by decide) ?_
                      show Steps p.tables e below (s₁.setTop (mkF m 52 #[.val (.int p0)] [])) _
                      refine XS.iconst X0.here hx rfl (hb hby d1_52) ?_
                      exact k)⟩
              · exact ⟨(1 : Int32), (by rw [if_neg hc2, if_pos hc32, if_neg hc34, if_pos hc48, if_neg hc50, if_neg hc56]), fun t k => pre55 t (by
                  show Steps p.tables e below (s₁.setTop (mkF m 33 #[.val (.int p0)] [(.int (57 : Int32)), (.int p0)])) _
                  refine XS.icmpYes X0.here hx rfl (pc0 := 33) (pc' := 48) rfl (hb hby d1_33) rfl (flt hc56).2.2.2 (by decide) (by decide) ?_
                  show Steps p.tables e below (s₁.setTop (mkF m 48 #[.val (.int p0)] [])) _
                  refine XS.iconst X0.here hx rfl (hb hby d1_48) ?_
                  show Steps p.tables e below (s₁.setTop (mkF m 49 #[.val (.int p0)] [(.int (1 : Int32))])) _
                  refine XS.goto X0.here hx rfl (pc0 := 49) (pc' := 53) rfl (hb hby d1_49) (by decide) (by decide) ?_
                  exact k)⟩
          · exact ⟨(1 : Int32), (by rw [if_neg hc2, if_pos hc32, if_neg hc34, if_neg hc48]), fun t k => pre47 t (by
              show Steps p.tables e below (s₁.setTop (mkF m 21 #[.val (.int p0)] [(.int (122 : Int32)), (.int p0)])) _
              refine XS.icmpYes X0.here hx rfl (pc0 := 21) (pc' := 48) rfl (hb hby d1_21) rfl (flt hc48).2.2.2 (by decide) (by decide) ?_
              show Steps p.tables e below (s₁.setTop (mkF m 48 #[.val (.int p0)] [])) _
              refine XS.iconst X0.here hx rfl (hb hby d1_48) ?_
              show Steps p.tables e below (s₁.setTop (mkF m 49 #[.val (.int p0)] [(.int (1 : Int32))])) _
              refine XS.goto X0.here hx rfl (pc0 := 49) (pc' := 53) rfl (hb hby d1_49) (by decide) (by decide) ?_
              exact k)⟩
      · exact ⟨(1 : Int32), (by rw [if_neg hc2, if_neg hc32]), fun t k => pre31 t (by
          show Steps p.tables e below (s₁.setTop (mkF m 9 #[.val (.int p0)] [(.int (90 : Int32)), (.int p0)])) _
          refine XS.icmpYes X0.here hx rfl (pc0 := 9) (pc' := 48) rfl (hb hby d1_9) rfl (flt hc32).2.2.2 (by decide) (by decide) ?_
          show Steps p.tables e below (s₁.setTop (mkF m 48 #[.val (.int p0)] [])) _
          refine XS.iconst X0.here hx rfl (hb hby d1_48) ?_
          show Steps p.tables e below (s₁.setTop (mkF m 49 #[.val (.int p0)] [(.int (1 : Int32))])) _
          refine XS.goto X0.here hx rfl (pc0 := 49) (pc' := 53) rfl (hb hby d1_49) (by decide) (by decide) ?_
          exact k)⟩
  obtain ⟨fs, hr, hrun, hended, hW, hsame⟩ := X0.leave (v := some (.int (nar .boolean j61))) (fun h => by rw [Bd.returns] at h; cases h)
  refine ⟨_, _, pre62 _ ?_, hrun, hended, _, _, rfl, ?_, ⟨_, rfl⟩, hW, hsame.mono (by decide) (by decide)⟩
  · show Steps p.tables e below (s₁.setTop (mkF m 53 #[.val (.int p0)] [(.int j61)])) _
    exact retN X0 hx (t := .boolean) Bd.returns (by simp) (hb hby d1_53) hr
  · show Q1 Z p0 h0 n0 _ s₁.heap _
    rw [e0]
    exact ⟨congrArg (fun z => some (Value.int z)) (by subst hj61; rfl), N0, rfl⟩
theorem pn_1 : plainName "com/example/hyperslab/hyperslab/dap2/DapTextIsPlainPinLaw" = true := by first | (simp [plainName, overriddenIn]; done) | decide +kernel
theorem pd_0 : parseMethodDescriptor "(C)Z" = some ⟨[.char], some .boolean⟩ := by decide +kernel
theorem ef_0 (m : MethodId) (x0 : Int32) : entryFrame m #[(.int x0)] maxLocals = mkF m 0 #[.val (.int x0), .unset, .unset, .unset, .unset, .unset, .unset, .unset] [] := by first | (simp [entryFrame, mkF, argsToLocals, Value.category, maxLocals]; done) | rfl
def f0 (p0 : Int32) : Int32 := (let v2 : Int32 := (p0 &&& (65535 : Int32)); (let v5 : Int32 := (v2.toUInt32.toUInt16.toUInt32.toInt32); (let v8 : Int32 := (v2 - (48 : Int32)); (let j14 : Int32 := (if v8 < (0 : Int32) then (0 : Int32) else (if v8 < (10 : Int32) then (1 : Int32) else (0 : Int32))); (let v17 : Int32 := ((v2 ||| (32 : Int32)) - (97 : Int32)); (let j23 : Int32 := (if v17 < (0 : Int32) then (0 : Int32) else (if v17 < (26 : Int32) then (1 : Int32) else (0 : Int32))); (let j33 : Int32 := (if j14 = (0 : Int32) then (if j23 = (0 : Int32) then (if v2 = (95 : Int32) then (1 : Int32) else (if v2 = (45 : Int32) then (1 : Int32) else (0 : Int32))) else (1 : Int32)) else (1 : Int32)); (let j39 : Int32 := (if (f1 v5) = j33 then (1 : Int32) else (0 : Int32)); (nar .boolean j39)))))))))
def Q0 (Z : State) (p0 : Int32) (h0 : Heap) (n0 : Nat) (v : Option Value) (h : Heap) (L : List Loc) : Prop := v = some (.int (1 : Int32)) ∧ Fr n0 L
set_option maxRecDepth 65536 in
set_option maxHeartbeats 40000000 in
theorem rm0 (l : Launch) (Z : State) (aw : Array Value) (hw : ∀ d ∈ tables_1, d.before aw Z = true) (ws : List Jvm.Cond) (p0 : Int32) (h0 : Heap) (n0 : Nat) (Z0 : n0 ≤ h0.size) (hlaw : f0 p0 = 1) :
    MetFree l x (head1 (Jvm.Cond.code x code maxLocals ret :: ws) room_1) (fun a U => a = #[(.int p0)] ∧ Z.Warmed39 U.vm ∧ U.heap = h0) (fun _ _ _ _ _ => True) (fun _ U o U' => ∃ v L, o = .returned v ∧ Q0 Z p0 h0 n0 v U'.heap L ∧ FrameEnd U o U' L room_1.cells room_1.slots) := by
  refine MetFree.of_bodySF (plainFor_of_name pn_1) hisR ?_
  intro p e s m args below meth c s₁ Bd hml0 hP hK
  obtain ⟨rfl, hZ, hh⟩ := hP
  have hx := Bd.exec
  have hby := Bd.bytes
  have hml : c.maxLocals = 8 := hml0
  have hown : s.vm.findClass "com/example/hyperslab/hyperslab/dap2/DapTextIsPlainPinLaw" = some m.cls := findClass_of_methodNamed Bd.named
  have hnm := (name_of_methodNamed Bd.named Bd.method).1
  have X0 : Stand p l e room_1 s m #[(.int p0)] below meth c s₁ [] 0 0 := Stand.of_body Bd
  have e0 : s₁.heap = h0 := by rw [← hh, Bd.state]; rfl
  have N0 := Fr.nil n0
  have pre0 : ∀ t, Steps p.tables e below (s₁.setTop (mkF m 0 #[.val (.int p0), .unset, .unset, .unset, .unset, .unset, .unset, .unset] [])) t → Steps p.tables e below (s₁.setTop (entryFrame m #[(.int p0)] maxLocals)) t := fun t k => castTop (ef_0 m p0) k
  have pre1 : ∀ t, Steps p.tables e below (s₁.setTop (mkF m 4 #[.val (.int p0), .unset, .unset, .unset, .unset, .unset, .unset, .unset] [(.int (p0 &&& (65535 : Int32)))])) t → Steps p.tables e below (s₁.setTop (entryFrame m #[(.int p0)] maxLocals)) t := fun t k => pre0 t (by
    show Steps p.tables e below (s₁.setTop (mkF m 0 #[.val (.int p0), .unset, .unset, .unset, .unset, .unset, .unset, .unset] [])) _
    refine XS.iloadN X0.here hx rfl (hb hby at_0) rfl ?_
    show Steps p.tables e below (s₁.setTop (mkF m 1 #[.val (.int p0), .unset, .unset, .unset, .unset, .unset, .unset, .unset] [(.int p0)])) _
    refine X0.ldcInt hx hown (mvT hZ (hw _ (List.mem_of_getElem? (i := 0) rfl))) (g := (mkF m 1 #[.val (.int p0), .unset, .unset, .unset, .unset, .unset, .unset, .unset] [(.int p0)])) rfl (hb hby at_1) _ ?_
    show Steps p.tables e below (s₁.setTop (mkF m 3 #[.val (.int p0), .unset, .unset, .unset, .unset, .unset, .unset, .unset] [(.int (65535 : Int32)), (.int p0)])) _
    refine XS.iand X0.here hx rfl (hb hby at_3) rfl ?_
    exact k)
  obtain ⟨v2, hv2⟩ : ∃ z : Int32, z = (p0 &&& (65535 : Int32)) := ⟨_, rfl⟩
  have pre3 : ∀ t, Steps p.tables e below (s₁.setTop (mkF m 4 #[.val (.int p0), .unset, .unset, .unset, .unset, .unset, .unset, .unset] [(.int v2)])) t → Steps p.tables e below (s₁.setTop (entryFrame m #[(.int p0)] maxLocals)) t := fun t k => pre1 t (by rw [hv2] at k; exact k)
  have pre4 : ∀ t, Steps p.tables e below (s₁.setTop (mkF m 7 #[.val (.int p0), .val (.int v2), .unset, .unset, .unset, .unset, .unset, .unset] [(.int (v2.toUInt32.toUInt16.toUInt32.toInt32))])) t → Steps p.tables e below (s₁.setTop (entryFrame m #[(.int p0)] maxLocals)) t := fun t k => pre3 t (by
    show Steps p.tables e below (s₁.setTop (mkF m 4 #[.val (.int p0), .unset, .unset, .unset, .unset, .unset, .unset, .unset] [(.int v2)])) _
    refine XS.istoreN X0.here hx rfl (hb hby at_4) rfl (l' := #[.val (.int p0), .val (.int v2), .unset, .unset, .unset, .unset, .unset, .unset]) rfl ?_
    show Steps p.tables e below (s₁.setTop (mkF m 5 #[.val (.int p0), .val (.int v2), .unset, .unset, .unset, .unset, .unset, .unset] [])) _
    refine XS.iloadN X0.here hx rfl (hb hby at_5) rfl ?_
    show Steps p.tables e below (s₁.setTop (mkF m 6 #[.val (.int p0), .val (.int v2), .unset, .unset, .unset, .unset, .unset, .unset] [(.int v2)])) _
    refine XS.i2c X0.here hx rfl (hb hby at_6) rfl ?_
    exact k)
  obtain ⟨v5, hv5⟩ : ∃ z : Int32, z = (v2.toUInt32.toUInt16.toUInt32.toInt32) := ⟨_, rfl⟩
  have pre6 : ∀ t, Steps p.tables e below (s₁.setTop (mkF m 7 #[.val (.int p0), .val (.int v2), .unset, .unset, .unset, .unset, .unset, .unset] [(.int v5)])) t → Steps p.tables e below (s₁.setTop (entryFrame m #[(.int p0)] maxLocals)) t := fun t k => pre4 t (by rw [hv5] at k; exact k)
  have pre7 : ∀ t, Steps p.tables e below (s₁.setTop (mkF m 12 #[.val (.int p0), .val (.int v2), .val (.int v5), .unset, .unset, .unset, .unset, .unset] [(.int (v2 - (48 : Int32)))])) t → Steps p.tables e below (s₁.setTop (entryFrame m #[(.int p0)] maxLocals)) t := fun t k => pre6 t (by
    show Steps p.tables e below (s₁.setTop (mkF m 7 #[.val (.int p0), .val (.int v2), .unset, .unset, .unset, .unset, .unset, .unset] [(.int v5)])) _
    refine XS.istoreN X0.here hx rfl (hb hby at_7) rfl (l' := #[.val (.int p0), .val (.int v2), .val (.int v5), .unset, .unset, .unset, .unset, .unset]) rfl ?_
    show Steps p.tables e below (s₁.setTop (mkF m 8 #[.val (.int p0), .val (.int v2), .val (.int v5), .unset, .unset, .unset, .unset, .unset] [])) _
    refine XS.iloadN X0.here hx rfl (hb hby at_8) rfl ?_
    show Steps p.tables e below (s₁.setTop (mkF m 9 #[.val (.int p0), .val (.int v2), .val (.int v5), .unset, .unset, .unset, .unset, .unset] [(.int v2)])) _
    refine XS.bipush X0.here hx rfl (hb hby at_9) ?_
    show Steps p.tables e below (s₁.setTop (mkF m 11 #[.val (.int p0), .val (.int v2), .val (.int v5), .unset, .unset, .unset, .unset, .unset] [(.int (48 : Int32)), (.int v2)])) _
    refine XS.isub X0.here hx rfl (hb hby at_11) rfl ?_
    exact k)
  obtain ⟨v8, hv8⟩ : ∃ z : Int32, z = (v2 - (48 : Int32)) := ⟨_, rfl⟩
  have pre9 : ∀ t, Steps p.tables e below (s₁.setTop (mkF m 12 #[.val (.int p0), .val (.int v2), .val (.int v5), .unset, .unset, .unset, .unset, .unset] [(.int v8)])) t → Steps p.tables e below (s₁.setTop (entryFrame m #[(.int p0)] maxLocals)) t := fun t k => pre7 t (by rw [hv8] at k; exact k)
  have pre10 : ∀ t, Steps p.tables e below (s₁.setTop (mkF m 14 #[.val (.int p0), .val (.int v2), .val (.int v5), .val (.int v8), .unset, .unset, .unset, .unset] [(.int v8)])) t → Steps p.tables e below (s₁.setTop (entryFrame m #[(.int p0)] maxLocals)) t := fun t k => pre9 t (by
    show Steps p.tables e below (s₁.setTop (mkF m 12 #[.val (.int p0), .val (.int v2), .val (.int v5), .unset, .unset, .unset, .unset, .unset] [(.int v8)])) _
    refine XS.istoreN X0.here hx rfl (hb hby at_12) rfl (l' := #[.val (.int p0), .val (.int v2), .val (.int v5), .val (.int v8), .unset, .unset, .unset, .unset]) rfl ?_
    show Steps p.tables e below (s₁.setTop (mkF m 13 #[.val (.int p0), .val (.int v2), .val (.int v5), .val (.int v8), .unset, .unset, .unset, .unset] [])) _
    refine XS.iloadN X0.here hx rfl (hb hby at_13) rfl ?_
    exact k)
  obtain ⟨j14, hj14, pre15⟩ : ∃ (j14 : Int32), j14 = (if v8 < (0 : Int32) then (0 : Int32) else (if v8 < (10 : Int32) then (1 : Int32) else (0 : Int32))) ∧ ∀ t, Steps p.tables e below (s₁.setTop (mkF m 28 #[.val (.int p0), .val (.int v2), .val (.int v5), .val (.int v8), .unset, .unset, .unset, .unset] [(.int j14)])) t → Steps p.tables e below (s₁.setTop (entryFrame m #[(.int p0)] maxLocals)) t := by
    by_cases hc11 : v8 < (0 : Int32)
    · exact ⟨(0 : Int32), (by rw [if_pos hc11]), fun t k => pre10 t (by
        show Steps p.tables e below (s₁.setTop (mkF m 14 #[.val (.int p0), .val (.int v2), .val (.int v5), .val (.int v8), .unset, .unset, .unset, .unset] [(.int v8)])) _
        refine XS.ifYes X0.here hx rfl (pc0 := 14) (pc' := 27) rfl (hb hby at_14) rfl ((if0 _ _).trans (tlt hc11).1) (by decide) (by decide) ?_
        show Steps p.tables e below (s₁.setTop (mkF m 27 #[.val (.int p0), .val (.int v2), .val (.int v5), .val (.int v8), .unset, .unset, .unset, .unset] [])) _
        refine XS.iconst X0.here hx rfl (hb hby at_27) ?_
        exact k)⟩
    · have pre12 : ∀ t, Steps p.tables e below (s₁.setTop (mkF m 20 #[.val (.int p0), .val (.int v2), .val (.int v5), .val (.int v8), .unset, .unset, .unset, .unset] [(.int (10 : Int32)), (.int v8)])) t → Steps p.tables e below (s₁.setTop (entryFrame m #[(.int p0)] maxLocals)) t := fun t k => pre10 t (by
        show Steps p.tables e below (s₁.setTop (mkF m 14 #[.val (.int p0), .val (.int v2), .val (.int v5), .val (.int v8), .unset, .unset, .unset, .unset] [(.int v8)])) _
        refine XS.ifNo X0.here hx rfl (hb hby at_14) rfl ((if0 _ _).trans (flt hc11).1) ?_
        show Steps p.tables e below (s₁.setTop (mkF m 17 #[.val (.int p0), .val (.int v2), .val (.int v5), .val (.int v8), .unset, .unset, .unset, .unset] [])) _
        refine XS.iloadN X0.here hx rfl (hb hby at_17) rfl ?_
        show Steps p.tables e below (s₁.setTop (mkF m 18 #[.val (.int p0), .val (.int v2), .val (.int v5), .val (.int v8), .unset, .unset, .unset, .unset] [(.int v8)])) _
        refine XS.bipush X0.here hx rfl (hb hby at_18) ?_
        exact k)
      by_cases hc13 : v8 < (10 : Int32)
      · exact ⟨(1 : Int32), (by rw [if_neg hc11, if_pos hc13]), fun t k => pre12 t (by
          show Steps p.tables e below (s₁.setTop (mkF m 20 #[.val (.int p0), .val (.int v2), .val (.int v5), .val (.int v8), .unset, .unset, .unset, .unset] [(.int (10 : Int32)), (.int v8)])) _
          refine XS.icmpNo X0.here hx rfl (hb hby at_20) rfl (tlt hc13).2.1 ?_
          show Steps p.tables e below (s₁.setTop (mkF m 23 #[.val (.int p0), .val (.int v2), .val (.int v5), .val (.int v8), .unset, .unset, .unset, .unset] [])) _
          refine XS.iconst X0.here hx rfl (hb hby at_23) ?_
          show Steps p.tables e below (s₁.setTop (mkF m 24 #[.val (.int p0), .val (.int v2), .val (.int v5), .val (.int v8), .unset, .unset, .unset, .unset] [(.int (1 : Int32))])) _
          refine XS.goto X0.here hx rfl (pc0 := 24) (pc' := 28) rfl (hb hby at_24) (by decide) (by decide) ?_
          exact k)⟩
      · exact ⟨(0 : Int32), (by rw [if_neg hc11, if_neg hc13]), fun t k => pre12 t (by
          show Steps p.tables e below (s₁.setTop (mkF m 20 #[.val (.int p0), .val (.int v2), .val (.int v5), .val (.int v8), .unset, .unset, .unset, .unset] [(.int (10 : Int32)), (.int v8)])) _
          refine XS.icmpYes X0.here hx rfl (pc0 := 20) (pc' := 27) rfl (hb hby at_20) rfl (flt hc13).2.1 (by decide) (by decide) ?_
          show Steps p.tables e below (s₁.setTop (mkF m 27 #[.val (.int p0), .val (.int v2), .val (.int v5), .val (.int v8), .unset, .unset, .unset, .unset] [])) _
          refine XS.iconst X0.here hx rfl (hb hby at_27) ?_
          exact k)⟩
  have pre16 : ∀ t, Steps p.tables e below (s₁.setTop (mkF m 37 #[.val (.int p0), .val (.int v2), .val (.int v5), .val (.int v8), .val (.int j14), .unset, .unset, .unset] [(.int ((v2 ||| (32 : Int32)) - (97 : Int32)))])) t → Steps p.tables e below (s₁.setTop (entryFrame m #[(.int p0)] maxLocals)) t := fun t k => pre15 t (by
    show Steps p.tables e below (s₁.setTop (mkF m 28 #[.val (.int p0), .val (.int v2), .val (.int v5), .val (.int v8), .unset, .unset, .unset, .unset] [(.int j14)])) _
    refine XS.istore X0.here hx rfl (hb hby at_28) rfl (l' := #[.val (.int p0), .val (.int v2), .val (.int v5), .val (.int v8), .val (.int j14), .unset, .unset, .unset]) rfl ?_
    show Steps p.tables e below (s₁.setTop (mkF m 30 #[.val (.int p0), .val (.int v2), .val (.int v5), .val (.int v8), .val (.int j14), .unset, .unset, .unset] [])) _
    refine XS.iloadN X0.here hx rfl (hb hby at_30) rfl ?_
    show Steps p.tables e below (s₁.setTop (mkF m 31 #[.val (.int p0), .val (.int v2), .val (.int v5), .val (.int v8), .val (.int j14), .unset, .unset, .unset] [(.int v2)])) _
    refine XS.bipush X0.here hx rfl (hb hby at_31) ?_
    show Steps p.tables e below (s₁.setTop (mkF m 33 #[.val (.int p0), .val (.int v2), .val (.int v5), .val (.int v8), .val (.int j14), .unset, .unset, .unset] [(.int (32 : Int32)), (.int v2)])) _
    refine XS.ior X0.here hx rfl (hb hby at_33) rfl ?_
    show Steps p.tables e below (s₁.setTop (mkF m 34 #[.val (.int p0), .val (.int v2), .val (.int v5), .val (.int v8), .val (.int j14), .unset, .unset, .unset] [(.int (v2 ||| (32 : Int32)))])) _
    refine XS.bipush X0.here hx rfl (hb hby at_34) ?_
    show Steps p.tables e below (s₁.setTop (mkF m 36 #[.val (.int p0), .val (.int v2), .val (.int v5), .val (.int v8), .val (.int j14), .unset, .unset, .unset] [(.int (97 : Int32)), (.int (v2 ||| (32 : Int32)))])) _
    refine XS.isub X0.here hx rfl (hb hby at_36) rfl ?_
    exact k)
  obtain ⟨v17, hv17⟩ : ∃ z : Int32, z = ((v2 ||| (32 : Int32)) - (97 : Int32)) := ⟨_, rfl⟩
  have pre18 : ∀ t, Steps p.tables e below (s₁.setTop (mkF m 37 #[.val (.int p0), .val (.int v2), .val (.int v5), .val (.int v8), .val (.int j14), .unset, .unset, .unset] [(.int v17)])) t → Steps p.tables e below (s₁.setTop (entryFrame m #[(.int p0)] maxLocals)) t := fun t k => pre16 t (by rw [hv17] at k; exact k)
  have pre19 : ∀ t, Steps p.tables e below (s₁.setTop (mkF m 41 #[.val (.int p0), .val (.int v2), .val (.int v5), .val (.int v8), .val (.int j14), .val (.int v17), .unset, .unset] [(.int v17)])) t → Steps p.tables e below (s₁.setTop (entryFrame m #[(.int p0)] maxLocals)) t := fun t k => pre18 t (by
    show Steps p.tables e below (s₁.setTop (mkF m 37 #[.val (.int p0), .val (.int v2), .val (.int v5), .val (.int v8), .val (.int j14), .unset, .unset, .unset] [(.int v17)])) _
    refine XS.istore X0.here hx rfl (hb hby at_37) rfl (l' := #[.val (.int p0), .val (.int v2), .val (.int v5), .val (.int v8), .val (.int j14), .val (.int v17), .unset, .unset]) rfl ?_
    show Steps p.tables e below (s₁.setTop (mkF m 39 #[.val (.int p0), .val (.int v2), .val (.int v5), .val (.int v8), .val (.int j14), .val (.int v17), .unset, .unset] [])) _
    refine XS.iload X0.here hx rfl (hb hby at_39) rfl ?_
    exact k)
  obtain ⟨j23, hj23, pre24⟩ : ∃ (j23 : Int32), j23 = (if v17 < (0 : Int32) then (0 : Int32) else (if v17 < (26 : Int32) then (1 : Int32) else (0 : Int32))) ∧ ∀ t, Steps p.tables e below (s₁.setTop (mkF m 56 #[.val (.int p0), .val (.int v2), .val (.int v5), .val (.int v8), .val (.int j14), .val (.int v17), .unset, .unset] [(.int j23)])) t → Steps p.tables e below (s₁.setTop (entryFrame m #[(.int p0)] maxLocals)) t := by
    by_cases hc20 : v17 < (0 : Int32)
    · exact ⟨(0 : Int32), (by rw [if_pos hc20]), fun t k => pre19 t (by
        show Steps p.tables e below (s₁.setTop (mkF m 41 #[.val (.int p0), .val (.int v2), .val (.int v5), .val (.int v8), .val (.int j14), .val (.int v17), .unset, .unset] [(.int v17)])) _
        refine XS.ifYes X0.here hx rfl (pc0 := 41) (pc' := 55) rfl (hb hby at_41) rfl ((if0 _ _).trans (tlt hc20).1) (by decide) (by decide) ?_
        show Steps p.tables e below (s₁.setTop (mkF m 55 #[.val (.int p0), .val (.int v2), .val (.int v5), .val (.int v8), .val (.int j14), .val (.int v17), .unset, .unset] [])) _
        refine XS.iconst X0.here hx rfl (hb hby at_55) ?_
        exact k)⟩
    · have pre21 : ∀ t, Steps p.tables e below (s₁.setTop (mkF m 48 #[.val (.int p0), .val (.int v2), .val (.int v5), .val (.int v8), .val (.int j14), .val (.int v17), .unset, .unset] [(.int (26 : Int32)), (.int v17)])) t → Steps p.tables e below (s₁.setTop (entryFrame m #[(.int p0)] maxLocals)) t := fun t k => pre19 t (by
        show Steps p.tables e below (s₁.setTop (mkF m 41 #[.val (.int p0), .val (.int v2), .val (.int v5), .val (.int v8), .val (.int j14), .val (.int v17), .unset, .unset] [(.int v17)])) _
        refine XS.ifNo X0.here hx rfl (hb hby at_41) rfl ((if0 _ _).trans (flt hc20).1) ?_
        show Steps p.tables e below (s₁.setTop (mkF m 44 #[.val (.int p0), .val (.int v2), .val (.int v5), .val (.int v8), .val (.int j14), .val (.int v17), .unset, .unset] [])) _
        refine XS.iload X0.here hx rfl (hb hby at_44) rfl ?_
        show Steps p.tables e below (s₁.setTop (mkF m 46 #[.val (.int p0), .val (.int v2), .val (.int v5), .val (.int v8), .val (.int j14), .val (.int v17), .unset, .unset] [(.int v17)])) _
        refine XS.bipush X0.here hx rfl (hb hby at_46) ?_
        exact k)
      by_cases hc22 : v17 < (26 : Int32)
      · exact ⟨(1 : Int32), (by rw [if_neg hc20, if_pos hc22]), fun t k => pre21 t (by
          show Steps p.tables e below (s₁.setTop (mkF m 48 #[.val (.int p0), .val (.int v2), .val (.int v5), .val (.int v8), .val (.int j14), .val (.int v17), .unset, .unset] [(.int (26 : Int32)), (.int v17)])) _
          refine XS.icmpNo X0.here hx rfl (hb hby at_48) rfl (tlt hc22).2.1 ?_
          show Steps p.tables e below (s₁.setTop (mkF m 51 #[.val (.int p0), .val (.int v2), .val (.int v5), .val (.int v8), .val (.int j14), .val (.int v17), .unset, .unset] [])) _
          refine XS.iconst X0.here hx rfl (hb hby at_51) ?_
          show Steps p.tables e below (s₁.setTop (mkF m 52 #[.val (.int p0), .val (.int v2), .val (.int v5), .val (.int v8), .val (.int j14), .val (.int v17), .unset, .unset] [(.int (1 : Int32))])) _
          refine XS.goto X0.here hx rfl (pc0 := 52) (pc' := 56) rfl (hb hby at_52) (by decide) (by decide) ?_
          exact k)⟩
      · exact ⟨(0 : Int32), (by rw [if_neg hc20, if_neg hc22]), fun t k => pre21 t (by
          show Steps p.tables e below (s₁.setTop (mkF m 48 #[.val (.int p0), .val (.int v2), .val (.int v5), .val (.int v8), .val (.int j14), .val (.int v17), .unset, .unset] [(.int (26 : Int32)), (.int v17)])) _
          refine XS.icmpYes X0.here hx rfl (pc0 := 48) (pc' := 55) rfl (hb hby at_48) rfl (flt hc22).2.1 (by decide) (by decide) ?_
          show Steps p.tables e below (s₁.setTop (mkF m 55 #[.val (.int p0), .val (.int v2), .val (.int v5), .val (.int v8), .val (.int j14), .val (.int v17), .unset, .unset] [])) _
          refine XS.iconst X0.here hx rfl (hb hby at_55) ?_
          exact k)⟩
  have pre25 : ∀ t, Steps p.tables e below (s₁.setTop (mkF m 60 #[.val (.int p0), .val (.int v2), .val (.int v5), .val (.int v8), .val (.int j14), .val (.int v17), .val (.int j23), .unset] [(.int j14)])) t → Steps p.tables e below (s₁.setTop (entryFrame m #[(.int p0)] maxLocals)) t := fun t k => pre24 t (by
    show Steps p.tables e below (s₁.setTop (mkF m 56 #[.val (.int p0), .val (.int v2), .val (.int v5), .val (.int v8), .val (.int j14), .val (.int v17), .unset, .unset] [(.int j23)])) _
    refine XS.istore X0.here hx rfl (hb hby at_56) rfl (l' := #[.val (.int p0), .val (.int v2), .val (.int v5), .val (.int v8), .val (.int j14), .val (.int v17), .val (.int j23), .unset]) rfl ?_
    show Steps p.tables e below (s₁.setTop (mkF m 58 #[.val (.int p0), .val (.int v2), .val (.int v5), .val (.int v8), .val (.int j14), .val (.int v17), .val (.int j23), .unset] [])) _
    refine XS.iload X0.here hx rfl (hb hby at_58) rfl ?_
    exact k)
  obtain ⟨j33, hj33, pre34⟩ : ∃ (j33 : Int32), j33 = (if j14 = (0 : Int32) then (if j23 = (0 : Int32) then (if v2 = (95 : Int32) then (1 : Int32) else (if v2 = (45 : Int32) then (1 : Int32) else (0 : Int32))) else (1 : Int32)) else (1 : Int32)) ∧ ∀ t, Steps p.tables e below (s₁.setTop (mkF m 85 #[.val (.int p0), .val (.int v2), .val (.int v5), .val (.int v8), .val (.int j14), .val (.int v17), .val (.int j23), .unset] [(.int j33)])) t → Steps p.tables e below (s₁.setTop (entryFrame m #[(.int p0)] maxLocals)) t := by
    by_cases hc26 : j14 = (0 : Int32)
    · have pre27 : ∀ t, Steps p.tables e below (s₁.setTop (mkF m 65 #[.val (.int p0), .val (.int v2), .val (.int v5), .val (.int v8), .val (.int j14), .val (.int v17), .val (.int j23), .unset] [(.int j23)])) t → Steps p.tables e below (s₁.setTop (entryFrame m #[(.int p0)] maxLocals)) t := fun t k => pre25 t (by
        show Steps p.tables e below (s₁.setTop (mkF m 60 #[.val (.int p0), .val (.int v2), .val (.int v5), .val (.int v8), .val (.int j14), .val (.int v17), .val (.int j23), .unset] [(.int j14)])) _
        refine XS.ifNo X0.here hx rfl (hb hby at_60) rfl ((if0 _ _).trans (teq hc26).2) ?_
        show Steps p.tables e below (s₁.setTop (mkF m 63 #[.val (.int p0), .val (.int v2), .val (.int v5), .val (.int v8), .val (.int j14), .val (.int v17), .val (.int j23), .unset] [])) _
        refine XS.iload X0.here hx rfl (hb hby at_63) rfl ?_
        exact k)
      by_cases hc28 : j23 = (0 : Int32)
      · have pre29 : ∀ t, Steps p.tables e below (s₁.setTop (mkF m 71 #[.val (.int p0), .val (.int v2), .val (.int v5), .val (.int v8), .val (.int j14), .val (.int v17), .val (.int j23), .unset] [(.int (95 : Int32)), (.int v2)])) t → Steps p.tables e below (s₁.setTop (entryFrame m #[(.int p0)] maxLocals)) t := fun t k => pre27 t (by
          show Steps p.tables e below (s₁.setTop (mkF m 65 #[.val (.int p0), .val (.int v2), .val (.int v5), .val (.int v8), .val (.int j14), .val (.int v17), .val (.int j23), .unset] [(.int j23)])) _
          refine XS.ifNo X0.here hx rfl (hb hby at_65) rfl ((if0 _ _).trans (teq hc28).2) ?_
          show Steps p.tables e below (s₁.setTop (mkF m 68 #[.val (.int p0), .val (.int v2), .val (.int v5), .val (.int v8), .val (.int j14), .val (.int v17), .val (.int j23), .unset] [])) _
          refine XS.iloadN X0.here hx rfl (hb hby at_68) rfl ?_
          show Steps p.tables e below (s₁.setTop (mkF m 69 #[.val (.int p0), .val (.int v2), .val (.int v5), .val (.int v8), .val (.int j14), .val (.int v17), .val (.int j23), .unset] [(.int v2)])) _
          refine XS.bipush X0.here hx rfl (hb hby at_69) ?_
          exact k)
        by_cases hc30 : v2 = (95 : Int32)
        · exact ⟨(1 : Int32), (by rw [if_pos hc26, if_pos hc28, if_pos hc30]), fun t k => pre29 t (by
            show Steps p.tables e below (s₁.setTop (mkF m 71 #[.val (.int p0), .val (.int v2), .val (.int v5), .val (.int v8), .val (.int j14), .val (.int v17), .val (.int j23), .unset] [(.int (95 : Int32)), (.int v2)])) _
            refine XS.icmpYes X0.here hx rfl (pc0 := 71) (pc' := 80) rfl (hb hby at_71) rfl (teq hc30).1 (by decide) (by decide) ?_
            show Steps p.tables e below (s₁.setTop (mkF m 80 #[.val (.int p0), .val (.int v2), .val (.int v5), .val (.int v8), .val (.int j14), .val (.int v17), .val (.int j23), .unset] [])) _
            refine XS.iconst X0.here hx rfl (hb hby at_80) ?_
            show Steps p.tables e below (s₁.setTop (mkF m 81 #[.val (.int p0), .val (.int v2), .val (.int v5), .val (.int v8), .val (.int j14), .val (.int v17), .val (.int j23), .unset] [(.int (1 : Int32))])) _
            refine XS.goto X0.here hx rfl (pc0 := 81) (pc' := 85) rfl (hb hby at_81) (by decide) (by decide) ?_
            exact k)⟩
        · have pre31 : ∀ t, Steps p.tables e below (s₁.setTop (mkF m 77 #[.val (.int p0), .val (.int v2), .val (.int v5), .val (.int v8), .val (.int j14), .val (.int v17), .val (.int j23), .unset] [(.int (45 : Int32)), (.int v2)])) t → Steps p.tables e below (s₁.setTop (entryFrame m #[(.int p0)] maxLocals)) t := fun t k => pre29 t (by
            show Steps p.tables e below (s₁.setTop (mkF m 71 #[.val (.int p0), .val (.int v2), .val (.int v5), .val (.int v8), .val (.int j14), .val (.int v17), .val (.int j23), .unset] [(.int (95 : Int32)), (.int v2)])) _
            refine XS.icmpNo X0.here hx rfl (hb hby at_71) rfl (feq hc30).1 ?_
            show Steps p.tables e below (s₁.setTop (mkF m 74 #[.val (.int p0), .val (.int v2), .val (.int v5), .val (.int v8), .val (.int j14), .val (.int v17), .val (.int j23), .unset] [])) _
            refine XS.iloadN X0.here hx rfl (hb hby at_74) rfl ?_
            show Steps p.tables e below (s₁.setTop (mkF m 75 #[.val (.int p0), .val (.int v2), .val (.int v5), .val (.int v8), .val (.int j14), .val (.int v17), .val (.int j23), .unset] [(.int v2)])) _
            refine XS.bipush X0.here hx rfl (hb hby at_75) ?_
            exact k)
          by_cases hc32 : v2 = (45 : Int32)
          · exact ⟨(1 : Int32), (by rw [if_pos hc26, if_pos hc28, if_neg hc30, if_pos hc32]), fun t k => pre31 t (by
              show Steps p.tables e below (s₁.setTop (mkF m 77 #[.val (.int p0), .val (.int v2), .val (.int v5), .val (.int v8), .val (.int j14), .val (.int v17), .val (.int j23), .unset] [(.int (45 : Int32)), (.int v2)])) _
              refine XS.icmpNo X0.here hx rfl (hb hby at_77) rfl (teq hc32).2 ?_
              show Steps p.tables e below (s₁.setTop (mkF m 80 #[.val (.int p0), .val (.int v2), .val (.int v5), .val (.int v8), .val (.int j14), .val (.int v17), .val (.int j23), .unset] [])) _
              refine XS.iconst X0.here hx rfl (hb hby at_80) ?_
              show Steps p.tables e below (s₁.setTop (mkF m 81 #[.val (.int p0), .val (.int v2), .val (.int v5), .val (.int v8), .val (.int j14), .val (.int v17), .val (.int j23), .unset] [(.int (1 : Int32))])) _
              refine XS.goto X0.here hx rfl (pc0 := 81) (pc' := 85) rfl (hb hby at_81) (by decide) (by decide) ?_
              exact k)⟩
          · exact ⟨(0 : Int32), (by rw [if_pos hc26, if_pos hc28, if_neg hc30, if_neg hc32]), fun t k => pre31 t (by
              show Steps p.tables e below (s₁.setTop (mkF m 77 #[.val (.int p0), .val (.int v2), .val (.int v5), .val (.int v8), .val (.int j14), .val (.int v17), .val (.int j23), .unset] [(.int (45 : Int32)), (.int v2)])) _
              refine XS.icmpYes X0.here hx rfl (pc0 := 77) (pc' := 84) rfl (hb hby at_77) rfl (feq hc32).2 (by decide) (by decide) ?_
              show Steps p.tables e below (s₁.setTop (mkF m 84 #[.val (.int p0), .val (.int v2), .val (.int v5), .val (.int v8), .val (.int j14), .val (.int v17), .val (.int j23), .unset] [])) _
              refine XS.iconst X0.here hx rfl (hb hby at_84) ?_
              exact k)⟩
      · exact ⟨(1 : Int32), (by rw [if_pos hc26, if_neg hc28]), fun t k => pre27 t (by
          show Steps p.tables e below (s₁.setTop (mkF m 65 #[.val (.int p0), .val (.int v2), .val (.int v5), .val (.int v8), .val (.int j14), .val (.int v17), .val (.int j23), .unset] [(.int j23)])) _
          refine XS.ifYes X0.here hx rfl (pc0 := 65) (pc' := 80) rfl (hb hby at_65) rfl ((if0 _ _).trans (feq hc28).2) (by decide) (by decide) ?_
          show Steps p.tables e below (s₁.setTop (mkF m 80 #[.val (.int p0), .val (.int v2), .val (.int v5), .val (.int v8), .val (.int j14), .val (.int v17), .val (.int j23), .unset] [])) _
          refine XS.iconst X0.here hx rfl (hb hby at_80) ?_
          show Steps p.tables e below (s₁.setTop (mkF m 81 #[.val (.int p0), .val (.int v2), .val (.int v5), .val (.int v8), .val (.int j14), .val (.int v17), .val (.int j23), .unset] [(.int (1 : Int32))])) _
          refine XS.goto X0.here hx rfl (pc0 := 81) (pc' := 85) rfl (hb hby at_81) (by decide) (by decide) ?_
          exact k)⟩
    · exact ⟨(1 : Int32), (by rw [if_neg hc26]), fun t k => pre25 t (by
        show Steps p.tables e below (s₁.setTop (mkF m 60 #[.val (.int p0), .val (.int v2), .val (.int v5), .val (.int v8), .val (.int j14), .val (.int v17), .val (.int j23), .unset] [(.int j14)])) _
        refine XS.ifYes X0.here hx rfl (pc0 := 60) (pc' := 80) rfl (hb hby at_60) rfl ((if0 _ _).trans (feq hc26).2) (by decide) (by decide) ?_
        show Steps p.tables e below (s₁.setTop (mkF m 80 #[.val (.int p0), .val (.int v2), .val (.int v5), .val (.int v8), .val (.int j14), .val (.int v17), .val (.int j23), .unset] [])) _
        refine XS.iconst X0.here hx rfl (hb hby at_80) ?_
        show Steps p.tables e below (s₁.setTop (mkF m 81 #[.val (.int p0), .val (.int v2), .val (.int v5), .val (.int v8), .val (.int j14), .val (.int v17), .val (.int j23), .unset] [(.int (1 : Int32))])) _
        refine XS.goto X0.here hx rfl (pc0 := 81) (pc' := 85) rfl (hb hby at_81) (by decide) (by decide) ?_
        exact k)⟩
  have pre35 : ∀ t, Steps p.tables e below (s₁.setTop (mkF m 88 #[.val (.int p0), .val (.int v2), .val (.int v5), .val (.int v8), .val (.int j14), .val (.int v17), .val (.int j23), .val (.int j33)] [(.int v5)])) t → Steps p.tables e below (s₁.setTop (entryFrame m #[(.int p0)] maxLocals)) t := fun t k => pre34 t (by
    show Steps p.tables e below (s₁.setTop (mkF m 85 #[.val (.int p0), .val (.int v2), .val (.int v5), .val (.int v8), .val (.int j14), .val (.int v17), .val (.int j23), .unset] [(.int j33)])) _
    refine XS.istore X0.here hx rfl (hb hby at_85) rfl (l' := #[.val (.int p0), .val (.int v2), .val (.int v5), .val (.int v8), .val (.int j14), .val (.int v17), .val (.int j23), .val (.int j33)]) rfl ?_
    show Steps p.tables e below (s₁.setTop (mkF m 87 #[.val (.int p0), .val (.int v2), .val (.int v5), .val (.int v8), .val (.int j14), .val (.int v17), .val (.int j23), .val (.int j33)] [])) _
    refine XS.iloadN X0.here hx rfl (hb hby at_87) rfl ?_
    exact k)
  obtain ⟨_, _, ⟨T36, L36, k36, n36⟩, -, X36, ⟨Lc36, hQ36, l36, y36, z36⟩, st36⟩ := Jvm.LawKit.callS X0 hx (y := (⟨"com/example/hyperslab/hyperslab/dap2/DapText", "isPlain", "(C)Z"⟩ : MethodName)) hown (mvT hZ (hw _ (List.mem_of_getElem? (i := 1) rfl))) (mvT hZ (hw _ (List.mem_of_getElem? (i := 2) rfl))) (mvT hZ (hw _ (List.mem_of_getElem? (i := 3) rfl))) (mvT hZ (hw _ (List.mem_of_getElem? (i := 4) rfl))) (by decide) (backOf (W := 0) (rm1 l Z aw hw [] v5 h0 n0 Z0) hZ (hw _ (List.mem_of_getElem? (i := 4) rfl)) (hw _ (List.mem_of_getElem? (i := 3) rfl)) (by decide) (by decide)) (g := (mkF m 88 #[.val (.int p0), .val (.int v2), .val (.int v5), .val (.int v8), .val (.int j14), .val (.int v17), .val (.int j23), .val (.int j33)] [(.int v5)])) rfl (by rw [hml]; rfl) (argsL := [(.int v5)]) (rest := []) (lenOf pd_0 rfl) rfl (by show 2 * 0 + _ ≤ _; exact Nat.le_of_eq rfl) (hb hby at_88) (fun _ _ => ⟨rfl, e0, (by decide : 0 + 0 ≤ _), (by decide : 0 + 0 ≤ _)⟩)
  dsimp only [Pt.U, Pt.locs, Pt.cells, Pt.slots] at X36 l36 y36 z36 st36 hQ36
  subst l36 y36 z36
  obtain ⟨rfl, N36q, e36⟩ := hQ36
  have N36 := Fr.app N0 N36q
  have pre37 : ∀ t, Steps p.tables e below (T36.setTop (mkF m 93 #[.val (.int p0), .val (.int v2), .val (.int v5), .val (.int v8), .val (.int j14), .val (.int v17), .val (.int j23), .val (.int j33)] [(.int j33), (.int (f1 v5))])) t → Steps p.tables e below (s₁.setTop (entryFrame m #[(.int p0)] maxLocals)) t := fun t k => pre35 t (by
    show Steps p.tables e below (s₁.setTop (mkF m 88 #[.val (.int p0), .val (.int v2), .val (.int v5), .val (.int v8), .val (.int j14), .val (.int v17), .val (.int j23), .val (.int j33)] [(.int v5)])) _
    refine st36 _ ?_
    show Steps p.tables e below (T36.setTop (mkF m 91 #[.val (.int p0), .val (.int v2), .val (.int v5), .val (.int v8), .val (.int j14), .val (.int v17), .val (.int j23), .val (.int j33)] [(.int (f1 v5))])) _
    refine XS.iload X36.here hx rfl (hb hby at_91) rfl ?_
    exact k)
  obtain ⟨j39, hj39, pre40⟩ : ∃ (j39 : Int32), j39 = (if (f1 v5) = j33 then (1 : Int32) else (0 : Int32)) ∧ ∀ t, Steps p.tables e below (T36.setTop (mkF m 101 #[.val (.int p0), .val (.int v2), .val (.int v5), .val (.int v8), .val (.int j14), .val (.int v17), .val (.int j23), .val (.int j33)] [(.int j39)])) t → Steps p.tables e below (s₁.setTop (entryFrame m #[(.int p0)] maxLocals)) t := by
    by_cases hc38 : (f1 v5) = j33
    · exact ⟨(1 : Int32), (by rw [if_pos hc38]), fun t k => pre37 t (by
        show Steps p.tables e below (T36.setTop (mkF m 93 #[.val (.int p0), .val (.int v2), .val (.int v5), .val (.int v8), .val (.int j14), .val (.int v17), .val (.int j23), .val (.int j33)] [(.int j33), (.int (f1 v5))])) _
        refine XS.icmpNo X36.here hx rfl (hb hby at_93) rfl (teq hc38).2 ?_
        show Steps p.tables e below (T36.setTop (mkF m 96 #[.val (.int p0), .val (.int v2), .val (.int v5), .val (.int v8), .val (.int j14), .val (.int v17), .val (.int j23), .val (.int j33)] [])) _
        refine XS.iconst X36.here hx rfl (hb hby at_96) ?_
        show Steps p.tables e below (T36.setTop (mkF m 97 #[.val (.int p0), .val (.int v2), .val (.int v5), .val (.int v8), .val (.int j14), .val (.int v17), .val (.int j23), .val (.int j33)] [(.int (1 : Int32))])) _
        refine XS.goto X36.here hx rfl (pc0 := 97) (pc' := 101) rfl (hb hby at_97) (by decide) (by decide) ?_
        exact k)⟩
    · exact ⟨(0 : Int32), (by rw [if_neg hc38]), fun t k => pre37 t (by
        show Steps p.tables e below (T36.setTop (mkF m 93 #[.val (.int p0), .val (.int v2), .val (.int v5), .val (.int v8), .val (.int j14), .val (.int v17), .val (.int j23), .val (.int j33)] [(.int j33), (.int (f1 v5))])) _
        refine XS.icmpYes X36.here hx rfl (pc0 := 93) (pc' := 100) rfl (hb hby at_93) rfl (feq hc38).2 (by decide) (by decide) ?_
        show Steps p.tables e below (T36.setTop (mkF m 100 #[.val (.int p0), .val (.int v2), .val (.int v5), .val (.int v8), .val (.int j14), .val (.int v17), .val (.int j23), .val (.int j33)] [])) _
        refine XS.iconst X36.here hx rfl (hb hby at_100) ?_
        exact k)⟩
  obtain ⟨fs, hr, hrun, hended, hW, hsame⟩ := X36.leave (v := some (.int (nar .boolean j39))) (fun h => by rw [Bd.returns] at h; cases h)
  refine ⟨_, _, pre40 _ ?_, hrun, hended, _, _, rfl, ?_, ⟨_, rfl⟩, hW, hsame.mono (by decide) (by decide)⟩
  · show Steps p.tables e below (T36.setTop (mkF m 101 #[.val (.int p0), .val (.int v2), .val (.int v5), .val (.int v8), .val (.int j14), .val (.int v17), .val (.int j23), .val (.int j33)] [(.int j39)])) _
    exact retN X36 hx (t := .boolean) Bd.returns (by simp) (hb hby at_101) hr
  · show Q0 Z p0 h0 n0 _ T36.heap _
    rw [e36]
    have hv : (nar .boolean j39) = f0 p0 := (by subst hj39 hj33 hj23 hv17 hj14 hv8 hv5 hv2; rfl)
    exact ⟨congrArg (fun z => some (Value.int z)) (hv.trans hlaw), N36⟩
theorem own_nor (n : Nat) : n ||| 32 = n + (if n / 32 % 2 = 0 then 32 else 0) := by
  have hd : (n ||| 32) / 2 ^ 6 = n / 2 ^ 6 := by rw [Nat.or_div_two_pow]; simp
  have hm : (n ||| 32) % 2 ^ 6 = (n % 2 ^ 6) ||| 32 := by rw [Nat.or_mod_two_pow]
  have hf : ∀ b : Fin 64, (b.val ||| 32) = b.val + (if b.val / 32 % 2 = 0 then 32 else 0) := by decide
  have hb := hf ⟨n % 64, Nat.mod_lt _ (by decide)⟩
  have e1 : n % 64 / 32 % 2 = n / 32 % 2 := by omega
  simp only [e1] at hb
  have p : (2 : Nat) ^ 6 = 64 := by decide
  rw [p] at hd hm
  rw [hb] at hm
  split at hm <;> rename_i q <;> simp only [q, if_true, if_false] <;> omega
theorem own_or32 (x : Int32) (h : 0 ≤ x.toInt) : (x ||| (32 : Int32)).toInt = x.toInt + (if x.toInt / 32 % 2 = 0 then 32 else 0) := by
  have hx : (x.toBitVec.toNat : Int) = x.toInt := by
    have e : x.toInt = x.toBitVec.toInt := rfl
    rw [e] at h ⊢
    have := x.toBitVec.toInt_eq_toNat_cond
    have := x.toBitVec.isLt
    split at * <;> omega
  have e : (x ||| (32 : Int32)).toInt = (x.toBitVec ||| 32#32).toInt := rfl
  have e2 : (x.toBitVec ||| 32#32).toNat = x.toBitVec.toNat ||| 32 := by rw [BitVec.toNat_or]; rfl
  have hr := rng32 x
  rw [own_nor] at e2
  have c := (x.toBitVec ||| 32#32).toInt_eq_toNat_cond
  rw [e, c, e2]
  have hn : (x.toBitVec.toNat / 32 % 2 = 0) ↔ (x.toInt / 32 % 2 = 0) := by omega
  by_cases q : x.toBitVec.toNat / 32 % 2 = 0
  · rw [if_pos q, if_pos (hn.mp q)]; split <;> omega
  · rw [if_neg q, if_neg (fun z => q (hn.mpr z))]; split <;> omega
theorem own_b0 (Q : Prop) [Decidable Q] : ((if Q then (1 : Int32) else (0 : Int32)) = 0) ↔ ¬ Q := by
  by_cases q : Q
  · simp only [if_pos q]; exact ⟨fun h => absurd h (by decide), fun h => absurd q h⟩
  · simp only [if_neg q]; exact ⟨fun _ => q, fun _ => trivial⟩
theorem own_p (c : Int32) : f1 c = if ((65 ≤ c.toInt ∧ c.toInt ≤ 90) ∨ (97 ≤ c.toInt ∧ c.toInt ≤ 122) ∨ (48 ≤ c.toInt ∧ c.toInt ≤ 57) ∨ c.toInt = 95 ∨ c.toInt = 45) then 1 else 0 := by
  have k1 : (65 : Int32).toInt = 65 := by decide
  have k2 : (97 : Int32).toInt = 97 := by decide
  have k3 : (48 : Int32).toInt = 48 := by decide
  have k4 : (57 : Int32).toInt = 57 := by decide
  have k5 : (95 : Int32).toInt = 95 := by decide
  have k6 : (45 : Int32).toInt = 45 := by decide
  have k7 : (122 : Int32).toInt = 122 := by decide
  have k8 : (90 : Int32).toInt = 90 := by decide
  unfold f1
  simp only [Int32.lt_iff_toInt_lt, ← Int32.toInt_inj, k1, k2, k3, k4, k5, k6, k7, k8]
  generalize c.toInt = x
  repeat' split
  all_goals first | rfl | omega
theorem own_law (p0 : Int32) : f0 p0 = 1 := by
  have m := c_mask p0 65535 16 (by decide) (by decide)
  have k : ((2 ^ 16 : Nat) : Int) = 65536 := by decide
  rw [k] at m
  unfold f0
  dsimp only
  generalize (p0 &&& (65535 : Int32)) = c at *
  have hc0 : 0 ≤ c.toInt := by omega
  have hc1 : c.toInt < 65536 := by omega
  have i := c_i2c c
  have o := own_or32 c hc0
  have s1 := c_isub c 48
  have s2 := c_isub (c ||| (32 : Int32)) 97
  have r1 := rng32 (c - 48)
  have r2 := rng32 ((c ||| (32 : Int32)) - 97)
  have k1 : (48 : Int32).toInt = 48 := by decide
  have k2 : (97 : Int32).toInt = 97 := by decide
  have k3 : (0 : Int32).toInt = 0 := by decide
  have k4 : (10 : Int32).toInt = 10 := by decide
  have k5 : (26 : Int32).toInt = 26 := by decide
  have k6 : (95 : Int32).toInt = 95 := by decide
  have k7 : (45 : Int32).toInt = 45 := by decide
  rw [own_p]
  have e1 : (if (c - 48) < (0 : Int32) then (0 : Int32) else (if (c - 48) < (10 : Int32) then (1 : Int32) else (0 : Int32))) = if (48 ≤ c.toInt ∧ c.toInt ≤ 57) then 1 else 0 := by
    simp only [Int32.lt_iff_toInt_lt, k3, k4]
    repeat' split
    all_goals first | rfl | omega
  have e2 : (if ((c ||| (32 : Int32)) - 97) < (0 : Int32) then (0 : Int32) else (if ((c ||| (32 : Int32)) - 97) < (26 : Int32) then (1 : Int32) else (0 : Int32))) = if ((65 ≤ c.toInt ∧ c.toInt ≤ 90) ∨ (97 ≤ c.toInt ∧ c.toInt ≤ 122)) then 1 else 0 := by
    simp only [Int32.lt_iff_toInt_lt, k3, k5]
    split at o <;> (repeat' split) <;> first | rfl | omega
  rw [e1, e2]
  have e3 : c.toUInt32.toUInt16.toUInt32.toInt32.toInt = c.toInt := by omega
  rw [e3]
  simp only [own_b0]
  simp only [← Int32.toInt_inj, k6, k7]
  generalize c.toInt = x at *
  repeat' split
  all_goals first | rfl | omega

set_option maxRecDepth 65536 in
set_option maxHeartbeats 40000000 in
theorem comes_1 {Post : Tables → Env → Array Value → State → Outcome → State → Prop} (hpost : ∀ tb e args s v u, (limb_1_1.after args s (.returned v) u = true ∧ limb_1_2.after args s (.returned v) u = true ∧ True) → FrameEnd s (.returned v) u (Jvm.fieldLocs frame_1_writes args s ++ Jvm.arrayLocs frame_1_arrays args s ++ Jvm.staticLocs frame_1_statics s) 0 0 → Post tb e args s (.returned v) u) :
    ArmFor flags0 classFile x code maxLocals ret World_1 tables_1 room_1 Calls_1 rest_1 Pre_1 Post := by
  intro l hfl _ _ p e ha hc hk s m args below hf hA hF happ hP
  obtain ⟨hcalls, hrest, hpre⟩ := hP
  obtain ⟨-, -, -, hnamed, -, -, -, hat⟩ := (Spec.applies_iff hf).mp happ
  obtain ⟨hg, hn⟩ := and_e (Cond.before_iff.mp (show (Jvm.Cond.and given_1 narrow_1).before args s = true from hpre))
  obtain ⟨g1, g2⟩ := and_e hg
  obtain ⟨w0, rfl⟩ : ∃ w0 : Value, args = #[w0] := by
    have hs : args.size = 1 := by simpa [Cond.value, given_1] using g1
    obtain ⟨L⟩ := args
    match L, hs with
    | [w0], _ => exact ⟨w0, rfl⟩
  have hw := fun d (hd : d ∈ tables_1) => atoms_spec (ws := Jvm.Cond.code x code maxLocals ret :: tables_1) hat d (List.mem_cons_of_mem _ hd)
  have hfit : Fit s := fun {y c} hc i hi => by
    obtain ⟨ha, rfl⟩ := Array.getElem?_eq_some_iff.mp hc
    have q := List.all_eq_true.mp ((Array.all_eq_true_iff_forall_mem.mp hF) _ (Array.getElem_mem ha)) i (List.mem_range.mpr hi)
    simpa [Array.getElem?_eq_getElem hi] using q
  obtain ⟨i0, ei0⟩ := is_v g2
  obtain rfl : w0 = (.int i0) := Option.some.inj ei0
  obtain ⟨n, o, h1, h2, h3, _, L, rfl, ⟨rfl, N⟩, hq⟩ := rm0 l s _ hw tables_1 i0 s.heap s.heap.size (Nat.le_refl _) (own_law i0) p e ha hc hk s m _ below hf ((Spec.applies_iff_loose hf).mp happ).1 ⟨rfl, State.Warmed39.refl s, rfl⟩ trivial
  refine ⟨n, _, h1, h2, h3, hpost _ _ _ _ _ _ ⟨Cond.after_iff.mpr rfl, Cond.after_iff.mpr (eq_i res_at (Term.int_eval (1)) rfl), trivial⟩ ⟨hq.1, hq.2.1, (hq.2.2.sift fun y hy => Or.inr (N y hy)).mono (by decide) (by decide)⟩⟩
theorem main_1_1 : Claimed_1_1 := comes_1 fun _ _ _ _ _ _ h hF => ⟨h.1, hF⟩
theorem main_1_2 : Claimed_1_2 := comes_1 fun _ _ _ _ _ _ h hF => ⟨h.2.1, hF⟩
end Jvm.Pilot.@@N@@
namespace Jvm.Pilot.@@N@@
open Jvm Jvm.ClassFile Sem Op Lib Jvm.Free Jvm.Stand Jvm.Pilot.@@N@@.Jvm.D
/-! MADE BY PROGRAM (witnessworld.py) out of the Statement's table words and the real class files: 9 classes; the members and pool entries that the words name. The judged class is class 1, her method 1. -/
namespace start1
open Jvm.ClassFile
def u (s : String) : CpInfo := .utf8 (stringToUtf16 s)
/-- a pool by its gaps: so many unusable entries, then the entry; so many at the end -/
def gap : Nat → List CpInfo → List CpInfo
  | 0, r => r
  | n + 1, r => .unusable :: gap n r
def poolList (es : List (Nat × CpInfo)) (last : Nat) : List CpInfo := es.foldr (fun e r => gap e.1 (e.2 :: r)) (gap last [])
def pool (es : List (Nat × CpInfo)) (last : Nat) : Array CpInfo := ⟨poolList es last⟩
def fileOf (pool : Array CpInfo) (this : Nat) (attrs : Array Attribute := #[]) (ms : Array MethodInfo := #[]) (fl : Nat := 33) (sup : Nat := 0) (ifs : Array Nat := #[]) (fds : Array FieldInfo := #[]) : ClassFile where
  minorVersion := 0
  majorVersion := 65
  constantPool := pool
  accessFlags := fl
  thisClass := this
  superClass := sup
  interfaces := ifs
  fields := fds
  methods := ms
  attributes := attrs
def plain (name : String) (sup : Option ClassId) : Class where
  name := name
  kind := .ordinary
  loader := none
  accessFlags := 33
  super := sup
  interfaces := #[]
  cf := none
  fields := #[]
  methods := #[]
  instanceTypes := #[]
  staticTypes := #[]
  resolved := #[]
  callSites := []
  init := .initialized
  statics := none
  mirror := none

def pool0 : Array CpInfo := pool [(5, u "<init>"), (0, u "()V"), (1, .class_ 10), (1, u "java/lang/Object")] 113

def k0m0 : Method := { name := "<init>", desc := "()V", sig := { parameters := [], returnType := none }, accessFlags := 1, code := none }
/-- java/lang/Object -/
def k0 : Class := { plain "java/lang/Object" none with
  accessFlags := 33
  interfaces := #[]
  cf := some (fileOf pool0 8 #[] #[{ accessFlags := 1, nameIndex := 5, descriptorIndex := 6, attributes := #[] }] 33 0 #[] #[])
  fields := #[]
  methods := #[k0m0]
  instanceTypes := #[]
  staticTypes := #[]
  resolved := Array.replicate 124 none
  statics := none }

def pool1 : Array CpInfo := pool [(2, .class_ 4), (1, u "java/lang/Object"), (0, u "<init>"), (0, u "()V"), (0, .integer 65535), (0, .methodref 9 10), (0, .class_ 11), (0, .nameAndType 12 13), (0, u "com/example/hyperslab/hyperslab/dap2/DapText"), (0, u "isPlain"), (0, u "(C)Z"), (0, .class_ 15), (0, u "com/example/hyperslab/hyperslab/dap2/DapTextIsPlainPinLaw"), (2, u "law"), (0, u "(I)Z")] 3

def k1m0 : Method := { name := "<init>", desc := "()V", sig := { parameters := [], returnType := none }, accessFlags := 2, code := none }
def k1c1 : Code := { maxStack := 2, maxLocals := 8, code := code, exceptionTable := #[], attributes := #[] }
def k1m1 : Method := { name := "law", desc := "(I)Z", sig := { parameters := [.int], returnType := some .boolean }, accessFlags := 9, code := some k1c1 }
/-- com/example/hyperslab/hyperslab/dap2/DapTextIsPlainPinLaw -/
def k1 : Class := { plain "com/example/hyperslab/hyperslab/dap2/DapTextIsPlainPinLaw" (some 0) with
  accessFlags := 49
  interfaces := #[]
  cf := some (fileOf pool1 14 #[] #[{ accessFlags := 2, nameIndex := 5, descriptorIndex := 6, attributes := #[] }, { accessFlags := 9, nameIndex := 18, descriptorIndex := 19, attributes := #[] }] 49 2 #[] #[])
  fields := #[]
  methods := #[k1m0, k1m1]
  instanceTypes := #[]
  staticTypes := #[]
  resolved := Array.replicate 23 none
  statics := none }

def pool2 : Array CpInfo := pool [(2, .class_ 4), (1, u "java/lang/Object"), (0, u "<init>"), (0, u "()V"), (22, .class_ 31), (1, u "com/example/hyperslab/hyperslab/dap2/DapText"), (0, u "isPlain"), (0, u "(C)Z"), (6, u "HEX_DIGITS"), (0, u "[C")] 25

def k2m0 : Method := { name := "<init>", desc := "()V", sig := { parameters := [], returnType := none }, accessFlags := 2, code := none }
def k2c1 : Code := { maxStack := 2, maxLocals := 1, code := prog_12_method_4_code, exceptionTable := #[], attributes := #[] }
def k2m1 : Method := { name := "isPlain", desc := "(C)Z", sig := { parameters := [.char], returnType := some .boolean }, accessFlags := 9, code := some k2c1 }
/-- com/example/hyperslab/hyperslab/dap2/DapText -/
def k2 : Class := { plain "com/example/hyperslab/hyperslab/dap2/DapText" (some 0) with
  accessFlags := 33
  interfaces := #[]
  cf := some (fileOf pool2 29 #[] #[{ accessFlags := 2, nameIndex := 5, descriptorIndex := 6, attributes := #[] }, { accessFlags := 9, nameIndex := 32, descriptorIndex := 33, attributes := #[] }] 33 2 #[] #[{ accessFlags := 26, nameIndex := 40, descriptorIndex := 41, attributes := #[] }])
  fields := #[{ name := "HEX_DIGITS", type := (.array .char), accessFlags := 26, slot := 0, constantValue := 0 }]
  methods := #[k2m0, k2m1]
  instanceTypes := #[]
  staticTypes := #[(.array .char)]
  resolved := Array.replicate 67 none
  statics := none }

def pool3 : Array CpInfo := pool [(1, u "java/lang/Cloneable"), (0, .class_ 1), (0, u "java/lang/Object"), (0, .class_ 3)] 3

/-- java/lang/Cloneable -/
def k3 : Class := { plain "java/lang/Cloneable" (some 0) with
  accessFlags := 1537
  interfaces := #[]
  cf := some (fileOf pool3 2 #[] #[] 1537 4 #[] #[])
  fields := #[]
  methods := #[]
  instanceTypes := #[]
  staticTypes := #[]
  resolved := Array.replicate 8 none
  statics := none }

def pool4 : Array CpInfo := pool [(1, u "java/io/Serializable"), (0, .class_ 1), (0, u "java/lang/Object"), (0, .class_ 3)] 3

/-- java/io/Serializable -/
def k4 : Class := { plain "java/io/Serializable" (some 0) with
  accessFlags := 1537
  interfaces := #[]
  cf := some (fileOf pool4 2 #[] #[] 1537 4 #[] #[])
  fields := #[]
  methods := #[]
  instanceTypes := #[]
  staticTypes := #[]
  resolved := Array.replicate 8 none
  statics := none }

/-- the primitive byte -/
def k5 : Class := { plain "byte" none with kind := .primitive 'B', accessFlags := 0x411 }
/-- [B -/
def k6 : Class := { plain "[B" (some 0) with kind := .array 5 .byte, interfaces := #[3, 4], accessFlags := 1041 }

/-- the primitive int -/
def k7 : Class := { plain "int" none with kind := .primitive 'I', accessFlags := 0x411 }
/-- [I -/
def k8 : Class := { plain "[I" (some 0) with kind := .array 7 .int, interfaces := #[3, 4], accessFlags := 1041 }

def heap : Heap := #[]
def classes : Array Class := #[k0, k1, k2, k3, k4, k5, k6, k7, k8]
def interned : List (Array UInt16 × Addr) := []
def slotsUsed : Nat := 0
def theMethod : MethodId := ⟨1, 1⟩
def args0 : Array Value := #[.int 65]
def aboutOver (below : List Frame) : State where
  vm := { classes := classes, interned := interned.toArray }
  heap := heap
  slotsUsed := slotsUsed
  threads := #[{ frames := .invoking theMethod args0 :: below }]
def below0 : List Frame := [.native { method := ⟨0, 0⟩, args := #[] }]
def about1 : State := aboutOver below0
def p0 : Program := .bare "" "" ""
def e0 : Env := launch0.env 0 0 0
theorem w_frames : about1.frames = Frame.invoking theMethod args0 :: below0 := rfl
set_option maxRecDepth 65536 in
theorem w_args : argsFit about1.vm theMethod args0 = true := by decide +kernel
set_option maxRecDepth 65536 in
theorem w_heap : heapFits about1 = true := by decide +kernel
set_option maxRecDepth 65536 in
theorem w_runnable : about1.curStatus? = some .runnable := by decide +kernel
set_option maxRecDepth 65536 in
theorem w_alone : about1.alone = true := by decide +kernel
set_option maxRecDepth 65536 in
theorem w_named : about1.methodNamed? x = some theMethod := by decide +kernel
set_option maxRecDepth 65536 in
theorem w_hears : about1.hears theMethod below0 = true := by decide +kernel
set_option maxRecDepth 65536 in
theorem w_ripe : about1.ripe theMethod args0 below0 = true := by decide +kernel
theorem w_running : about1.status = .running := rfl
set_option maxRecDepth 65536 in
theorem w_room : about1.hasRoom e0.platform room_1 = true :=
  launch0.hasRoom_least _ room_1 (by decide +kernel) (by decide +kernel) (by decide +kernel) (by decide +kernel) (by decide +kernel) (by decide +kernel)
theorem allAtoms_all (ts : List Jvm.Cond) (a : Array Jvm.Value) (st : Jvm.State) : (allAtoms ts).before a st = ts.all (fun c => c.before a st) := by
  induction ts with
  | nil => rfl
  | cons c t ih =>
    show (Jvm.Cond.and c (allAtoms t)).before a st = _
    rw [Jvm.Cond.before_and, ih, List.all_cons]
def words1 : List Jvm.Cond := Jvm.Cond.code x code maxLocals ret :: tables_1
/-- a 'code' word, met by the world's own term for the bytes: nothing is compared byte by byte -/
theorem code_word {y : MethodName} {bytes : ByteArray} {mx : Nat} {rt : Option FieldType} {a : Array Value} {s : State} {m : MethodId} {meth : Method} {c : Code} (h1 : s.methodNamed? y = some m) (h2 : s.vm.method? m = some meth) (h3 : meth.code = some c) (h4 : c.code = bytes)
    (h5 : (c.maxLocals == mx && c.exceptionTable.isEmpty && decide (c.maxStack ≤ mostOperands) && decide (meth.sig.returnType = rt) && !meth.locks && decide (parseMethodDescriptor y.desc = some meth.sig)) = true) : (Jvm.Cond.code y bytes mx rt).before a s = true := by
  simp only [Bool.and_eq_true, beq_iff_eq, Bool.not_eq_true', decide_eq_true_eq] at h5
  obtain ⟨⟨⟨⟨⟨g1, g2⟩, g3⟩, g4⟩, g5⟩, g6⟩ := h5
  simp [Cond.before, Cond.holds, Cond.value, h1, h2, h3, h4, g1, g2, g3, g4, g5, g6]
def isCode : Jvm.Cond → Bool
  | .code _ _ _ _ => true
  | _ => false
theorem all_split {L : List Jvm.Cond} {P : Jvm.Cond → Bool} (h1 : L.all (fun c => isCode c || P c) = true) (h2 : ∀ c ∈ L.filter isCode, P c = true) : L.all P = true := by
  refine List.all_eq_true.mpr fun c hc => ?_
  have h := List.all_eq_true.mp h1 c hc
  rcases Bool.eq_false_or_eq_true (isCode c) with hi | hi
  · exact h2 c (List.mem_filter.mpr ⟨hc, hi⟩)
  · simpa [hi] using h
set_option maxRecDepth 65536 in
theorem w_c0 : (Jvm.Cond.code x code maxLocals ret).before args0 about1 = true := code_word (m := ⟨1, 1⟩) (meth := k1m1) (c := k1c1) (by decide +kernel) rfl rfl rfl (by decide +kernel)
set_option maxRecDepth 65536 in
theorem w_c1 : (Jvm.Cond.code ({ cls := "com/example/hyperslab/hyperslab/dap2/DapText", name := "isPlain", desc := "(C)Z" } : Jvm.MethodName) prog_12_method_4_code (1 : Nat) (Option.some Jvm.ClassFile.FieldType.boolean)).before args0 about1 = true := code_word (m := ⟨2, 1⟩) (meth := k2m1) (c := k2c1) (by decide +kernel) rfl rfl rfl (by decide +kernel)
def codes1 : List Jvm.Cond := [Jvm.Cond.code x code maxLocals ret, Jvm.Cond.code ({ cls := "com/example/hyperslab/hyperslab/dap2/DapText", name := "isPlain", desc := "(C)Z" } : Jvm.MethodName) prog_12_method_4_code (1 : Nat) (Option.some Jvm.ClassFile.FieldType.boolean)]
set_option maxRecDepth 65536 in
theorem codes_eq : words1.filter isCode = codes1 := rfl
theorem w_codes : ∀ c ∈ words1.filter isCode, c.before args0 about1 = true := by
  rw [codes_eq]
  intro c hc
  simp only [codes1, List.mem_cons, List.not_mem_nil, or_false] at hc
  rcases hc with rfl | rfl
  · exact w_c0
  · exact w_c1
set_option maxRecDepth 65536 in
theorem w_t1 : words1.all (fun c => isCode c || c.before args0 about1) = true := by decide +kernel
theorem w_tables : (allAtoms (Jvm.Cond.code x code maxLocals ret :: tables_1)).before args0 about1 = true := by
  rw [allAtoms_all]
  show words1.all (fun c => c.before args0 about1) = true
  refine all_split ?_ w_codes
  rw [w_t1]
set_option maxRecDepth 65536 in
theorem w_case : (Jvm.Cond.and given_1 narrow_1).before args0 about1 = true := by decide +kernel
theorem w_applies : (headSpec (Jvm.Cond.code x code maxLocals ret :: tables_1) room_1).applies x e0.platform about1 = true :=
  (Spec.applies_iff w_frames).mpr ⟨w_running, w_runnable, w_alone, w_named, w_hears, w_ripe, w_room, w_tables⟩
theorem atStart : AtStart classFile x code maxLocals ret World_1 tables_1 room_1 Calls_1 rest_1 Pre_1 launch0 p0 e0 about1 theMethod args0 below0 :=
  ⟨lists_1, trivial, launch0.admits_env _ _ _, launch0.least_env, fairChoices_fair.cas, fairChoices_fair.clock, w_frames, w_args, w_heap, w_applies, trivial, trivial, w_case⟩
end start1
theorem witness_1 : WitnessClaimed_1 := ⟨start1.p0, start1.e0, start1.about1, start1.theMethod, start1.args0, start1.below0, start1.atStart⟩
end Jvm.Pilot.@@N@@
