import JvmDerived
import JvmDerived.Pilot.@@N@@Statement
import JvmDerived.Pilot.@@N@@Code
set_option linter.unusedVariables false
set_option linter.unusedSimpArgs false
namespace Jvm.RoadKit
open Sem ClassFile Op Lib Jvm.Stand Jvm.Free Jvm.LawKit
section New
variable {p : Program} {l : Launch} {e : Env} {R : Room} {s : State} {m : MethodId} {args : Array Value} {below : List Frame} {meth : Method} {c : Code} {T : State} {locs : List Loc} {cells slots : Nat}
theorem retI (X : Stand p l e R s m args below meth c T locs cells slots) (hx : p.tables.exec = Jvm.exec) {pc : Nat} {Ls : Array Slot} {z : Int32} {rest : List Value} (hret : meth.sig.returnType = some .int) (hd : decode c.code pc = .ok (.ireturn, 1)) {fs : List Frame}
    (hl : ∀ (f : JFrame) (acts : List Action), f.method = m → f.locked = none → f.entered = [] → (doReturn e (T.setTop f) acts (some (.int z))).1 = T.setFrames fs) : Steps p.tables e below (T.setTop (mkF m pc Ls (.int z :: rest))) (T.setFrames fs) := by
  have hm' : T.vm.method? m = some meth := X.method'
  have hn : narrow .int (.int z) = .int z := rfl
  show Steps p.tables e below (T.setTop { method := m, pc := pc, locals := Ls, stack := _ :: rest, locked := none }) _
  jvm_step X.here [X.here.top, hx, hd, hm', hret, hn]
  first | (intro acts; rw [hl _ acts rfl rfl rfl]) | rw [hl _ _ rfl rfl rfl]
  exact Steps.refl _
end New
end Jvm.RoadKit
namespace Jvm.Pilot.@@N@@
open Jvm Jvm.ClassFile Sem Op Lib Jvm.Free Jvm.Stand Jvm.LawKit Jvm.RoadKit Bundle Jvm.Pilot.@@N@@.Jvm.D
theorem own_eq_int {args : Array Value} {s : State} {t : Term} {k : Int32} (h : (Cond.eq t (.int k)).value args s none s [] = some true) : t.eval args s none [] s = some (.int k) := by
  obtain ⟨x, y, ha, hb, hk, -⟩ := cmp_v (Or.inl h)
  have hb' : (Term.int k).eval args s none [] s = some (.int k) := rfl
  rw [hb'] at hb; cases hb
  cases x with
  | int z =>
    have := Cond.value.eq_def
    simp [Cond.value, ha, hb'] at h
    rw [ha, h]
  | _ => simp [Kin, Value.isRef] at hk

def own_get (vs : List Int32) (j : Int32) : Int32 := vs.getD j.toNatClampNeg 0
theorem own_getD (vs : List Int32) (j : Int32) : (List.map Value.int vs).getD j.toNatClampNeg (.int (0 : Int32)) = .int (own_get vs j) := by
  unfold own_get
  generalize j.toNatClampNeg = n
  induction vs generalizing n with
  | nil => rfl
  | cons x t ih => cases n with
    | zero => rfl
    | succ n => exact ih n
theorem own_ltL {c : Cell} {j z : Int32} {n : Nat} (S : c.slots.size = z.toNatClampNeg) (hz : z.toNatClampNeg = n) (hin : ¬ (j < 0 ∨ c.slots.size ≤ j.toNatClampNeg)) : j.toNatClampNeg < n := by
  rw [← hz, ← S]; exact Nat.lt_of_not_le fun y => hin (Or.inr y)

theorem pn_1 : plainName "com/example/hyperslab/hyperslab/dap2/StringFormSentLengthPinLaw" = true := by first | (simp [plainName, overriddenIn]; done) | decide +kernel
theorem d1_0 : decode method_3_code 0 = .ok (.iload_n 0, 1) := by decide +kernel
theorem d1_1 : decode method_3_code 1 = .ok (.sipush 256, 3) := by decide +kernel
theorem d1_4 : decode method_3_code 4 = .ok (.iand, 1) := by decide +kernel
theorem d1_5 : decode method_3_code 5 = .ok (.ifCond .eq 6, 3) := by decide +kernel
theorem d1_11 : decode method_3_code 11 = .ok (.iload_n 0, 1) := by decide +kernel
theorem d1_12 : decode method_3_code 12 = .ok (.i2b, 1) := by decide +kernel
theorem d1_8 : decode method_3_code 8 = .ok (.bipush 92, 2) := by decide +kernel
theorem ef_1 (m : MethodId) (x0 : Int32) : entryFrame m #[(.int x0)] 1 = mkF m 0 #[.val (.int x0)] [] := by first | (simp [entryFrame, mkF, argsToLocals, Value.category]; done) | rfl
def f1 (p0 : Int32) : Int32 := (if (p0 &&& (256 : Int32)) = (0 : Int32) then (nar .byte (p0.toInt8.toInt32)) else (nar .byte (92 : Int32)))
def Q1 (Z : State) (p0 : Int32) (h0 : Heap) (n0 : Nat) (v : Option Value) (h : Heap) (L : List Loc) : Prop := v = some (.int (f1 p0)) ∧ Fr n0 L ∧ h = h0
theorem d1_13 : decode method_3_code 13 = .ok (.ireturn, 1) := by decide +kernel
theorem d1_10 : decode method_3_code 10 = .ok (.ireturn, 1) := by decide +kernel
set_option maxRecDepth 65536 in
set_option maxHeartbeats 40000000 in
theorem rm1 (l : Launch) (Z : State) (aw : Array Value) (hw : ∀ d ∈ tables_1, d.before aw Z = true) (ws : List Jvm.Cond) (p0 : Int32) (h0 : Heap) (n0 : Nat) (Z0 : n0 ≤ h0.size) :
    MetFree l (⟨"com/example/hyperslab/hyperslab/dap2/StringFormSentLengthPinLaw", "drawn", "(I)B"⟩ : MethodName) (head1 (Jvm.Cond.code (⟨"com/example/hyperslab/hyperslab/dap2/StringFormSentLengthPinLaw", "drawn", "(I)B"⟩ : MethodName) method_3_code 1 (some .byte) :: ws) ({ frames := 0, cells := 0, slots := 0, locals := 0 } : Room)) (fun a U => a = #[(.int p0)] ∧ Z.Warmed39 U.vm ∧ U.heap = h0) (fun _ _ _ _ _ => True) (fun _ U o U' => ∃ v L, o = .returned v ∧ Q1 Z p0 h0 n0 v U'.heap L ∧ FrameEnd U o U' L ({ frames := 0, cells := 0, slots := 0, locals := 0 } : Room).cells ({ frames := 0, cells := 0, slots := 0, locals := 0 } : Room).slots) := by
  refine MetFree.of_bodySF (plainFor_of_name pn_1) hisR ?_
  intro p e s m args below meth c s₁ Bd hml0 hP hK
  obtain ⟨rfl, hZ, hh⟩ := hP
  have hx := Bd.exec
  have hby := Bd.bytes
  have hml : c.maxLocals = 1 := hml0
  have hown : s.vm.findClass "com/example/hyperslab/hyperslab/dap2/StringFormSentLengthPinLaw" = some m.cls := findClass_of_methodNamed Bd.named
  have hnm := (name_of_methodNamed Bd.named Bd.method).1
  have X0 : Stand p l e ({ frames := 0, cells := 0, slots := 0, locals := 0 } : Room) s m #[(.int p0)] below meth c s₁ [] 0 0 := Stand.of_body Bd
  have e0 : s₁.heap = h0 := by rw [← hh, Bd.state]; rfl
  have N0 := Fr.nil n0
  have pre0 : ∀ t, Steps p.tables e below (s₁.setTop (mkF m 0 #[.val (.int p0)] [])) t → Steps p.tables e below (s₁.setTop (entryFrame m #[(.int p0)] 1)) t := fun t k => castTop (ef_1 m p0) k
  have pre1 : ∀ t, Steps p.tables e below (s₁.setTop (mkF m 5 #[.val (.int p0)] [(.int (p0 &&& (256 : Int32)))])) t → Steps p.tables e below (s₁.setTop (entryFrame m #[(.int p0)] 1)) t := fun t k => pre0 t (by
    show Steps p.tables e below (s₁.setTop (mkF m 0 #[.val (.int p0)] [])) _
    refine XS.iloadN X0.here hx rfl (hb hby d1_0) rfl ?_
    show Steps p.tables e below (s₁.setTop (mkF m 1 #[.val (.int p0)] [(.int p0)])) _
    refine XS.sipush X0.here hx rfl (hb hby d1_1) ?_
    show Steps p.tables e below (s₁.setTop (mkF m 4 #[.val (.int p0)] [(.int (256 : Int32)), (.int p0)])) _
    refine XS.iand X0.here hx rfl (hb hby d1_4) rfl ?_
    exact k)
  by_cases hc2 : (p0 &&& (256 : Int32)) = (0 : Int32)
  · obtain ⟨fs, hr, hrun, hended, hW, hsame⟩ := X0.leave (v := some (.int (nar .byte (p0.toInt8.toInt32)))) (fun h => by rw [Bd.returns] at h; cases h)
    refine ⟨_, _, pre1 _ ?_, hrun, hended, _, _, rfl, ?_, ⟨_, rfl⟩, hW, hsame.mono (by decide) (by decide)⟩
    · show Steps p.tables e below (s₁.setTop (mkF m 5 #[.val (.int p0)] [(.int (p0 &&& (256 : Int32)))])) _
      refine XS.ifYes X0.here hx rfl (pc0 := 5) (pc' := 11) rfl (hb hby d1_5) rfl ((if0 _ _).trans (teq hc2).1) (by decide) (by decide) ?_
      show Steps p.tables e below (s₁.setTop (mkF m 11 #[.val (.int p0)] [])) _
      refine XS.iloadN X0.here hx rfl (hb hby d1_11) rfl ?_
      show Steps p.tables e below (s₁.setTop (mkF m 12 #[.val (.int p0)] [(.int p0)])) _
      refine XS.i2b X0.here hx rfl (hb hby d1_12) rfl ?_
      show Steps p.tables e below (s₁.setTop (mkF m 13 #[.val (.int p0)] [(.int (p0.toInt8.toInt32))])) _
      exact retN X0 hx (t := .byte) Bd.returns (by simp) (hb hby d1_13) hr
    · show Q1 Z p0 h0 n0 _ s₁.heap _
      rw [e0]
      exact ⟨congrArg (fun z => some (Value.int z)) (by simp only [f1, if_pos hc2]), N0, rfl⟩
  · obtain ⟨fs, hr, hrun, hended, hW, hsame⟩ := X0.leave (v := some (.int (nar .byte (92 : Int32)))) (fun h => by rw [Bd.returns] at h; cases h)
    refine ⟨_, _, pre1 _ ?_, hrun, hended, _, _, rfl, ?_, ⟨_, rfl⟩, hW, hsame.mono (by decide) (by decide)⟩
    · show Steps p.tables e below (s₁.setTop (mkF m 5 #[.val (.int p0)] [(.int (p0 &&& (256 : Int32)))])) _
      refine XS.ifNo X0.here hx rfl (hb hby d1_5) rfl ((if0 _ _).trans (feq hc2).1) ?_
      show Steps p.tables e below (s₁.setTop (mkF m 8 #[.val (.int p0)] [])) _
      refine XS.bipush X0.here hx rfl (hb hby d1_8) ?_
      show Steps p.tables e below (s₁.setTop (mkF m 10 #[.val (.int p0)] [(.int (92 : Int32))])) _
      exact retN X0 hx (t := .byte) Bd.returns (by simp) (hb hby d1_10) hr
    · show Q1 Z p0 h0 n0 _ s₁.heap _
      rw [e0]
      exact ⟨congrArg (fun z => some (Value.int z)) (by simp only [f1, if_neg hc2]), N0, rfl⟩
theorem d3_0 : decode method_4_code 0 = .ok (.iload_n 1, 1) := by decide +kernel
theorem d3_1 : decode method_4_code 1 = .ok (.iload_n 2, 1) := by decide +kernel
theorem d3_2 : decode method_4_code 2 = .ok (.if_icmp .ge 11, 3) := by decide +kernel
theorem d3_5 : decode method_4_code 5 = .ok (.iload_n 0, 1) := by decide +kernel
theorem d3_6 : decode method_4_code 6 = .ok (.bipush 92, 2) := by decide +kernel
theorem d3_8 : decode method_4_code 8 = .ok (.if_icmp .ne 5, 3) := by decide +kernel
theorem d3_11 : decode method_4_code 11 = .ok (.iconst 1, 1) := by decide +kernel
theorem d3_13 : decode method_4_code 13 = .ok (.iconst 0, 1) := by decide +kernel
theorem ef_3 (m : MethodId) (x0 : Int32) (x1 : Int32) (x2 : Int32) : entryFrame m #[(.int x0), (.int x1), (.int x2)] 3 = mkF m 0 #[.val (.int x0), .val (.int x1), .val (.int x2)] [] := by first | (simp [entryFrame, mkF, argsToLocals, Value.category]; done) | rfl
def f3 (p0 : Int32) (p1 : Int32) (p2 : Int32) : Int32 := (if p1 < p2 then (if p0 = (92 : Int32) then (1 : Int32) else (0 : Int32)) else (0 : Int32))
def Q3 (Z : State) (p0 : Int32) (p1 : Int32) (p2 : Int32) (h0 : Heap) (n0 : Nat) (v : Option Value) (h : Heap) (L : List Loc) : Prop := v = some (.int (f3 p0 p1 p2)) ∧ Fr n0 L ∧ h = h0
theorem d3_12 : decode method_4_code 12 = .ok (.ireturn, 1) := by decide +kernel
theorem d3_14 : decode method_4_code 14 = .ok (.ireturn, 1) := by decide +kernel
set_option maxRecDepth 65536 in
set_option maxHeartbeats 40000000 in
theorem rm3 (l : Launch) (Z : State) (aw : Array Value) (hw : ∀ d ∈ tables_1, d.before aw Z = true) (ws : List Jvm.Cond) (p0 : Int32) (p1 : Int32) (p2 : Int32) (h0 : Heap) (n0 : Nat) (Z0 : n0 ≤ h0.size) :
    MetFree l (⟨"com/example/hyperslab/hyperslab/dap2/StringFormSentLengthPinLaw", "hit", "(BII)I"⟩ : MethodName) (head1 (Jvm.Cond.code (⟨"com/example/hyperslab/hyperslab/dap2/StringFormSentLengthPinLaw", "hit", "(BII)I"⟩ : MethodName) method_4_code 3 (some .int) :: ws) ({ frames := 0, cells := 0, slots := 0, locals := 0 } : Room)) (fun a U => a = #[(.int p0), (.int p1), (.int p2)] ∧ Z.Warmed39 U.vm ∧ U.heap = h0) (fun _ _ _ _ _ => True) (fun _ U o U' => ∃ v L, o = .returned v ∧ Q3 Z p0 p1 p2 h0 n0 v U'.heap L ∧ FrameEnd U o U' L ({ frames := 0, cells := 0, slots := 0, locals := 0 } : Room).cells ({ frames := 0, cells := 0, slots := 0, locals := 0 } : Room).slots) := by
  refine MetFree.of_bodySF (plainFor_of_name pn_1) hisR ?_
  intro p e s m args below meth c s₁ Bd hml0 hP hK
  obtain ⟨rfl, hZ, hh⟩ := hP
  have hx := Bd.exec
  have hby := Bd.bytes
  have hml : c.maxLocals = 3 := hml0
  have hown : s.vm.findClass "com/example/hyperslab/hyperslab/dap2/StringFormSentLengthPinLaw" = some m.cls := findClass_of_methodNamed Bd.named
  have hnm := (name_of_methodNamed Bd.named Bd.method).1
  have X0 : Stand p l e ({ frames := 0, cells := 0, slots := 0, locals := 0 } : Room) s m #[(.int p0), (.int p1), (.int p2)] below meth c s₁ [] 0 0 := Stand.of_body Bd
  have e0 : s₁.heap = h0 := by rw [← hh, Bd.state]; rfl
  have N0 := Fr.nil n0
  have pre0 : ∀ t, Steps p.tables e below (s₁.setTop (mkF m 0 #[.val (.int p0), .val (.int p1), .val (.int p2)] [])) t → Steps p.tables e below (s₁.setTop (entryFrame m #[(.int p0), (.int p1), (.int p2)] 3)) t := fun t k => castTop (ef_3 m p0 p1 p2) k
  have pre1 : ∀ t, Steps p.tables e below (s₁.setTop (mkF m 2 #[.val (.int p0), .val (.int p1), .val (.int p2)] [(.int p2), (.int p1)])) t → Steps p.tables e below (s₁.setTop (entryFrame m #[(.int p0), (.int p1), (.int p2)] 3)) t := fun t k => pre0 t (by
    show Steps p.tables e below (s₁.setTop (mkF m 0 #[.val (.int p0), .val (.int p1), .val (.int p2)] [])) _
    refine XS.iloadN X0.here hx rfl (hb hby d3_0) rfl ?_
    show Steps p.tables e below (s₁.setTop (mkF m 1 #[.val (.int p0), .val (.int p1), .val (.int p2)] [(.int p1)])) _
    refine XS.iloadN X0.here hx rfl (hb hby d3_1) rfl ?_
    exact k)
  by_cases hc2 : p1 < p2
  · have pre3 : ∀ t, Steps p.tables e below (s₁.setTop (mkF m 8 #[.val (.int p0), .val (.int p1), .val (.int p2)] [(.int (92 : Int32)), (.int p0)])) t → Steps p.tables e below (s₁.setTop (entryFrame m #[(.int p0), (.int p1), (.int p2)] 3)) t := fun t k => pre1 t (by
      show Steps p.tables e below (s₁.setTop (mkF m 2 #[.val (.int p0), .val (.int p1), .val (.int p2)] [(.int p2), (.int p1)])) _
      refine XS.icmpNo X0.here hx rfl (hb hby d3_2) rfl (tlt hc2).2.1 ?_
      show Steps p.tables e below (s₁.setTop (mkF m 5 #[.val (.int p0), .val (.int p1), .val (.int p2)] [])) _
      refine XS.iloadN X0.here hx rfl (hb hby d3_5) rfl ?_
      show Steps p.tables e below (s₁.setTop (mkF m 6 #[.val (.int p0), .val (.int p1), .val (.int p2)] [(.int p0)])) _
      refine XS.bipush X0.here hx rfl (hb hby d3_6) ?_
      exact k)
    by_cases hc4 : p0 = (92 : Int32)
    · obtain ⟨fs, hr, hrun, hended, hW, hsame⟩ := X0.leave (v := some (.int (1 : Int32))) (fun h => by rw [Bd.returns] at h; cases h)
      refine ⟨_, _, pre3 _ ?_, hrun, hended, _, _, rfl, ?_, ⟨_, rfl⟩, hW, hsame.mono (by decide) (by decide)⟩
      · show Steps p.tables e below (s₁.setTop (mkF m 8 #[.val (.int p0), .val (.int p1), .val (.int p2)] [(.int (92 : Int32)), (.int p0)])) _
        refine XS.icmpNo X0.here hx rfl (hb hby d3_8) rfl (teq hc4).2 ?_
        show Steps p.tables e below (s₁.setTop (mkF m 11 #[.val (.int p0), .val (.int p1), .val (.int p2)] [])) _
        refine XS.iconst X0.here hx rfl (hb hby d3_11) ?_
        show Steps p.tables e below (s₁.setTop (mkF m 12 #[.val (.int p0), .val (.int p1), .val (.int p2)] [(.int (1 : Int32))])) _
        exact retI X0 hx Bd.returns (hb hby d3_12) hr
      · show Q3 Z p0 p1 p2 h0 n0 _ s₁.heap _
        rw [e0]
        exact ⟨congrArg (fun z => some (Value.int z)) (by simp only [f3, if_pos hc2, if_pos hc4]), N0, rfl⟩
    · obtain ⟨fs, hr, hrun, hended, hW, hsame⟩ := X0.leave (v := some (.int (0 : Int32))) (fun h => by rw [Bd.returns] at h; cases h)
      refine ⟨_, _, pre3 _ ?_, hrun, hended, _, _, rfl, ?_, ⟨_, rfl⟩, hW, hsame.mono (by decide) (by decide)⟩
      · show Steps p.tables e below (s₁.setTop (mkF m 8 #[.val (.int p0), .val (.int p1), .val (.int p2)] [(.int (92 : Int32)), (.int p0)])) _
        refine XS.icmpYes X0.here hx rfl (pc0 := 8) (pc' := 13) rfl (hb hby d3_8) rfl (feq hc4).2 (by decide) (by decide) ?_
        show Steps p.tables e below (s₁.setTop (mkF m 13 #[.val (.int p0), .val (.int p1), .val (.int p2)] [])) _
        refine XS.iconst X0.here hx rfl (hb hby d3_13) ?_
        show Steps p.tables e below (s₁.setTop (mkF m 14 #[.val (.int p0), .val (.int p1), .val (.int p2)] [(.int (0 : Int32))])) _
        exact retI X0 hx Bd.returns (hb hby d3_14) hr
      · show Q3 Z p0 p1 p2 h0 n0 _ s₁.heap _
        rw [e0]
        exact ⟨congrArg (fun z => some (Value.int z)) (by simp only [f3, if_pos hc2, if_neg hc4]), N0, rfl⟩
  · obtain ⟨fs, hr, hrun, hended, hW, hsame⟩ := X0.leave (v := some (.int (0 : Int32))) (fun h => by rw [Bd.returns] at h; cases h)
    refine ⟨_, _, pre1 _ ?_, hrun, hended, _, _, rfl, ?_, ⟨_, rfl⟩, hW, hsame.mono (by decide) (by decide)⟩
    · show Steps p.tables e below (s₁.setTop (mkF m 2 #[.val (.int p0), .val (.int p1), .val (.int p2)] [(.int p2), (.int p1)])) _
      refine XS.icmpYes X0.here hx rfl (pc0 := 2) (pc' := 13) rfl (hb hby d3_2) rfl (flt hc2).2.1 (by decide) (by decide) ?_
      show Steps p.tables e below (s₁.setTop (mkF m 13 #[.val (.int p0), .val (.int p1), .val (.int p2)] [])) _
      refine XS.iconst X0.here hx rfl (hb hby d3_13) ?_
      show Steps p.tables e below (s₁.setTop (mkF m 14 #[.val (.int p0), .val (.int p1), .val (.int p2)] [(.int (0 : Int32))])) _
      exact retI X0 hx Bd.returns (hb hby d3_14) hr
    · show Q3 Z p0 p1 p2 h0 n0 _ s₁.heap _
      rw [e0]
      exact ⟨congrArg (fun z => some (Value.int z)) (by simp only [f3, if_neg hc2]), N0, rfl⟩
theorem pn_0 : plainName "com/example/hyperslab/hyperslab/dap2/DataDds$StringForm" = true := by first | (simp [plainName, overriddenIn]; done) | decide +kernel
theorem d2_0 : decode prog_17_method_6_code 0 = .ok (.iload_n 2, 1) := by decide +kernel
theorem d2_1 : decode prog_17_method_6_code 1 = .ok (.i2l, 1) := by decide +kernel
theorem d2_2 : decode prog_17_method_6_code 2 = .ok (.lstore_n 3, 1) := by decide +kernel
theorem d2_3 : decode prog_17_method_6_code 3 = .ok (.aload_n 0, 1) := by decide +kernel
theorem d2_4 : decode prog_17_method_6_code 4 = .ok (.getstatic 7, 3) := by decide +kernel
theorem d2_7 : decode prog_17_method_6_code 7 = .ok (.if_acmp .ne 31, 3) := by decide +kernel
theorem d2_10 : decode prog_17_method_6_code 10 = .ok (.iconst 0, 1) := by decide +kernel
theorem d2_11 : decode prog_17_method_6_code 11 = .ok (.istore 5, 2) := by decide +kernel
theorem d2_13 : decode prog_17_method_6_code 13 = .ok (.iload 5, 2) := by decide +kernel
theorem d2_15 : decode prog_17_method_6_code 15 = .ok (.iload_n 2, 1) := by decide +kernel
theorem d2_16 : decode prog_17_method_6_code 16 = .ok (.if_icmp .ge 22, 3) := by decide +kernel
theorem d2_19 : decode prog_17_method_6_code 19 = .ok (.aload_n 1, 1) := by decide +kernel
theorem d2_20 : decode prog_17_method_6_code 20 = .ok (.iload 5, 2) := by decide +kernel
theorem d2_22 : decode prog_17_method_6_code 22 = .ok (.baload, 1) := by decide +kernel
theorem d2_23 : decode prog_17_method_6_code 23 = .ok (.bipush 92, 2) := by decide +kernel
theorem d2_25 : decode prog_17_method_6_code 25 = .ok (.if_icmp .ne 7, 3) := by decide +kernel
theorem d2_28 : decode prog_17_method_6_code 28 = .ok (.lload_n 3, 1) := by decide +kernel
theorem d2_29 : decode prog_17_method_6_code 29 = .ok (.lconst 1, 1) := by decide +kernel
theorem d2_30 : decode prog_17_method_6_code 30 = .ok (.ladd, 1) := by decide +kernel
theorem d2_31 : decode prog_17_method_6_code 31 = .ok (.lstore_n 3, 1) := by decide +kernel
theorem d2_32 : decode prog_17_method_6_code 32 = .ok (.iinc 5 1, 3) := by decide +kernel
theorem d2_35 : decode prog_17_method_6_code 35 = .ok (.goto (-22), 3) := by decide +kernel
theorem d2_38 : decode prog_17_method_6_code 38 = .ok (.lload_n 3, 1) := by decide +kernel
theorem ef_2 (m : MethodId) (x0 : Addr) (x1 : Addr) (x2 : Int32) : entryFrame m #[(.ref x0), (.ref x1), (.int x2)] 6 = mkF m 0 #[.val (.ref x0), .val (.ref x1), .val (.int x2), .unset, .unset, .unset] [] := by first | (simp [entryFrame, mkF, argsToLocals, Value.category]; done) | rfl
def f2 (a0 : Addr) (p2 : Int32) (vs_a1 : List Int32) (w_BACKSLASHES_DOUBLED : Addr) : Int64 := (let v2 : Int64 := (p2.toInt64); (let j40 : Int64 := (if a0 = w_BACKSLASHES_DOUBLED then (if (0 : Int32) < p2 then (let j14 : Int64 := (if (own_get vs_a1 (0 : Int32)) = (92 : Int32) then (v2 + (1 : Int64)) else v2); (if (1 : Int32) < p2 then (let j22 : Int64 := (if (own_get vs_a1 (1 : Int32)) = (92 : Int32) then (j14 + (1 : Int64)) else j14); (if (2 : Int32) < p2 then (let j30 : Int64 := (if (own_get vs_a1 (2 : Int32)) = (92 : Int32) then (j22 + (1 : Int64)) else j22); (if (3 : Int32) < p2 then (let j38 : Int64 := (if (own_get vs_a1 (3 : Int32)) = (92 : Int32) then (j30 + (1 : Int64)) else j30); j38) else j30)) else j22)) else j14)) else v2) else v2); j40))
def Q2 (Z : State) (a0 : Addr) (a1 : Addr) (p2 : Int32) (ka_a1 : ClassId) (vs_a1 : List Int32) (w_BACKSLASHES_DOUBLED : Addr) (h0 : Heap) (n0 : Nat) (v : Option Value) (h : Heap) (L : List Loc) : Prop := v = some (.long (f2 a0 p2 vs_a1 w_BACKSLASHES_DOUBLED)) ∧ Fr n0 L ∧ h = h0
theorem d2_39 : decode prog_17_method_6_code 39 = .ok (.lreturn, 1) := by decide +kernel
theorem own_end (p2 : Int32) (vs_a1 : List Int32) (hr : (p2 : Int32).toInt ≤ 4) (v2 : Int64) (hv2 : v2 = (p2.toInt64)) (j14 : Int64) (hj14 : j14 = (if (own_get vs_a1 (0 : Int32)) = (92 : Int32) then (v2 + (1 : Int64)) else v2)) (j22 : Int64) (hj22 : j22 = (if (own_get vs_a1 (1 : Int32)) = (92 : Int32) then (j14 + (1 : Int64)) else j14)) (j30 : Int64) (hj30 : j30 = (if (own_get vs_a1 (2 : Int32)) = (92 : Int32) then (j22 + (1 : Int64)) else j22)) (j38 : Int64) (hj38 : j38 = (if (own_get vs_a1 (3 : Int32)) = (92 : Int32) then (j30 + (1 : Int64)) else j30)) (hc7 : a0 = w_BACKSLASHES_DOUBLED) (hc9 : (0 : Int32) < p2) (hc17 : (1 : Int32) < p2) (hc25 : (2 : Int32) < p2) (hc33 : (3 : Int32) < p2) : ¬ ((4 : Int32) < p2) := by
  rw [Int32.lt_iff_toInt_lt]
  have k : (4 : Int32).toInt = 4 := by decide
  omega
set_option maxRecDepth 65536 in
set_option maxHeartbeats 40000000 in
theorem rm2 (l : Launch) (Z : State) (aw : Array Value) (hw : ∀ d ∈ tables_1, d.before aw Z = true) (ws : List Jvm.Cond) (a0 : Addr) (a1 : Addr) (p2 : Int32) (ka_a1 : ClassId) (vs_a1 : List Int32) (w_BACKSLASHES_DOUBLED : Addr) (h0 : Heap) (n0 : Nat) (Z0 : n0 ≤ h0.size) (V_a1 : Arv Z h0 a1 ka_a1 .byte (4 : Int32) (List.map Value.int vs_a1) (.int (0 : Int32))) (hr : (p2 : Int32).toInt ≤ 4) (S_BACKSLASHES_DOUBLED : Sta Z h0 "com/example/hyperslab/hyperslab/dap2/DataDds$StringForm" "BACKSLASHES_DOUBLED" "Lcom/example/hyperslab/hyperslab/dap2/DataDds$StringForm;" (.ref w_BACKSLASHES_DOUBLED)) :
    MetFree l (⟨"com/example/hyperslab/hyperslab/dap2/DataDds$StringForm", "sentLength", "([BI)J"⟩ : MethodName) (head1 (Jvm.Cond.code (⟨"com/example/hyperslab/hyperslab/dap2/DataDds$StringForm", "sentLength", "([BI)J"⟩ : MethodName) prog_17_method_6_code 6 (some .long) :: ws) ({ frames := 0, cells := 0, slots := 0, locals := 0 } : Room)) (fun a U => a = #[(.ref a0), (.ref a1), (.int p2)] ∧ Z.Warmed39 U.vm ∧ U.heap = h0) (fun _ _ _ _ _ => True) (fun _ U o U' => ∃ v L, o = .returned v ∧ Q2 Z a0 a1 p2 ka_a1 vs_a1 w_BACKSLASHES_DOUBLED h0 n0 v U'.heap L ∧ FrameEnd U o U' L ({ frames := 0, cells := 0, slots := 0, locals := 0 } : Room).cells ({ frames := 0, cells := 0, slots := 0, locals := 0 } : Room).slots) := by
  refine MetFree.of_bodySF (plainFor_of_name pn_0) hisR ?_
  intro p e s m args below meth c s₁ Bd hml0 hP hK
  obtain ⟨rfl, hZ, hh⟩ := hP
  have hx := Bd.exec
  have hby := Bd.bytes
  have hml : c.maxLocals = 6 := hml0
  have hown : s.vm.findClass "com/example/hyperslab/hyperslab/dap2/DataDds$StringForm" = some m.cls := findClass_of_methodNamed Bd.named
  have hnm := (name_of_methodNamed Bd.named Bd.method).1
  have X0 : Stand p l e ({ frames := 0, cells := 0, slots := 0, locals := 0 } : Room) s m #[(.ref a0), (.ref a1), (.int p2)] below meth c s₁ [] 0 0 := Stand.of_body Bd
  have e0 : s₁.heap = h0 := by rw [← hh, Bd.state]; rfl
  have N0 := Fr.nil n0
  have pre0 : ∀ t, Steps p.tables e below (s₁.setTop (mkF m 0 #[.val (.ref a0), .val (.ref a1), .val (.int p2), .unset, .unset, .unset] [])) t → Steps p.tables e below (s₁.setTop (entryFrame m #[(.ref a0), (.ref a1), (.int p2)] 6)) t := fun t k => castTop (ef_2 m a0 a1 p2) k
  have pre1 : ∀ t, Steps p.tables e below (s₁.setTop (mkF m 2 #[.val (.ref a0), .val (.ref a1), .val (.int p2), .unset, .unset, .unset] [(.long (p2.toInt64))])) t → Steps p.tables e below (s₁.setTop (entryFrame m #[(.ref a0), (.ref a1), (.int p2)] 6)) t := fun t k => pre0 t (by
    show Steps p.tables e below (s₁.setTop (mkF m 0 #[.val (.ref a0), .val (.ref a1), .val (.int p2), .unset, .unset, .unset] [])) _
    refine XS.iloadN X0.here hx rfl (hb hby d2_0) rfl ?_
    show Steps p.tables e below (s₁.setTop (mkF m 1 #[.val (.ref a0), .val (.ref a1), .val (.int p2), .unset, .unset, .unset] [(.int p2)])) _
    refine XS.i2l X0.here hx rfl (hb hby d2_1) rfl ?_
    exact k)
  obtain ⟨v2, hv2⟩ : ∃ z : Int64, z = (p2.toInt64) := ⟨_, rfl⟩
  have pre3 : ∀ t, Steps p.tables e below (s₁.setTop (mkF m 2 #[.val (.ref a0), .val (.ref a1), .val (.int p2), .unset, .unset, .unset] [(.long v2)])) t → Steps p.tables e below (s₁.setTop (entryFrame m #[(.ref a0), (.ref a1), (.int p2)] 6)) t := fun t k => pre1 t (by rw [hv2] at k; exact k)
  have pre4 : ∀ t, Steps p.tables e below (s₁.setTop (mkF m 4 #[.val (.ref a0), .val (.ref a1), .val (.int p2), .val (.long v2), .second, .unset] [(.ref a0)])) t → Steps p.tables e below (s₁.setTop (entryFrame m #[(.ref a0), (.ref a1), (.int p2)] 6)) t := fun t k => pre3 t (by
    show Steps p.tables e below (s₁.setTop (mkF m 2 #[.val (.ref a0), .val (.ref a1), .val (.int p2), .unset, .unset, .unset] [(.long v2)])) _
    refine XS.lstoreN X0.here hx rfl (hb hby d2_2) rfl (l' := #[.val (.ref a0), .val (.ref a1), .val (.int p2), .val (.long v2), .second, .unset]) rfl ?_
    show Steps p.tables e below (s₁.setTop (mkF m 3 #[.val (.ref a0), .val (.ref a1), .val (.int p2), .val (.long v2), .second, .unset] [])) _
    refine XS.aloadN X0.here hx rfl (hb hby d2_3) rfl rfl ?_
    exact k)
  obtain ⟨T5, X5, e5, st5⟩ := getS2 X0 hx hZ hown (host := "") (Or.inl (hw _ (List.mem_of_getElem? (i := 14) rfl))) Via.refl e0 S_BACKSLASHES_DOUBLED (g := (mkF m 4 #[.val (.ref a0), .val (.ref a1), .val (.int p2), .val (.long v2), .second, .unset] [(.ref a0)])) rfl (hb hby d2_4)
  have pre6 : ∀ t, Steps p.tables e below (T5.setTop (mkF m 7 #[.val (.ref a0), .val (.ref a1), .val (.int p2), .val (.long v2), .second, .unset] [(.ref w_BACKSLASHES_DOUBLED), (.ref a0)])) t → Steps p.tables e below (s₁.setTop (entryFrame m #[(.ref a0), (.ref a1), (.int p2)] 6)) t := fun t k => pre4 t (by
    show Steps p.tables e below (s₁.setTop (mkF m 4 #[.val (.ref a0), .val (.ref a1), .val (.int p2), .val (.long v2), .second, .unset] [(.ref a0)])) _
    refine st5 _ ?_
    exact k)
  obtain ⟨j40, sl41, hj40, hsl41, pre42⟩ : ∃ (j40 : Int64) (sl41 : Slot), j40 = (if a0 = w_BACKSLASHES_DOUBLED then (if (0 : Int32) < p2 then (let j14 : Int64 := (if (own_get vs_a1 (0 : Int32)) = (92 : Int32) then (v2 + (1 : Int64)) else v2); (if (1 : Int32) < p2 then (let j22 : Int64 := (if (own_get vs_a1 (1 : Int32)) = (92 : Int32) then (j14 + (1 : Int64)) else j14); (if (2 : Int32) < p2 then (let j30 : Int64 := (if (own_get vs_a1 (2 : Int32)) = (92 : Int32) then (j22 + (1 : Int64)) else j22); (if (3 : Int32) < p2 then (let j38 : Int64 := (if (own_get vs_a1 (3 : Int32)) = (92 : Int32) then (j30 + (1 : Int64)) else j30); j38) else j30)) else j22)) else j14)) else v2) else v2) ∧ One sl41 ∧ ∀ t, Steps p.tables e below (T5.setTop (mkF m 38 #[.val (.ref a0), .val (.ref a1), .val (.int p2), .val (.long j40), .second, sl41] [])) t → Steps p.tables e below (s₁.setTop (entryFrame m #[(.ref a0), (.ref a1), (.int p2)] 6)) t := by
    by_cases hc7 : a0 = w_BACKSLASHES_DOUBLED
    · have pre8 : ∀ t, Steps p.tables e below (T5.setTop (mkF m 16 #[.val (.ref a0), .val (.ref a1), .val (.int p2), .val (.long v2), .second, .val (.int (0 : Int32))] [(.int p2), (.int (0 : Int32))])) t → Steps p.tables e below (s₁.setTop (entryFrame m #[(.ref a0), (.ref a1), (.int p2)] 6)) t := fun t k => pre6 t (by
        show Steps p.tables e below (T5.setTop (mkF m 7 #[.val (.ref a0), .val (.ref a1), .val (.int p2), .val (.long v2), .second, .unset] [(.ref w_BACKSLASHES_DOUBLED), (.ref a0)])) _
        refine Jvm.RoadKit.acmp (g := (mkF m 7 #[.val (.ref a0), .val (.ref a1), .val (.int p2), .val (.long v2), .second, .unset] [(.ref w_BACKSLASHES_DOUBLED), (.ref a0)])) X5 hx rfl rfl rfl (pc0 := 7) (pc' := 10) (same := true) rfl (hb hby d2_7) rfl (decide_eq_true (congrArg Value.ref hc7)) (by decide) (by decide) ?_
        show Steps p.tables e below (T5.setTop (mkF m 10 #[.val (.ref a0), .val (.ref a1), .val (.int p2), .val (.long v2), .second, .unset] [])) _
        refine XS.iconst X5.here hx rfl (hb hby d2_10) ?_
        show Steps p.tables e below (T5.setTop (mkF m 11 #[.val (.ref a0), .val (.ref a1), .val (.int p2), .val (.long v2), .second, .unset] [(.int (0 : Int32))])) _
        refine XS.istore X5.here hx rfl (hb hby d2_11) rfl (l' := #[.val (.ref a0), .val (.ref a1), .val (.int p2), .val (.long v2), .second, .val (.int (0 : Int32))]) rfl ?_
        show Steps p.tables e below (T5.setTop (mkF m 13 #[.val (.ref a0), .val (.ref a1), .val (.int p2), .val (.long v2), .second, .val (.int (0 : Int32))] [])) _
        refine XS.iload X5.here hx rfl (hb hby d2_13) rfl ?_
        show Steps p.tables e below (T5.setTop (mkF m 15 #[.val (.ref a0), .val (.ref a1), .val (.int p2), .val (.long v2), .second, .val (.int (0 : Int32))] [(.int (0 : Int32))])) _
        refine XS.iloadN X5.here hx rfl (hb hby d2_15) rfl ?_
        exact k)
      by_cases hc9 : (0 : Int32) < p2
      · have pre10 : ∀ t, Steps p.tables e below (T5.setTop (mkF m 22 #[.val (.ref a0), .val (.ref a1), .val (.int p2), .val (.long v2), .second, .val (.int (0 : Int32))] [(.int (0 : Int32)), (.ref a1)])) t → Steps p.tables e below (s₁.setTop (entryFrame m #[(.ref a0), (.ref a1), (.int p2)] 6)) t := fun t k => pre8 t (by
          show Steps p.tables e below (T5.setTop (mkF m 16 #[.val (.ref a0), .val (.ref a1), .val (.int p2), .val (.long v2), .second, .val (.int (0 : Int32))] [(.int p2), (.int (0 : Int32))])) _
          refine XS.icmpNo X5.here hx rfl (hb hby d2_16) rfl (tlt hc9).2.1 ?_
          show Steps p.tables e below (T5.setTop (mkF m 19 #[.val (.ref a0), .val (.ref a1), .val (.int p2), .val (.long v2), .second, .val (.int (0 : Int32))] [])) _
          refine XS.aloadN X5.here hx rfl (hb hby d2_19) rfl rfl ?_
          show Steps p.tables e below (T5.setTop (mkF m 20 #[.val (.ref a0), .val (.ref a1), .val (.int p2), .val (.long v2), .second, .val (.int (0 : Int32))] [(.ref a1)])) _
          refine XS.iload X5.here hx rfl (hb hby d2_20) rfl ?_
          exact k)
        obtain ⟨cl11, Ar11, q11, S11, M11, H11, G11⟩ := id V_a1
        have hin11 : ¬ ((0 : Int32) < 0 ∨ cl11.slots.size ≤ ((0 : Int32)).toNatClampNeg) := inb_of S11 ⟨by decide, by decide⟩
        have hat11 : cl11.slots[((0 : Int32)).toNatClampNeg]? = some (.int (own_get vs_a1 (0 : Int32))) := H11.at hin11 (own_getD vs_a1 (0 : Int32))
        have pre12 : ∀ t, Steps p.tables e below (T5.setTop (mkF m 25 #[.val (.ref a0), .val (.ref a1), .val (.int p2), .val (.long v2), .second, .val (.int (0 : Int32))] [(.int (92 : Int32)), (.int (own_get vs_a1 (0 : Int32)))])) t → Steps p.tables e below (s₁.setTop (entryFrame m #[(.ref a0), (.ref a1), (.int p2)] 6)) t := fun t k => pre10 t (by
          show Steps p.tables e below (T5.setTop (mkF m 22 #[.val (.ref a0), .val (.ref a1), .val (.int p2), .val (.long v2), .second, .val (.int (0 : Int32))] [(.int (0 : Int32)), (.ref a1)])) _
          refine X5.baloadBytes hx (j := (0 : Int32)) (v := (.int (own_get vs_a1 (0 : Int32)))) (by rw [e5]; exact Ar11.1) (State.isArrayOf_alike hZ.alike Ar11.2.1) Ar11.2.2 hin11 hat11 (g := (mkF m 22 #[.val (.ref a0), .val (.ref a1), .val (.int p2), .val (.long v2), .second, .val (.int (0 : Int32))] [(.int (0 : Int32)), (.ref a1)])) rfl rfl (hb hby d2_22) _ ?_
          show Steps p.tables e below (T5.setTop (mkF m 23 #[.val (.ref a0), .val (.ref a1), .val (.int p2), .val (.long v2), .second, .val (.int (0 : Int32))] [(.int (own_get vs_a1 (0 : Int32)))])) _
          refine XS.bipush X5.here hx rfl (hb hby d2_23) ?_
          exact k)
        obtain ⟨j14, hj14, pre15⟩ : ∃ (j14 : Int64), j14 = (if (own_get vs_a1 (0 : Int32)) = (92 : Int32) then (v2 + (1 : Int64)) else v2) ∧ ∀ t, Steps p.tables e below (T5.setTop (mkF m 32 #[.val (.ref a0), .val (.ref a1), .val (.int p2), .val (.long j14), .second, .val (.int (0 : Int32))] [])) t → Steps p.tables e below (s₁.setTop (entryFrame m #[(.ref a0), (.ref a1), (.int p2)] 6)) t := by
          by_cases hc13 : (own_get vs_a1 (0 : Int32)) = (92 : Int32)
          · exact ⟨(v2 + (1 : Int64)), (by rw [if_pos hc13]), fun t k => pre12 t (by
              show Steps p.tables e below (T5.setTop (mkF m 25 #[.val (.ref a0), .val (.ref a1), .val (.int p2), .val (.long v2), .second, .val (.int (0 : Int32))] [(.int (92 : Int32)), (.int (own_get vs_a1 (0 : Int32)))])) _
              refine XS.icmpNo X5.here hx rfl (hb hby d2_25) rfl (teq hc13).2 ?_
              show Steps p.tables e below (T5.setTop (mkF m 28 #[.val (.ref a0), .val (.ref a1), .val (.int p2), .val (.long v2), .second, .val (.int (0 : Int32))] [])) _
              refine XS.lloadN X5.here hx rfl (hb hby d2_28) rfl ?_
              show Steps p.tables e below (T5.setTop (mkF m 29 #[.val (.ref a0), .val (.ref a1), .val (.int p2), .val (.long v2), .second, .val (.int (0 : Int32))] [(.long v2)])) _
              refine XS.lconst X5.here hx rfl (hb hby d2_29) ?_
              show Steps p.tables e below (T5.setTop (mkF m 30 #[.val (.ref a0), .val (.ref a1), .val (.int p2), .val (.long v2), .second, .val (.int (0 : Int32))] [(.long (1 : Int64)), (.long v2)])) _
              refine XS.ladd X5.here hx rfl (hb hby d2_30) rfl ?_
              show Steps p.tables e below (T5.setTop (mkF m 31 #[.val (.ref a0), .val (.ref a1), .val (.int p2), .val (.long v2), .second, .val (.int (0 : Int32))] [(.long (v2 + (1 : Int64)))])) _
              refine XS.lstoreN X5.here hx rfl (hb hby d2_31) rfl (l' := #[.val (.ref a0), .val (.ref a1), .val (.int p2), .val (.long (v2 + (1 : Int64))), .second, .val (.int (0 : Int32))]) rfl ?_
              exact k)⟩
          · exact ⟨v2, (by rw [if_neg hc13]), fun t k => pre12 t (by
              show Steps p.tables e below (T5.setTop (mkF m 25 #[.val (.ref a0), .val (.ref a1), .val (.int p2), .val (.long v2), .second, .val (.int (0 : Int32))] [(.int (92 : Int32)), (.int (own_get vs_a1 (0 : Int32)))])) _
              refine XS.icmpYes X5.here hx rfl (pc0 := 25) (pc' := 32) rfl (hb hby d2_25) rfl (feq hc13).2 (by decide) (by decide) ?_
              exact k)⟩
        have pre16 : ∀ t, Steps p.tables e below (T5.setTop (mkF m 16 #[.val (.ref a0), .val (.ref a1), .val (.int p2), .val (.long j14), .second, .val (.int (1 : Int32))] [(.int p2), (.int (1 : Int32))])) t → Steps p.tables e below (s₁.setTop (entryFrame m #[(.ref a0), (.ref a1), (.int p2)] 6)) t := fun t k => pre15 t (by
          show Steps p.tables e below (T5.setTop (mkF m 32 #[.val (.ref a0), .val (.ref a1), .val (.int p2), .val (.long j14), .second, .val (.int (0 : Int32))] [])) _
          refine XS.iinc X5.here hx rfl (hb hby d2_32) rfl (l' := #[.val (.ref a0), .val (.ref a1), .val (.int p2), .val (.long j14), .second, .val (.int (1 : Int32))]) rfl ?_
          show Steps p.tables e below (T5.setTop (mkF m 35 #[.val (.ref a0), .val (.ref a1), .val (.int p2), .val (.long j14), .second, .val (.int (1 : Int32))] [])) _
          refine XS.goto X5.here hx rfl (pc0 := 35) (pc' := 13) rfl (hb hby d2_35) (by decide) (by decide) ?_
          show Steps p.tables e below (T5.setTop (mkF m 13 #[.val (.ref a0), .val (.ref a1), .val (.int p2), .val (.long j14), .second, .val (.int (1 : Int32))] [])) _
          refine XS.iload X5.here hx rfl (hb hby d2_13) rfl ?_
          show Steps p.tables e below (T5.setTop (mkF m 15 #[.val (.ref a0), .val (.ref a1), .val (.int p2), .val (.long j14), .second, .val (.int (1 : Int32))] [(.int (1 : Int32))])) _
          refine XS.iloadN X5.here hx rfl (hb hby d2_15) rfl ?_
          exact k)
        by_cases hc17 : (1 : Int32) < p2
        · have pre18 : ∀ t, Steps p.tables e below (T5.setTop (mkF m 22 #[.val (.ref a0), .val (.ref a1), .val (.int p2), .val (.long j14), .second, .val (.int (1 : Int32))] [(.int (1 : Int32)), (.ref a1)])) t → Steps p.tables e below (s₁.setTop (entryFrame m #[(.ref a0), (.ref a1), (.int p2)] 6)) t := fun t k => pre16 t (by
            show Steps p.tables e below (T5.setTop (mkF m 16 #[.val (.ref a0), .val (.ref a1), .val (.int p2), .val (.long j14), .second, .val (.int (1 : Int32))] [(.int p2), (.int (1 : Int32))])) _
            refine XS.icmpNo X5.here hx rfl (hb hby d2_16) rfl (tlt hc17).2.1 ?_
            show Steps p.tables e below (T5.setTop (mkF m 19 #[.val (.ref a0), .val (.ref a1), .val (.int p2), .val (.long j14), .second, .val (.int (1 : Int32))] [])) _
            refine XS.aloadN X5.here hx rfl (hb hby d2_19) rfl rfl ?_
            show Steps p.tables e below (T5.setTop (mkF m 20 #[.val (.ref a0), .val (.ref a1), .val (.int p2), .val (.long j14), .second, .val (.int (1 : Int32))] [(.ref a1)])) _
            refine XS.iload X5.here hx rfl (hb hby d2_20) rfl ?_
            exact k)
          obtain ⟨cl19, Ar19, q19, S19, M19, H19, G19⟩ := id V_a1
          have hin19 : ¬ ((1 : Int32) < 0 ∨ cl19.slots.size ≤ ((1 : Int32)).toNatClampNeg) := inb_of S19 ⟨by decide, by decide⟩
          have hat19 : cl19.slots[((1 : Int32)).toNatClampNeg]? = some (.int (own_get vs_a1 (1 : Int32))) := H19.at hin19 (own_getD vs_a1 (1 : Int32))
          have pre20 : ∀ t, Steps p.tables e below (T5.setTop (mkF m 25 #[.val (.ref a0), .val (.ref a1), .val (.int p2), .val (.long j14), .second, .val (.int (1 : Int32))] [(.int (92 : Int32)), (.int (own_get vs_a1 (1 : Int32)))])) t → Steps p.tables e below (s₁.setTop (entryFrame m #[(.ref a0), (.ref a1), (.int p2)] 6)) t := fun t k => pre18 t (by
            show Steps p.tables e below (T5.setTop (mkF m 22 #[.val (.ref a0), .val (.ref a1), .val (.int p2), .val (.long j14), .second, .val (.int (1 : Int32))] [(.int (1 : Int32)), (.ref a1)])) _
            refine X5.baloadBytes hx (j := (1 : Int32)) (v := (.int (own_get vs_a1 (1 : Int32)))) (by rw [e5]; exact Ar19.1) (State.isArrayOf_alike hZ.alike Ar19.2.1) Ar19.2.2 hin19 hat19 (g := (mkF m 22 #[.val (.ref a0), .val (.ref a1), .val (.int p2), .val (.long j14), .second, .val (.int (1 : Int32))] [(.int (1 : Int32)), (.ref a1)])) rfl rfl (hb hby d2_22) _ ?_
            show Steps p.tables e below (T5.setTop (mkF m 23 #[.val (.ref a0), .val (.ref a1), .val (.int p2), .val (.long j14), .second, .val (.int (1 : Int32))] [(.int (own_get vs_a1 (1 : Int32)))])) _
            refine XS.bipush X5.here hx rfl (hb hby d2_23) ?_
            exact k)
          obtain ⟨j22, hj22, pre23⟩ : ∃ (j22 : Int64), j22 = (if (own_get vs_a1 (1 : Int32)) = (92 : Int32) then (j14 + (1 : Int64)) else j14) ∧ ∀ t, Steps p.tables e below (T5.setTop (mkF m 32 #[.val (.ref a0), .val (.ref a1), .val (.int p2), .val (.long j22), .second, .val (.int (1 : Int32))] [])) t → Steps p.tables e below (s₁.setTop (entryFrame m #[(.ref a0), (.ref a1), (.int p2)] 6)) t := by
            by_cases hc21 : (own_get vs_a1 (1 : Int32)) = (92 : Int32)
            · exact ⟨(j14 + (1 : Int64)), (by rw [if_pos hc21]), fun t k => pre20 t (by
                show Steps p.tables e below (T5.setTop (mkF m 25 #[.val (.ref a0), .val (.ref a1), .val (.int p2), .val (.long j14), .second, .val (.int (1 : Int32))] [(.int (92 : Int32)), (.int (own_get vs_a1 (1 : Int32)))])) _
                refine XS.icmpNo X5.here hx rfl (hb hby d2_25) rfl (teq hc21).2 ?_
                show Steps p.tables e below (T5.setTop (mkF m 28 #[.val (.ref a0), .val (.ref a1), .val (.int p2), .val (.long j14), .second, .val (.int (1 : Int32))] [])) _
                refine XS.lloadN X5.here hx rfl (hb hby d2_28) rfl ?_
                show Steps p.tables e below (T5.setTop (mkF m 29 #[.val (.ref a0), .val (.ref a1), .val (.int p2), .val (.long j14), .second, .val (.int (1 : Int32))] [(.long j14)])) _
                refine XS.lconst X5.here hx rfl (hb hby d2_29) ?_
                show Steps p.tables e below (T5.setTop (mkF m 30 #[.val (.ref a0), .val (.ref a1), .val (.int p2), .val (.long j14), .second, .val (.int (1 : Int32))] [(.long (1 : Int64)), (.long j14)])) _
                refine XS.ladd X5.here hx rfl (hb hby d2_30) rfl ?_
                show Steps p.tables e below (T5.setTop (mkF m 31 #[.val (.ref a0), .val (.ref a1), .val (.int p2), .val (.long j14), .second, .val (.int (1 : Int32))] [(.long (j14 + (1 : Int64)))])) _
                refine XS.lstoreN X5.here hx rfl (hb hby d2_31) rfl (l' := #[.val (.ref a0), .val (.ref a1), .val (.int p2), .val (.long (j14 + (1 : Int64))), .second, .val (.int (1 : Int32))]) rfl ?_
                exact k)⟩
            · exact ⟨j14, (by rw [if_neg hc21]), fun t k => pre20 t (by
                show Steps p.tables e below (T5.setTop (mkF m 25 #[.val (.ref a0), .val (.ref a1), .val (.int p2), .val (.long j14), .second, .val (.int (1 : Int32))] [(.int (92 : Int32)), (.int (own_get vs_a1 (1 : Int32)))])) _
                refine XS.icmpYes X5.here hx rfl (pc0 := 25) (pc' := 32) rfl (hb hby d2_25) rfl (feq hc21).2 (by decide) (by decide) ?_
                exact k)⟩
          have pre24 : ∀ t, Steps p.tables e below (T5.setTop (mkF m 16 #[.val (.ref a0), .val (.ref a1), .val (.int p2), .val (.long j22), .second, .val (.int (2 : Int32))] [(.int p2), (.int (2 : Int32))])) t → Steps p.tables e below (s₁.setTop (entryFrame m #[(.ref a0), (.ref a1), (.int p2)] 6)) t := fun t k => pre23 t (by
            show Steps p.tables e below (T5.setTop (mkF m 32 #[.val (.ref a0), .val (.ref a1), .val (.int p2), .val (.long j22), .second, .val (.int (1 : Int32))] [])) _
            refine XS.iinc X5.here hx rfl (hb hby d2_32) rfl (l' := #[.val (.ref a0), .val (.ref a1), .val (.int p2), .val (.long j22), .second, .val (.int (2 : Int32))]) rfl ?_
            show Steps p.tables e below (T5.setTop (mkF m 35 #[.val (.ref a0), .val (.ref a1), .val (.int p2), .val (.long j22), .second, .val (.int (2 : Int32))] [])) _
            refine XS.goto X5.here hx rfl (pc0 := 35) (pc' := 13) rfl (hb hby d2_35) (by decide) (by decide) ?_
            show Steps p.tables e below (T5.setTop (mkF m 13 #[.val (.ref a0), .val (.ref a1), .val (.int p2), .val (.long j22), .second, .val (.int (2 : Int32))] [])) _
            refine XS.iload X5.here hx rfl (hb hby d2_13) rfl ?_
            show Steps p.tables e below (T5.setTop (mkF m 15 #[.val (.ref a0), .val (.ref a1), .val (.int p2), .val (.long j22), .second, .val (.int (2 : Int32))] [(.int (2 : Int32))])) _
            refine XS.iloadN X5.here hx rfl (hb hby d2_15) rfl ?_
            exact k)
          by_cases hc25 : (2 : Int32) < p2
          · have pre26 : ∀ t, Steps p.tables e below (T5.setTop (mkF m 22 #[.val (.ref a0), .val (.ref a1), .val (.int p2), .val (.long j22), .second, .val (.int (2 : Int32))] [(.int (2 : Int32)), (.ref a1)])) t → Steps p.tables e below (s₁.setTop (entryFrame m #[(.ref a0), (.ref a1), (.int p2)] 6)) t := fun t k => pre24 t (by
              show Steps p.tables e below (T5.setTop (mkF m 16 #[.val (.ref a0), .val (.ref a1), .val (.int p2), .val (.long j22), .second, .val (.int (2 : Int32))] [(.int p2), (.int (2 : Int32))])) _
              refine XS.icmpNo X5.here hx rfl (hb hby d2_16) rfl (tlt hc25).2.1 ?_
              show Steps p.tables e below (T5.setTop (mkF m 19 #[.val (.ref a0), .val (.ref a1), .val (.int p2), .val (.long j22), .second, .val (.int (2 : Int32))] [])) _
              refine XS.aloadN X5.here hx rfl (hb hby d2_19) rfl rfl ?_
              show Steps p.tables e below (T5.setTop (mkF m 20 #[.val (.ref a0), .val (.ref a1), .val (.int p2), .val (.long j22), .second, .val (.int (2 : Int32))] [(.ref a1)])) _
              refine XS.iload X5.here hx rfl (hb hby d2_20) rfl ?_
              exact k)
            obtain ⟨cl27, Ar27, q27, S27, M27, H27, G27⟩ := id V_a1
            have hin27 : ¬ ((2 : Int32) < 0 ∨ cl27.slots.size ≤ ((2 : Int32)).toNatClampNeg) := inb_of S27 ⟨by decide, by decide⟩
            have hat27 : cl27.slots[((2 : Int32)).toNatClampNeg]? = some (.int (own_get vs_a1 (2 : Int32))) := H27.at hin27 (own_getD vs_a1 (2 : Int32))
            have pre28 : ∀ t, Steps p.tables e below (T5.setTop (mkF m 25 #[.val (.ref a0), .val (.ref a1), .val (.int p2), .val (.long j22), .second, .val (.int (2 : Int32))] [(.int (92 : Int32)), (.int (own_get vs_a1 (2 : Int32)))])) t → Steps p.tables e below (s₁.setTop (entryFrame m #[(.ref a0), (.ref a1), (.int p2)] 6)) t := fun t k => pre26 t (by
              show Steps p.tables e below (T5.setTop (mkF m 22 #[.val (.ref a0), .val (.ref a1), .val (.int p2), .val (.long j22), .second, .val (.int (2 : Int32))] [(.int (2 : Int32)), (.ref a1)])) _
              refine X5.baloadBytes hx (j := (2 : Int32)) (v := (.int (own_get vs_a1 (2 : Int32)))) (by rw [e5]; exact Ar27.1) (State.isArrayOf_alike hZ.alike Ar27.2.1) Ar27.2.2 hin27 hat27 (g := (mkF m 22 #[.val (.ref a0), .val (.ref a1), .val (.int p2), .val (.long j22), .second, .val (.int (2 : Int32))] [(.int (2 : Int32)), (.ref a1)])) rfl rfl (hb hby d2_22) _ ?_
              show Steps p.tables e below (T5.setTop (mkF m 23 #[.val (.ref a0), .val (.ref a1), .val (.int p2), .val (.long j22), .second, .val (.int (2 : Int32))] [(.int (own_get vs_a1 (2 : Int32)))])) _
              refine XS.bipush X5.here hx rfl (hb hby d2_23) ?_
              exact k)
            obtain ⟨j30, hj30, pre31⟩ : ∃ (j30 : Int64), j30 = (if (own_get vs_a1 (2 : Int32)) = (92 : Int32) then (j22 + (1 : Int64)) else j22) ∧ ∀ t, Steps p.tables e below (T5.setTop (mkF m 32 #[.val (.ref a0), .val (.ref a1), .val (.int p2), .val (.long j30), .second, .val (.int (2 : Int32))] [])) t → Steps p.tables e below (s₁.setTop (entryFrame m #[(.ref a0), (.ref a1), (.int p2)] 6)) t := by
              by_cases hc29 : (own_get vs_a1 (2 : Int32)) = (92 : Int32)
              · exact ⟨(j22 + (1 : Int64)), (by rw [if_pos hc29]), fun t k => pre28 t (by
                  show Steps p.tables e below (T5.setTop (mkF m 25 #[.val (.ref a0), .val (.ref a1), .val (.int p2), .val (.long j22), .second, .val (.int (2 : Int32))] [(.int (92 : Int32)), (.int (own_get vs_a1 (2 : Int32)))])) _
                  refine XS.icmpNo X5.here hx rfl (hb hby d2_25) rfl (teq hc29).2 ?_
                  show Steps p.tables e below (T5.setTop (mkF m 28 #[.val (.ref a0), .val (.ref a1), .val (.int p2), .val (.long j22), .second, .val (.int (2 : Int32))] [])) _
                  refine XS.lloadN X5.here hx rfl (hb hby d2_28) rfl ?_
                  show Steps p.tables e below (T5.setTop (mkF m 29 #[.val (.ref a0), .val (.ref a1), .val (.int p2), .val (.long j22), .second, .val (.int (2 : Int32))] [(.long j22)])) _
                  refine XS.lconst X5.here hx rfl (hb hby d2_29) ?_
                  show Steps p.tables e below (T5.setTop (mkF m 30 #[.val (.ref a0), .val (.ref a1), .val (.int p2), .val (.long j22), .second, .val (.int (2 : Int32))] [(.long (1 : Int64)), (.long j22)])) _
                  refine XS.ladd X5.here hx rfl (hb hby d2_30) rfl ?_
                  show Steps p.tables e below (T5.setTop (mkF m 31 #[.val (.ref a0), .val (.ref a1), .val (.int p2), .val (.long j22), .second, .val (.int (2 : Int32))] [(.long (j22 + (1 : Int64)))])) _
                  refine XS.lstoreN X5.here hx rfl (hb hby d2_31) rfl (l' := #[.val (.ref a0), .val (.ref a1), .val (.int p2), .val (.long (j22 + (1 : Int64))), .second, .val (.int (2 : Int32))]) rfl ?_
                  exact k)⟩
              · exact ⟨j22, (by rw [if_neg hc29]), fun t k => pre28 t (by
                  show Steps p.tables e below (T5.setTop (mkF m 25 #[.val (.ref a0), .val (.ref a1), .val (.int p2), .val (.long j22), .second, .val (.int (2 : Int32))] [(.int (92 : Int32)), (.int (own_get vs_a1 (2 : Int32)))])) _
                  refine XS.icmpYes X5.here hx rfl (pc0 := 25) (pc' := 32) rfl (hb hby d2_25) rfl (feq hc29).2 (by decide) (by decide) ?_
                  exact k)⟩
            have pre32 : ∀ t, Steps p.tables e below (T5.setTop (mkF m 16 #[.val (.ref a0), .val (.ref a1), .val (.int p2), .val (.long j30), .second, .val (.int (3 : Int32))] [(.int p2), (.int (3 : Int32))])) t → Steps p.tables e below (s₁.setTop (entryFrame m #[(.ref a0), (.ref a1), (.int p2)] 6)) t := fun t k => pre31 t (by
              show Steps p.tables e below (T5.setTop (mkF m 32 #[.val (.ref a0), .val (.ref a1), .val (.int p2), .val (.long j30), .second, .val (.int (2 : Int32))] [])) _
              refine XS.iinc X5.here hx rfl (hb hby d2_32) rfl (l' := #[.val (.ref a0), .val (.ref a1), .val (.int p2), .val (.long j30), .second, .val (.int (3 : Int32))]) rfl ?_
              show Steps p.tables e below (T5.setTop (mkF m 35 #[.val (.ref a0), .val (.ref a1), .val (.int p2), .val (.long j30), .second, .val (.int (3 : Int32))] [])) _
              refine XS.goto X5.here hx rfl (pc0 := 35) (pc' := 13) rfl (hb hby d2_35) (by decide) (by decide) ?_
              show Steps p.tables e below (T5.setTop (mkF m 13 #[.val (.ref a0), .val (.ref a1), .val (.int p2), .val (.long j30), .second, .val (.int (3 : Int32))] [])) _
              refine XS.iload X5.here hx rfl (hb hby d2_13) rfl ?_
              show Steps p.tables e below (T5.setTop (mkF m 15 #[.val (.ref a0), .val (.ref a1), .val (.int p2), .val (.long j30), .second, .val (.int (3 : Int32))] [(.int (3 : Int32))])) _
              refine XS.iloadN X5.here hx rfl (hb hby d2_15) rfl ?_
              exact k)
            by_cases hc33 : (3 : Int32) < p2
            · have pre34 : ∀ t, Steps p.tables e below (T5.setTop (mkF m 22 #[.val (.ref a0), .val (.ref a1), .val (.int p2), .val (.long j30), .second, .val (.int (3 : Int32))] [(.int (3 : Int32)), (.ref a1)])) t → Steps p.tables e below (s₁.setTop (entryFrame m #[(.ref a0), (.ref a1), (.int p2)] 6)) t := fun t k => pre32 t (by
                show Steps p.tables e below (T5.setTop (mkF m 16 #[.val (.ref a0), .val (.ref a1), .val (.int p2), .val (.long j30), .second, .val (.int (3 : Int32))] [(.int p2), (.int (3 : Int32))])) _
                refine XS.icmpNo X5.here hx rfl (hb hby d2_16) rfl (tlt hc33).2.1 ?_
                show Steps p.tables e below (T5.setTop (mkF m 19 #[.val (.ref a0), .val (.ref a1), .val (.int p2), .val (.long j30), .second, .val (.int (3 : Int32))] [])) _
                refine XS.aloadN X5.here hx rfl (hb hby d2_19) rfl rfl ?_
                show Steps p.tables e below (T5.setTop (mkF m 20 #[.val (.ref a0), .val (.ref a1), .val (.int p2), .val (.long j30), .second, .val (.int (3 : Int32))] [(.ref a1)])) _
                refine XS.iload X5.here hx rfl (hb hby d2_20) rfl ?_
                exact k)
              obtain ⟨cl35, Ar35, q35, S35, M35, H35, G35⟩ := id V_a1
              have hin35 : ¬ ((3 : Int32) < 0 ∨ cl35.slots.size ≤ ((3 : Int32)).toNatClampNeg) := inb_of S35 ⟨by decide, by decide⟩
              have hat35 : cl35.slots[((3 : Int32)).toNatClampNeg]? = some (.int (own_get vs_a1 (3 : Int32))) := H35.at hin35 (own_getD vs_a1 (3 : Int32))
              have pre36 : ∀ t, Steps p.tables e below (T5.setTop (mkF m 25 #[.val (.ref a0), .val (.ref a1), .val (.int p2), .val (.long j30), .second, .val (.int (3 : Int32))] [(.int (92 : Int32)), (.int (own_get vs_a1 (3 : Int32)))])) t → Steps p.tables e below (s₁.setTop (entryFrame m #[(.ref a0), (.ref a1), (.int p2)] 6)) t := fun t k => pre34 t (by
                show Steps p.tables e below (T5.setTop (mkF m 22 #[.val (.ref a0), .val (.ref a1), .val (.int p2), .val (.long j30), .second, .val (.int (3 : Int32))] [(.int (3 : Int32)), (.ref a1)])) _
                refine X5.baloadBytes hx (j := (3 : Int32)) (v := (.int (own_get vs_a1 (3 : Int32)))) (by rw [e5]; exact Ar35.1) (State.isArrayOf_alike hZ.alike Ar35.2.1) Ar35.2.2 hin35 hat35 (g := (mkF m 22 #[.val (.ref a0), .val (.ref a1), .val (.int p2), .val (.long j30), .second, .val (.int (3 : Int32))] [(.int (3 : Int32)), (.ref a1)])) rfl rfl (hb hby d2_22) _ ?_
                show Steps p.tables e below (T5.setTop (mkF m 23 #[.val (.ref a0), .val (.ref a1), .val (.int p2), .val (.long j30), .second, .val (.int (3 : Int32))] [(.int (own_get vs_a1 (3 : Int32)))])) _
                refine XS.bipush X5.here hx rfl (hb hby d2_23) ?_
                exact k)
              obtain ⟨j38, hj38, pre39⟩ : ∃ (j38 : Int64), j38 = (if (own_get vs_a1 (3 : Int32)) = (92 : Int32) then (j30 + (1 : Int64)) else j30) ∧ ∀ t, Steps p.tables e below (T5.setTop (mkF m 32 #[.val (.ref a0), .val (.ref a1), .val (.int p2), .val (.long j38), .second, .val (.int (3 : Int32))] [])) t → Steps p.tables e below (s₁.setTop (entryFrame m #[(.ref a0), (.ref a1), (.int p2)] 6)) t := by
                by_cases hc37 : (own_get vs_a1 (3 : Int32)) = (92 : Int32)
                · exact ⟨(j30 + (1 : Int64)), (by rw [if_pos hc37]), fun t k => pre36 t (by
                    show Steps p.tables e below (T5.setTop (mkF m 25 #[.val (.ref a0), .val (.ref a1), .val (.int p2), .val (.long j30), .second, .val (.int (3 : Int32))] [(.int (92 : Int32)), (.int (own_get vs_a1 (3 : Int32)))])) _
                    refine XS.icmpNo X5.here hx rfl (hb hby d2_25) rfl (teq hc37).2 ?_
                    show Steps p.tables e below (T5.setTop (mkF m 28 #[.val (.ref a0), .val (.ref a1), .val (.int p2), .val (.long j30), .second, .val (.int (3 : Int32))] [])) _
                    refine XS.lloadN X5.here hx rfl (hb hby d2_28) rfl ?_
                    show Steps p.tables e below (T5.setTop (mkF m 29 #[.val (.ref a0), .val (.ref a1), .val (.int p2), .val (.long j30), .second, .val (.int (3 : Int32))] [(.long j30)])) _
                    refine XS.lconst X5.here hx rfl (hb hby d2_29) ?_
                    show Steps p.tables e below (T5.setTop (mkF m 30 #[.val (.ref a0), .val (.ref a1), .val (.int p2), .val (.long j30), .second, .val (.int (3 : Int32))] [(.long (1 : Int64)), (.long j30)])) _
                    refine XS.ladd X5.here hx rfl (hb hby d2_30) rfl ?_
                    show Steps p.tables e below (T5.setTop (mkF m 31 #[.val (.ref a0), .val (.ref a1), .val (.int p2), .val (.long j30), .second, .val (.int (3 : Int32))] [(.long (j30 + (1 : Int64)))])) _
                    refine XS.lstoreN X5.here hx rfl (hb hby d2_31) rfl (l' := #[.val (.ref a0), .val (.ref a1), .val (.int p2), .val (.long (j30 + (1 : Int64))), .second, .val (.int (3 : Int32))]) rfl ?_
                    exact k)⟩
                · exact ⟨j30, (by rw [if_neg hc37]), fun t k => pre36 t (by
                    show Steps p.tables e below (T5.setTop (mkF m 25 #[.val (.ref a0), .val (.ref a1), .val (.int p2), .val (.long j30), .second, .val (.int (3 : Int32))] [(.int (92 : Int32)), (.int (own_get vs_a1 (3 : Int32)))])) _
                    refine XS.icmpYes X5.here hx rfl (pc0 := 25) (pc' := 32) rfl (hb hby d2_25) rfl (feq hc37).2 (by decide) (by decide) ?_
                    exact k)⟩
              have kown_end : ¬ ((4 : Int32) < p2) := own_end p2 vs_a1 hr v2 hv2 j14 hj14 j22 hj22 j30 hj30 j38 hj38 hc7 hc9 hc17 hc25 hc33
              exact ⟨j38, (.val (.int (4 : Int32))), (by subst hj38 hj30 hj22 hj14; simp only [if_pos hc7, if_pos hc9, if_pos hc17, if_pos hc25, if_pos hc33]), (One.val rfl), fun t k => pre39 t (by
                show Steps p.tables e below (T5.setTop (mkF m 32 #[.val (.ref a0), .val (.ref a1), .val (.int p2), .val (.long j38), .second, .val (.int (3 : Int32))] [])) _
                refine XS.iinc X5.here hx rfl (hb hby d2_32) rfl (l' := #[.val (.ref a0), .val (.ref a1), .val (.int p2), .val (.long j38), .second, .val (.int (4 : Int32))]) rfl ?_
                show Steps p.tables e below (T5.setTop (mkF m 35 #[.val (.ref a0), .val (.ref a1), .val (.int p2), .val (.long j38), .second, .val (.int (4 : Int32))] [])) _
                refine XS.goto X5.here hx rfl (pc0 := 35) (pc' := 13) rfl (hb hby d2_35) (by decide) (by decide) ?_
                show Steps p.tables e below (T5.setTop (mkF m 13 #[.val (.ref a0), .val (.ref a1), .val (.int p2), .val (.long j38), .second, .val (.int (4 : Int32))] [])) _
                refine XS.iload X5.here hx rfl (hb hby d2_13) rfl ?_
                show Steps p.tables e below (T5.setTop (mkF m 15 #[.val (.ref a0), .val (.ref a1), .val (.int p2), .val (.long j38), .second, .val (.int (4 : Int32))] [(.int (4 : Int32))])) _
                refine XS.iloadN X5.here hx rfl (hb hby d2_15) rfl ?_
                show Steps p.tables e below (T5.setTop (mkF m 16 #[.val (.ref a0), .val (.ref a1), .val (.int p2), .val (.long j38), .second, .val (.int (4 : Int32))] [(.int p2), (.int (4 : Int32))])) _
                refine XS.icmpYes X5.here hx rfl (pc0 := 16) (pc' := 38) rfl (hb hby d2_16) rfl (flt (kown_end : ¬ ((4 : Int32) < p2))).2.1 (by decide) (by decide) ?_
                exact k)⟩
            · exact ⟨j30, (.val (.int (3 : Int32))), (by subst hj30 hj22 hj14; simp only [if_pos hc7, if_pos hc9, if_pos hc17, if_pos hc25, if_neg hc33]), (One.val rfl), fun t k => pre32 t (by
                show Steps p.tables e below (T5.setTop (mkF m 16 #[.val (.ref a0), .val (.ref a1), .val (.int p2), .val (.long j30), .second, .val (.int (3 : Int32))] [(.int p2), (.int (3 : Int32))])) _
                refine XS.icmpYes X5.here hx rfl (pc0 := 16) (pc' := 38) rfl (hb hby d2_16) rfl (flt hc33).2.1 (by decide) (by decide) ?_
                exact k)⟩
          · exact ⟨j22, (.val (.int (2 : Int32))), (by subst hj22 hj14; simp only [if_pos hc7, if_pos hc9, if_pos hc17, if_neg hc25]), (One.val rfl), fun t k => pre24 t (by
              show Steps p.tables e below (T5.setTop (mkF m 16 #[.val (.ref a0), .val (.ref a1), .val (.int p2), .val (.long j22), .second, .val (.int (2 : Int32))] [(.int p2), (.int (2 : Int32))])) _
              refine XS.icmpYes X5.here hx rfl (pc0 := 16) (pc' := 38) rfl (hb hby d2_16) rfl (flt hc25).2.1 (by decide) (by decide) ?_
              exact k)⟩
        · exact ⟨j14, (.val (.int (1 : Int32))), (by subst hj14; simp only [if_pos hc7, if_pos hc9, if_neg hc17]), (One.val rfl), fun t k => pre16 t (by
            show Steps p.tables e below (T5.setTop (mkF m 16 #[.val (.ref a0), .val (.ref a1), .val (.int p2), .val (.long j14), .second, .val (.int (1 : Int32))] [(.int p2), (.int (1 : Int32))])) _
            refine XS.icmpYes X5.here hx rfl (pc0 := 16) (pc' := 38) rfl (hb hby d2_16) rfl (flt hc17).2.1 (by decide) (by decide) ?_
            exact k)⟩
      · exact ⟨v2, (.val (.int (0 : Int32))), (by rw [if_pos hc7, if_neg hc9]), (One.val rfl), fun t k => pre8 t (by
          show Steps p.tables e below (T5.setTop (mkF m 16 #[.val (.ref a0), .val (.ref a1), .val (.int p2), .val (.long v2), .second, .val (.int (0 : Int32))] [(.int p2), (.int (0 : Int32))])) _
          refine XS.icmpYes X5.here hx rfl (pc0 := 16) (pc' := 38) rfl (hb hby d2_16) rfl (flt hc9).2.1 (by decide) (by decide) ?_
          exact k)⟩
    · exact ⟨v2, (.unset), (by rw [if_neg hc7]), One.u, fun t k => pre6 t (by
        show Steps p.tables e below (T5.setTop (mkF m 7 #[.val (.ref a0), .val (.ref a1), .val (.int p2), .val (.long v2), .second, .unset] [(.ref w_BACKSLASHES_DOUBLED), (.ref a0)])) _
        refine Jvm.RoadKit.acmp (g := (mkF m 7 #[.val (.ref a0), .val (.ref a1), .val (.int p2), .val (.long v2), .second, .unset] [(.ref w_BACKSLASHES_DOUBLED), (.ref a0)])) X5 hx rfl rfl rfl (pc0 := 7) (pc' := 38) (same := false) rfl (hb hby d2_7) rfl (decide_eq_false fun q => hc7 (Value.ref.inj q)) (by decide) (by decide) ?_
        exact k)⟩
  obtain ⟨fs, hr, hrun, hended, hW, hsame⟩ := X5.leave (v := some (.long j40)) (fun h => by rw [Bd.returns] at h; cases h)
  refine ⟨_, _, pre42 _ ?_, hrun, hended, _, _, rfl, ?_, ⟨_, rfl⟩, hW, hsame.mono (by decide) (by decide)⟩
  · show Steps p.tables e below (T5.setTop (mkF m 38 #[.val (.ref a0), .val (.ref a1), .val (.int p2), .val (.long j40), .second, sl41] [])) _
    refine XS.lloadN X5.here hx rfl (hb hby d2_38) rfl ?_
    show Steps p.tables e below (T5.setTop (mkF m 39 #[.val (.ref a0), .val (.ref a1), .val (.int p2), .val (.long j40), .second, sl41] [(.long j40)])) _
    jvm_step X5.here [X5.here.top, hx, (hb hby d2_39), X5.method', Bd.returns, narrow]
    first | (intro acts; rw [hr _ acts rfl rfl rfl]) | rw [hr _ _ rfl rfl rfl]
    exact Steps.refl _
  · show Q2 Z a0 a1 p2 ka_a1 vs_a1 w_BACKSLASHES_DOUBLED h0 n0 _ T5.heap _
    rw [e5]
    exact ⟨congrArg (fun z => some (Value.long z)) (by subst hj40 hv2; rfl), N0, rfl⟩
theorem pd_0 : parseMethodDescriptor "(I)B" = some ⟨[.int], some .byte⟩ := by decide +kernel
theorem pd_1 : parseMethodDescriptor "([BI)J" = some ⟨[(.array .byte), .int], some .long⟩ := by decide +kernel
theorem pd_2 : parseMethodDescriptor "(BII)I" = some ⟨[.byte, .int, .int], some .int⟩ := by decide +kernel
theorem ef_0 (m : MethodId) (x0 : Int32) (x1 : Int32) (x2 : Int32) (x3 : Int32) (x4 : Int32) (x5 : Int32) : entryFrame m #[(.int x0), (.int x1), (.int x2), (.int x3), (.int x4), (.int x5)] maxLocals = mkF m 0 #[.val (.int x0), .val (.int x1), .val (.int x2), .val (.int x3), .val (.int x4), .val (.int x5), .unset, .unset, .unset, .unset, .unset, .unset, .unset, .unset] [] := by first | (simp [entryFrame, mkF, argsToLocals, Value.category, maxLocals]; done) | rfl
def f0 (p0 : Int32) (p1 : Int32) (p2 : Int32) (p3 : Int32) (p4 : Int32) (p5 : Int32) (w_PLAIN : Addr) (w_BACKSLASHES_DOUBLED : Addr) : Int32 := (let j3 : Int32 := (if (p0 &&& (1 : Int32)) = (0 : Int32) then (0 : Int32) else (1 : Int32)); (let j11 : Addr := (if j3 = (0 : Int32) then w_PLAIN else w_BACKSLASHES_DOUBLED); (let v16 : Int32 := ((p1 &&& (2147483647 : Int32)) % (5 : Int32)); (let v39 : Int64 := (f2 j11 v16 [(nar .byte (f1 p2)), (nar .byte (f1 p3)), (nar .byte (f1 p4)), (nar .byte (f1 p5))] w_BACKSLASHES_DOUBLED); (let v42 : Int64 := (v16.toInt64); (let j62 : Int64 := (if j3 = (0 : Int32) then v42 else ((((v42 + ((f3 (nar .byte (f1 p2)) (0 : Int32) v16).toInt64)) + ((f3 (nar .byte (f1 p3)) (1 : Int32) v16).toInt64)) + ((f3 (nar .byte (f1 p4)) (2 : Int32) v16).toInt64)) + ((f3 (nar .byte (f1 p5)) (3 : Int32) v16).toInt64))); (let j67 : Int32 := (if v39 = j62 then (1 : Int32) else (0 : Int32)); (nar .boolean j67))))))))
def Q0 (Z : State) (p0 : Int32) (p1 : Int32) (p2 : Int32) (p3 : Int32) (p4 : Int32) (p5 : Int32) (w_PLAIN : Addr) (w_BACKSLASHES_DOUBLED : Addr) (h0 : Heap) (n0 : Nat) (v : Option Value) (h : Heap) (L : List Loc) : Prop := v = some (.int (1 : Int32)) ∧ Fr n0 L
theorem own_pre1 (p0 : Int32) (p1 : Int32) (p2 : Int32) (p3 : Int32) (p4 : Int32) (p5 : Int32) (j3 : Int32) (hj3 : j3 = (if (p0 &&& (1 : Int32)) = (0 : Int32) then (0 : Int32) else (1 : Int32))) (j11 : Addr) (hj11 : j11 = (if j3 = (0 : Int32) then w_PLAIN else w_BACKSLASHES_DOUBLED)) (v16 : Int32) (hv16 : v16 = ((p1 &&& (2147483647 : Int32)) % (5 : Int32))) : (v16 : Int32).toInt ≤ 4 := by
  have m0 := c_mask p1 2147483647 31 (by decide) (by decide)
  have k : ((2 ^ 31 : Nat) : Int) = 2147483648 := by decide
  rw [k] at m0
  have r0 := (c_irem (p1 &&& (2147483647 : Int32)) 5 5 (by decide)).1 (by omega)
  rw [← hv16] at r0
  omega
set_option maxRecDepth 65536 in
set_option maxHeartbeats 40000000 in
theorem rm0 (l : Launch) (Z : State) (aw : Array Value) (hw : ∀ d ∈ tables_1, d.before aw Z = true) (ws : List Jvm.Cond) (p0 : Int32) (p1 : Int32) (p2 : Int32) (p3 : Int32) (p4 : Int32) (p5 : Int32) (w_PLAIN : Addr) (w_BACKSLASHES_DOUBLED : Addr) (h0 : Heap) (n0 : Nat) (Z0 : n0 ≤ h0.size) (S_PLAIN : Sta Z h0 "com/example/hyperslab/hyperslab/dap2/DataDds$StringForm" "PLAIN" "Lcom/example/hyperslab/hyperslab/dap2/DataDds$StringForm;" (.ref w_PLAIN)) (S_BACKSLASHES_DOUBLED : Sta Z h0 "com/example/hyperslab/hyperslab/dap2/DataDds$StringForm" "BACKSLASHES_DOUBLED" "Lcom/example/hyperslab/hyperslab/dap2/DataDds$StringForm;" (.ref w_BACKSLASHES_DOUBLED)) (E_w_PLAIN : Exa Z h0 w_PLAIN "com/example/hyperslab/hyperslab/dap2/DataDds$StringForm") (E_w_BACKSLASHES_DOUBLED : Exa Z h0 w_BACKSLASHES_DOUBLED "com/example/hyperslab/hyperslab/dap2/DataDds$StringForm") (hlaw : f0 p0 p1 p2 p3 p4 p5 w_PLAIN w_BACKSLASHES_DOUBLED = 1) :
    MetFree l x (head1 (Jvm.Cond.code x code maxLocals ret :: ws) room_1) (fun a U => a = #[(.int p0), (.int p1), (.int p2), (.int p3), (.int p4), (.int p5)] ∧ Z.Warmed39 U.vm ∧ U.heap = h0) (fun _ _ _ _ _ => True) (fun _ U o U' => ∃ v L, o = .returned v ∧ Q0 Z p0 p1 p2 p3 p4 p5 w_PLAIN w_BACKSLASHES_DOUBLED h0 n0 v U'.heap L ∧ FrameEnd U o U' L room_1.cells room_1.slots) := by
  refine MetFree.of_bodySF (plainFor_of_name pn_1) hisR ?_
  intro p e s m args below meth c s₁ Bd hml0 hP hK
  obtain ⟨rfl, hZ, hh⟩ := hP
  have hx := Bd.exec
  have hby := Bd.bytes
  have hml : c.maxLocals = 14 := hml0
  have hown : s.vm.findClass "com/example/hyperslab/hyperslab/dap2/StringFormSentLengthPinLaw" = some m.cls := findClass_of_methodNamed Bd.named
  have hnm := (name_of_methodNamed Bd.named Bd.method).1
  have X0 : Stand p l e room_1 s m #[(.int p0), (.int p1), (.int p2), (.int p3), (.int p4), (.int p5)] below meth c s₁ [] 0 0 := Stand.of_body Bd
  have e0 : s₁.heap = h0 := by rw [← hh, Bd.state]; rfl
  have N0 := Fr.nil n0
  have pre0 : ∀ t, Steps p.tables e below (s₁.setTop (mkF m 0 #[.val (.int p0), .val (.int p1), .val (.int p2), .val (.int p3), .val (.int p4), .val (.int p5), .unset, .unset, .unset, .unset, .unset, .unset, .unset, .unset] [])) t → Steps p.tables e below (s₁.setTop (entryFrame m #[(.int p0), (.int p1), (.int p2), (.int p3), (.int p4), (.int p5)] maxLocals)) t := fun t k => castTop (ef_0 m p0 p1 p2 p3 p4 p5) k
  have pre1 : ∀ t, Steps p.tables e below (s₁.setTop (mkF m 3 #[.val (.int p0), .val (.int p1), .val (.int p2), .val (.int p3), .val (.int p4), .val (.int p5), .unset, .unset, .unset, .unset, .unset, .unset, .unset, .unset] [(.int (p0 &&& (1 : Int32)))])) t → Steps p.tables e below (s₁.setTop (entryFrame m #[(.int p0), (.int p1), (.int p2), (.int p3), (.int p4), (.int p5)] maxLocals)) t := fun t k => pre0 t (by
    show Steps p.tables e below (s₁.setTop (mkF m 0 #[.val (.int p0), .val (.int p1), .val (.int p2), .val (.int p3), .val (.int p4), .val (.int p5), .unset, .unset, .unset, .unset, .unset, .unset, .unset, .unset] [])) _
    refine XS.iloadN X0.here hx rfl (hb hby at_0) rfl ?_
    show Steps p.tables e below (s₁.setTop (mkF m 1 #[.val (.int p0), .val (.int p1), .val (.int p2), .val (.int p3), .val (.int p4), .val (.int p5), .unset, .unset, .unset, .unset, .unset, .unset, .unset, .unset] [(.int p0)])) _
    refine XS.iconst X0.here hx rfl (hb hby at_1) ?_
    show Steps p.tables e below (s₁.setTop (mkF m 2 #[.val (.int p0), .val (.int p1), .val (.int p2), .val (.int p3), .val (.int p4), .val (.int p5), .unset, .unset, .unset, .unset, .unset, .unset, .unset, .unset] [(.int (1 : Int32)), (.int p0)])) _
    refine XS.iand X0.here hx rfl (hb hby at_2) rfl ?_
    exact k)
  obtain ⟨j3, hj3, pre4⟩ : ∃ (j3 : Int32), j3 = (if (p0 &&& (1 : Int32)) = (0 : Int32) then (0 : Int32) else (1 : Int32)) ∧ ∀ t, Steps p.tables e below (s₁.setTop (mkF m 11 #[.val (.int p0), .val (.int p1), .val (.int p2), .val (.int p3), .val (.int p4), .val (.int p5), .unset, .unset, .unset, .unset, .unset, .unset, .unset, .unset] [(.int j3)])) t → Steps p.tables e below (s₁.setTop (entryFrame m #[(.int p0), (.int p1), (.int p2), (.int p3), (.int p4), (.int p5)] maxLocals)) t := by
    by_cases hc2 : (p0 &&& (1 : Int32)) = (0 : Int32)
    · exact ⟨(0 : Int32), (by rw [if_pos hc2]), fun t k => pre1 t (by
        show Steps p.tables e below (s₁.setTop (mkF m 3 #[.val (.int p0), .val (.int p1), .val (.int p2), .val (.int p3), .val (.int p4), .val (.int p5), .unset, .unset, .unset, .unset, .unset, .unset, .unset, .unset] [(.int (p0 &&& (1 : Int32)))])) _
        refine XS.ifYes X0.here hx rfl (pc0 := 3) (pc' := 10) rfl (hb hby at_3) rfl ((if0 _ _).trans (teq hc2).1) (by decide) (by decide) ?_
        show Steps p.tables e below (s₁.setTop (mkF m 10 #[.val (.int p0), .val (.int p1), .val (.int p2), .val (.int p3), .val (.int p4), .val (.int p5), .unset, .unset, .unset, .unset, .unset, .unset, .unset, .unset] [])) _
        refine XS.iconst X0.here hx rfl (hb hby at_10) ?_
        exact k)⟩
    · exact ⟨(1 : Int32), (by rw [if_neg hc2]), fun t k => pre1 t (by
        show Steps p.tables e below (s₁.setTop (mkF m 3 #[.val (.int p0), .val (.int p1), .val (.int p2), .val (.int p3), .val (.int p4), .val (.int p5), .unset, .unset, .unset, .unset, .unset, .unset, .unset, .unset] [(.int (p0 &&& (1 : Int32)))])) _
        refine XS.ifNo X0.here hx rfl (hb hby at_3) rfl ((if0 _ _).trans (feq hc2).1) ?_
        show Steps p.tables e below (s₁.setTop (mkF m 6 #[.val (.int p0), .val (.int p1), .val (.int p2), .val (.int p3), .val (.int p4), .val (.int p5), .unset, .unset, .unset, .unset, .unset, .unset, .unset, .unset] [])) _
        refine XS.iconst X0.here hx rfl (hb hby at_6) ?_
        show Steps p.tables e below (s₁.setTop (mkF m 7 #[.val (.int p0), .val (.int p1), .val (.int p2), .val (.int p3), .val (.int p4), .val (.int p5), .unset, .unset, .unset, .unset, .unset, .unset, .unset, .unset] [(.int (1 : Int32))])) _
        refine XS.goto X0.here hx rfl (pc0 := 7) (pc' := 11) rfl (hb hby at_7) (by decide) (by decide) ?_
        exact k)⟩
  have pre5 : ∀ t, Steps p.tables e below (s₁.setTop (mkF m 15 #[.val (.int p0), .val (.int p1), .val (.int p2), .val (.int p3), .val (.int p4), .val (.int p5), .val (.int j3), .unset, .unset, .unset, .unset, .unset, .unset, .unset] [(.int j3)])) t → Steps p.tables e below (s₁.setTop (entryFrame m #[(.int p0), (.int p1), (.int p2), (.int p3), (.int p4), (.int p5)] maxLocals)) t := fun t k => pre4 t (by
    show Steps p.tables e below (s₁.setTop (mkF m 11 #[.val (.int p0), .val (.int p1), .val (.int p2), .val (.int p3), .val (.int p4), .val (.int p5), .unset, .unset, .unset, .unset, .unset, .unset, .unset, .unset] [(.int j3)])) _
    refine XS.istore X0.here hx rfl (hb hby at_11) rfl (l' := #[.val (.int p0), .val (.int p1), .val (.int p2), .val (.int p3), .val (.int p4), .val (.int p5), .val (.int j3), .unset, .unset, .unset, .unset, .unset, .unset, .unset]) rfl ?_
    show Steps p.tables e below (s₁.setTop (mkF m 13 #[.val (.int p0), .val (.int p1), .val (.int p2), .val (.int p3), .val (.int p4), .val (.int p5), .val (.int j3), .unset, .unset, .unset, .unset, .unset, .unset, .unset] [])) _
    refine XS.iload X0.here hx rfl (hb hby at_13) rfl ?_
    exact k)
  obtain ⟨T13, LjT13, j11, X13, N13, e13, hj11, pre12⟩ : ∃ (T13 : State) (LjT13 : List Loc) (j11 : Addr), Stand p l e room_1 s m #[(.int p0), (.int p1), (.int p2), (.int p3), (.int p4), (.int p5)] below meth c T13 LjT13 0 0 ∧ Fr n0 LjT13 ∧ T13.heap = h0 ∧ j11 = (if j3 = (0 : Int32) then w_PLAIN else w_BACKSLASHES_DOUBLED) ∧ ∀ t, Steps p.tables e below (T13.setTop (mkF m 27 #[.val (.int p0), .val (.int p1), .val (.int p2), .val (.int p3), .val (.int p4), .val (.int p5), .val (.int j3), .unset, .unset, .unset, .unset, .unset, .unset, .unset] [(.ref j11)])) t → Steps p.tables e below (s₁.setTop (entryFrame m #[(.int p0), (.int p1), (.int p2), (.int p3), (.int p4), (.int p5)] maxLocals)) t := by
    by_cases hc6 : j3 = (0 : Int32)
    · have pre7 : ∀ t, Steps p.tables e below (s₁.setTop (mkF m 24 #[.val (.int p0), .val (.int p1), .val (.int p2), .val (.int p3), .val (.int p4), .val (.int p5), .val (.int j3), .unset, .unset, .unset, .unset, .unset, .unset, .unset] [])) t → Steps p.tables e below (s₁.setTop (entryFrame m #[(.int p0), (.int p1), (.int p2), (.int p3), (.int p4), (.int p5)] maxLocals)) t := fun t k => pre5 t (by
        show Steps p.tables e below (s₁.setTop (mkF m 15 #[.val (.int p0), .val (.int p1), .val (.int p2), .val (.int p3), .val (.int p4), .val (.int p5), .val (.int j3), .unset, .unset, .unset, .unset, .unset, .unset, .unset] [(.int j3)])) _
        refine XS.ifYes X0.here hx rfl (pc0 := 15) (pc' := 24) rfl (hb hby at_15) rfl ((if0 _ _).trans (teq hc6).1) (by decide) (by decide) ?_
        exact k)
      obtain ⟨T8, X8, e8, st8⟩ := getS2 X0 hx hZ hown (host := "") (Or.inl (hw _ (List.mem_of_getElem? (i := 0) rfl))) Via.refl e0 S_PLAIN (g := (mkF m 24 #[.val (.int p0), .val (.int p1), .val (.int p2), .val (.int p3), .val (.int p4), .val (.int p5), .val (.int j3), .unset, .unset, .unset, .unset, .unset, .unset, .unset] [])) rfl (hb hby at_24)
      exact ⟨_, _, w_PLAIN, X8, N0, e8, (by rw [if_pos hc6]), fun t k => pre7 t (by
        show Steps p.tables e below (s₁.setTop (mkF m 24 #[.val (.int p0), .val (.int p1), .val (.int p2), .val (.int p3), .val (.int p4), .val (.int p5), .val (.int j3), .unset, .unset, .unset, .unset, .unset, .unset, .unset] [])) _
        refine st8 _ ?_
        exact k)⟩
    · have pre9 : ∀ t, Steps p.tables e below (s₁.setTop (mkF m 18 #[.val (.int p0), .val (.int p1), .val (.int p2), .val (.int p3), .val (.int p4), .val (.int p5), .val (.int j3), .unset, .unset, .unset, .unset, .unset, .unset, .unset] [])) t → Steps p.tables e below (s₁.setTop (entryFrame m #[(.int p0), (.int p1), (.int p2), (.int p3), (.int p4), (.int p5)] maxLocals)) t := fun t k => pre5 t (by
        show Steps p.tables e below (s₁.setTop (mkF m 15 #[.val (.int p0), .val (.int p1), .val (.int p2), .val (.int p3), .val (.int p4), .val (.int p5), .val (.int j3), .unset, .unset, .unset, .unset, .unset, .unset, .unset] [(.int j3)])) _
        refine XS.ifNo X0.here hx rfl (hb hby at_15) rfl ((if0 _ _).trans (feq hc6).1) ?_
        exact k)
      obtain ⟨T10, X10, e10, st10⟩ := getS2 X0 hx hZ hown (host := "") (Or.inl (hw _ (List.mem_of_getElem? (i := 16) rfl))) Via.refl e0 S_BACKSLASHES_DOUBLED (g := (mkF m 18 #[.val (.int p0), .val (.int p1), .val (.int p2), .val (.int p3), .val (.int p4), .val (.int p5), .val (.int j3), .unset, .unset, .unset, .unset, .unset, .unset, .unset] [])) rfl (hb hby at_18)
      exact ⟨_, _, w_BACKSLASHES_DOUBLED, X10, N0, e10, (by rw [if_neg hc6]), fun t k => pre9 t (by
        show Steps p.tables e below (s₁.setTop (mkF m 18 #[.val (.int p0), .val (.int p1), .val (.int p2), .val (.int p3), .val (.int p4), .val (.int p5), .val (.int j3), .unset, .unset, .unset, .unset, .unset, .unset, .unset] [])) _
        refine st10 _ ?_
        show Steps p.tables e below (T10.setTop (mkF m 21 #[.val (.int p0), .val (.int p1), .val (.int p2), .val (.int p3), .val (.int p4), .val (.int p5), .val (.int j3), .unset, .unset, .unset, .unset, .unset, .unset, .unset] [(.ref w_BACKSLASHES_DOUBLED)])) _
        refine XS.goto X10.here hx rfl (pc0 := 21) (pc' := 27) rfl (hb hby at_21) (by decide) (by decide) ?_
        exact k)⟩
  have pre14 : ∀ t, Steps p.tables e below (T13.setTop (mkF m 29 #[.val (.int p0), .val (.int p1), .val (.int p2), .val (.int p3), .val (.int p4), .val (.int p5), .val (.int j3), .val (.ref j11), .unset, .unset, .unset, .unset, .unset, .unset] [])) t → Steps p.tables e below (s₁.setTop (entryFrame m #[(.int p0), (.int p1), (.int p2), (.int p3), (.int p4), (.int p5)] maxLocals)) t := fun t k => pre12 t (by
    show Steps p.tables e below (T13.setTop (mkF m 27 #[.val (.int p0), .val (.int p1), .val (.int p2), .val (.int p3), .val (.int p4), .val (.int p5), .val (.int j3), .unset, .unset, .unset, .unset, .unset, .unset, .unset] [(.ref j11)])) _
    refine XS.astore X13.here hx rfl (hb hby at_27) rfl rfl (l' := #[.val (.int p0), .val (.int p1), .val (.int p2), .val (.int p3), .val (.int p4), .val (.int p5), .val (.int j3), .val (.ref j11), .unset, .unset, .unset, .unset, .unset, .unset]) rfl ?_
    exact k)
  have E_j11 : Exa Z h0 j11 "com/example/hyperslab/hyperslab/dap2/DataDds$StringForm" := by rw [hj11]; split <;> assumption
  have pre15 : ∀ t, Steps p.tables e below (T13.setTop (mkF m 35 #[.val (.int p0), .val (.int p1), .val (.int p2), .val (.int p3), .val (.int p4), .val (.int p5), .val (.int j3), .val (.ref j11), .unset, .unset, .unset, .unset, .unset, .unset] [(.int ((p1 &&& (2147483647 : Int32)) % (5 : Int32)))])) t → Steps p.tables e below (s₁.setTop (entryFrame m #[(.int p0), (.int p1), (.int p2), (.int p3), (.int p4), (.int p5)] maxLocals)) t := fun t k => pre14 t (by
    show Steps p.tables e below (T13.setTop (mkF m 29 #[.val (.int p0), .val (.int p1), .val (.int p2), .val (.int p3), .val (.int p4), .val (.int p5), .val (.int j3), .val (.ref j11), .unset, .unset, .unset, .unset, .unset, .unset] [])) _
    refine XS.iloadN X13.here hx rfl (hb hby at_29) rfl ?_
    show Steps p.tables e below (T13.setTop (mkF m 30 #[.val (.int p0), .val (.int p1), .val (.int p2), .val (.int p3), .val (.int p4), .val (.int p5), .val (.int j3), .val (.ref j11), .unset, .unset, .unset, .unset, .unset, .unset] [(.int p1)])) _
    refine X13.ldcInt hx hown (mvT hZ (hw _ (List.mem_of_getElem? (i := 3) rfl))) (g := (mkF m 30 #[.val (.int p0), .val (.int p1), .val (.int p2), .val (.int p3), .val (.int p4), .val (.int p5), .val (.int j3), .val (.ref j11), .unset, .unset, .unset, .unset, .unset, .unset] [(.int p1)])) rfl (hb hby at_30) _ ?_
    show Steps p.tables e below (T13.setTop (mkF m 32 #[.val (.int p0), .val (.int p1), .val (.int p2), .val (.int p3), .val (.int p4), .val (.int p5), .val (.int j3), .val (.ref j11), .unset, .unset, .unset, .unset, .unset, .unset] [(.int (2147483647 : Int32)), (.int p1)])) _
    refine XS.iand X13.here hx rfl (hb hby at_32) rfl ?_
    show Steps p.tables e below (T13.setTop (mkF m 33 #[.val (.int p0), .val (.int p1), .val (.int p2), .val (.int p3), .val (.int p4), .val (.int p5), .val (.int j3), .val (.ref j11), .unset, .unset, .unset, .unset, .unset, .unset] [(.int (p1 &&& (2147483647 : Int32)))])) _
    refine XS.iconst X13.here hx rfl (hb hby at_33) ?_
    show Steps p.tables e below (T13.setTop (mkF m 34 #[.val (.int p0), .val (.int p1), .val (.int p2), .val (.int p3), .val (.int p4), .val (.int p5), .val (.int j3), .val (.ref j11), .unset, .unset, .unset, .unset, .unset, .unset] [(.int (5 : Int32)), (.int (p1 &&& (2147483647 : Int32)))])) _
    refine iremM X13 hx rfl (hb hby at_34) rfl (by decide) ?_
    exact k)
  obtain ⟨v16, hv16⟩ : ∃ z : Int32, z = ((p1 &&& (2147483647 : Int32)) % (5 : Int32)) := ⟨_, rfl⟩
  have pre17 : ∀ t, Steps p.tables e below (T13.setTop (mkF m 35 #[.val (.int p0), .val (.int p1), .val (.int p2), .val (.int p3), .val (.int p4), .val (.int p5), .val (.int j3), .val (.ref j11), .unset, .unset, .unset, .unset, .unset, .unset] [(.int v16)])) t → Steps p.tables e below (s₁.setTop (entryFrame m #[(.int p0), (.int p1), (.int p2), (.int p3), (.int p4), (.int p5)] maxLocals)) t := fun t k => pre15 t (by rw [hv16] at k; exact k)
  have pre18 : ∀ t, Steps p.tables e below (T13.setTop (mkF m 38 #[.val (.int p0), .val (.int p1), .val (.int p2), .val (.int p3), .val (.int p4), .val (.int p5), .val (.int j3), .val (.ref j11), .val (.int v16), .unset, .unset, .unset, .unset, .unset] [(.int (4 : Int32))])) t → Steps p.tables e below (s₁.setTop (entryFrame m #[(.int p0), (.int p1), (.int p2), (.int p3), (.int p4), (.int p5)] maxLocals)) t := fun t k => pre17 t (by
    show Steps p.tables e below (T13.setTop (mkF m 35 #[.val (.int p0), .val (.int p1), .val (.int p2), .val (.int p3), .val (.int p4), .val (.int p5), .val (.int j3), .val (.ref j11), .unset, .unset, .unset, .unset, .unset, .unset] [(.int v16)])) _
    refine XS.istore X13.here hx rfl (hb hby at_35) rfl (l' := #[.val (.int p0), .val (.int p1), .val (.int p2), .val (.int p3), .val (.int p4), .val (.int p5), .val (.int j3), .val (.ref j11), .val (.int v16), .unset, .unset, .unset, .unset, .unset]) rfl ?_
    show Steps p.tables e below (T13.setTop (mkF m 37 #[.val (.int p0), .val (.int p1), .val (.int p2), .val (.int p3), .val (.int p4), .val (.int p5), .val (.int j3), .val (.ref j11), .val (.int v16), .unset, .unset, .unset, .unset, .unset] [])) _
    refine XS.iconst X13.here hx rfl (hb hby at_37) ?_
    exact k)
  obtain ⟨T19, h19, k19, X19, e19, E19, A19, st19⟩ := newP X13 hx hZ (hw _ (List.mem_of_getElem? (i := 4) rfl)) e13 (g := (mkF m 38 #[.val (.int p0), .val (.int p1), .val (.int p2), .val (.int p3), .val (.int p4), .val (.int p5), .val (.int j3), .val (.ref j11), .val (.int v16), .unset, .unset, .unset, .unset, .unset] [(.int (4 : Int32))])) rfl (hb hby at_38) rfl (by decide) (cap := 4) (by decide) (by decide) (by decide) (by decide)
  obtain ⟨b19, g19⟩ : ∃ z, z = h0.size := ⟨_, rfl⟩
  have ne_w_BACKSLASHES_DOUBLED_b19 : w_BACKSLASHES_DOUBLED ≠ b19 := Nat.ne_of_lt (Nat.lt_of_lt_of_le E_w_BACKSLASHES_DOUBLED.lt (Nat.le_of_eq g19.symm))
  have ne_w_PLAIN_b19 : w_PLAIN ≠ b19 := Nat.ne_of_lt (Nat.lt_of_lt_of_le E_w_PLAIN.lt (Nat.le_of_eq g19.symm))
  have ne_j11_b19 : j11 ≠ b19 := Nat.ne_of_lt (Nat.lt_of_lt_of_le E_j11.lt (Nat.le_of_eq g19.symm))
  have g_b19 : n0 ≤ b19 := Nat.le_trans Z0 (Nat.le_of_eq g19.symm)
  have sz_b19 : h0.size ≤ b19 := Nat.le_trans (Keep.refl h0 []).1 (Nat.le_of_eq g19.symm)
  rw [← g19] at A19 st19
  have S_PLAIN_19 := S_PLAIN.ext E19
  have S_BACKSLASHES_DOUBLED_19 := S_BACKSLASHES_DOUBLED.ext E19
  have E_w_PLAIN_19 := E_w_PLAIN.ext E19
  have E_w_BACKSLASHES_DOUBLED_19 := E_w_BACKSLASHES_DOUBLED.ext E19
  have E_j11_19 := E_j11.ext E19
  have K19 : Keep h0 h19 [] := (Keep.refl h0 []).ext E19
  have Z19 : n0 ≤ h19.size := Nat.le_trans Z0 E19.1
  have V_b19 : Arv Z h19 b19 k19 .byte (4 : Int32) [(.int (0 : Int32)), (.int (0 : Int32)), (.int (0 : Int32)), (.int (0 : Int32))] (.int (0 : Int32)) := (Arv.new A19 (by decide)).pad (pad_rep [] (.int (0 : Int32)) 4)
  have pre20 : ∀ t, Steps p.tables e below (T19.setTop (mkF m 46 #[.val (.int p0), .val (.int p1), .val (.int p2), .val (.int p3), .val (.int p4), .val (.int p5), .val (.int j3), .val (.ref j11), .val (.int v16), .val (.ref b19), .unset, .unset, .unset, .unset] [(.int p2), (.int (0 : Int32)), (.ref b19)])) t → Steps p.tables e below (s₁.setTop (entryFrame m #[(.int p0), (.int p1), (.int p2), (.int p3), (.int p4), (.int p5)] maxLocals)) t := fun t k => pre18 t (by
    show Steps p.tables e below (T13.setTop (mkF m 38 #[.val (.int p0), .val (.int p1), .val (.int p2), .val (.int p3), .val (.int p4), .val (.int p5), .val (.int j3), .val (.ref j11), .val (.int v16), .unset, .unset, .unset, .unset, .unset] [(.int (4 : Int32))])) _
    refine st19 _ ?_
    show Steps p.tables e below (T19.setTop (mkF m 40 #[.val (.int p0), .val (.int p1), .val (.int p2), .val (.int p3), .val (.int p4), .val (.int p5), .val (.int j3), .val (.ref j11), .val (.int v16), .unset, .unset, .unset, .unset, .unset] [(.ref b19)])) _
    refine XS.astore X19.here hx rfl (hb hby at_40) rfl rfl (l' := #[.val (.int p0), .val (.int p1), .val (.int p2), .val (.int p3), .val (.int p4), .val (.int p5), .val (.int j3), .val (.ref j11), .val (.int v16), .val (.ref b19), .unset, .unset, .unset, .unset]) rfl ?_
    show Steps p.tables e below (T19.setTop (mkF m 42 #[.val (.int p0), .val (.int p1), .val (.int p2), .val (.int p3), .val (.int p4), .val (.int p5), .val (.int j3), .val (.ref j11), .val (.int v16), .val (.ref b19), .unset, .unset, .unset, .unset] [])) _
    refine XS.aload X19.here hx rfl (hb hby at_42) rfl rfl ?_
    show Steps p.tables e below (T19.setTop (mkF m 44 #[.val (.int p0), .val (.int p1), .val (.int p2), .val (.int p3), .val (.int p4), .val (.int p5), .val (.int j3), .val (.ref j11), .val (.int v16), .val (.ref b19), .unset, .unset, .unset, .unset] [(.ref b19)])) _
    refine XS.iconst X19.here hx rfl (hb hby at_44) ?_
    show Steps p.tables e below (T19.setTop (mkF m 45 #[.val (.int p0), .val (.int p1), .val (.int p2), .val (.int p3), .val (.int p4), .val (.int p5), .val (.int j3), .val (.ref j11), .val (.int v16), .val (.ref b19), .unset, .unset, .unset, .unset] [(.int (0 : Int32)), (.ref b19)])) _
    refine XS.iloadN X19.here hx rfl (hb hby at_45) rfl ?_
    exact k)
  obtain ⟨_, _, ⟨T21, L21, k21, n21⟩, -, X21, ⟨Lc21, hQ21, l21, y21, z21⟩, st21⟩ := Jvm.LawKit.callS X19 hx (y := (⟨"com/example/hyperslab/hyperslab/dap2/StringFormSentLengthPinLaw", "drawn", "(I)B"⟩ : MethodName)) hown (mvT hZ (hw _ (List.mem_of_getElem? (i := 5) rfl))) (mvT hZ (hw _ (List.mem_of_getElem? (i := 6) rfl))) (mvT hZ (hw _ (List.mem_of_getElem? (i := 7) rfl))) (mvT hZ (hw _ (List.mem_of_getElem? (i := 8) rfl))) (by decide) (backOf (W := 2) (rm1 l Z aw hw [] p2 h19 n0 Z19) hZ (hw _ (List.mem_of_getElem? (i := 8) rfl)) (hw _ (List.mem_of_getElem? (i := 7) rfl)) (by decide) (by decide)) (g := (mkF m 46 #[.val (.int p0), .val (.int p1), .val (.int p2), .val (.int p3), .val (.int p4), .val (.int p5), .val (.int j3), .val (.ref j11), .val (.int v16), .val (.ref b19), .unset, .unset, .unset, .unset] [(.int p2), (.int (0 : Int32)), (.ref b19)])) rfl (by rw [hml]; rfl) (argsL := [(.int p2)]) (rest := [(.int (0 : Int32)), (.ref b19)]) (lenOf pd_0 rfl) rfl (by show 2 * 0 + _ ≤ _; exact Nat.le_of_eq rfl) (hb hby at_46) (fun _ _ => ⟨rfl, e19, (by decide : 1 + 0 ≤ _), (by decide : 4 + 0 ≤ _)⟩)
  dsimp only [Pt.U, Pt.locs, Pt.cells, Pt.slots] at X21 l21 y21 z21 st21 hQ21
  subst l21 y21 z21
  obtain ⟨rfl, N21q, e21⟩ := hQ21
  have N21 := Fr.app N13 N21q
  have pre22 : ∀ t, Steps p.tables e below (T21.setTop (mkF m 49 #[.val (.int p0), .val (.int p1), .val (.int p2), .val (.int p3), .val (.int p4), .val (.int p5), .val (.int j3), .val (.ref j11), .val (.int v16), .val (.ref b19), .unset, .unset, .unset, .unset] [(.int (f1 p2)), (.int (0 : Int32)), (.ref b19)])) t → Steps p.tables e below (s₁.setTop (entryFrame m #[(.int p0), (.int p1), (.int p2), (.int p3), (.int p4), (.int p5)] maxLocals)) t := fun t k => pre20 t (by
    show Steps p.tables e below (T19.setTop (mkF m 46 #[.val (.int p0), .val (.int p1), .val (.int p2), .val (.int p3), .val (.int p4), .val (.int p5), .val (.int j3), .val (.ref j11), .val (.int v16), .val (.ref b19), .unset, .unset, .unset, .unset] [(.int p2), (.int (0 : Int32)), (.ref b19)])) _
    refine st21 _ ?_
    exact k)
  obtain ⟨cl23, Ar23, q23, S23, M23, H23, G23⟩ := id V_b19
  have hin23 : ¬ ((0 : Int32) < 0 ∨ cl23.slots.size ≤ ((0 : Int32)).toNatClampNeg) := inb_of S23 ⟨by decide, by decide⟩
  obtain ⟨T23, h23, X23, e23, W23, st23⟩ := stB X21 hx hZ e21 Ar23 (j := (0 : Int32)) hin23 (g := (mkF m 49 #[.val (.int p0), .val (.int p1), .val (.int p2), .val (.int p3), .val (.int p4), .val (.int p5), .val (.int j3), .val (.ref j11), .val (.int v16), .val (.ref b19), .unset, .unset, .unset, .unset] [(.int (f1 p2)), (.int (0 : Int32)), (.ref b19)])) rfl rfl (hb hby at_49)
  have V_b19_23 : Arv Z h23 b19 k19 .byte (4 : Int32) [(.int (nar .byte (f1 p2))), (.int (0 : Int32)), (.int (0 : Int32)), (.int (0 : Int32))] (.int (0 : Int32)) := Arv.set Ar23 q23 S23 M23 H23 G23 (fits_nar_byte _) W23 0 rfl (Nat.le_of_ble_eq_true rfl)
  have S_PLAIN_23 := S_PLAIN_19.wr W23
  have S_BACKSLASHES_DOUBLED_23 := S_BACKSLASHES_DOUBLED_19.wr W23
  have E_w_PLAIN_23 := E_w_PLAIN_19.wr W23
  have E_w_BACKSLASHES_DOUBLED_23 := E_w_BACKSLASHES_DOUBLED_19.wr W23
  have E_j11_23 := E_j11_19.wr W23
  have K23 : Keep h0 h23 [] := K19.wr W23 (Or.inr sz_b19)
  have N23 := Fr.snoc X23 N21 g_b19
  have Z23 : n0 ≤ h23.size := Nat.le_trans Z19 (Nat.le_of_eq W23.size.symm)
  have pre24 : ∀ t, Steps p.tables e below (T23.setTop (mkF m 54 #[.val (.int p0), .val (.int p1), .val (.int p2), .val (.int p3), .val (.int p4), .val (.int p5), .val (.int j3), .val (.ref j11), .val (.int v16), .val (.ref b19), .unset, .unset, .unset, .unset] [(.int p3), (.int (1 : Int32)), (.ref b19)])) t → Steps p.tables e below (s₁.setTop (entryFrame m #[(.int p0), (.int p1), (.int p2), (.int p3), (.int p4), (.int p5)] maxLocals)) t := fun t k => pre22 t (by
    show Steps p.tables e below (T21.setTop (mkF m 49 #[.val (.int p0), .val (.int p1), .val (.int p2), .val (.int p3), .val (.int p4), .val (.int p5), .val (.int j3), .val (.ref j11), .val (.int v16), .val (.ref b19), .unset, .unset, .unset, .unset] [(.int (f1 p2)), (.int (0 : Int32)), (.ref b19)])) _
    refine st23 _ ?_
    show Steps p.tables e below (T23.setTop (mkF m 50 #[.val (.int p0), .val (.int p1), .val (.int p2), .val (.int p3), .val (.int p4), .val (.int p5), .val (.int j3), .val (.ref j11), .val (.int v16), .val (.ref b19), .unset, .unset, .unset, .unset] [])) _
    refine XS.aload X23.here hx rfl (hb hby at_50) rfl rfl ?_
    show Steps p.tables e below (T23.setTop (mkF m 52 #[.val (.int p0), .val (.int p1), .val (.int p2), .val (.int p3), .val (.int p4), .val (.int p5), .val (.int j3), .val (.ref j11), .val (.int v16), .val (.ref b19), .unset, .unset, .unset, .unset] [(.ref b19)])) _
    refine XS.iconst X23.here hx rfl (hb hby at_52) ?_
    show Steps p.tables e below (T23.setTop (mkF m 53 #[.val (.int p0), .val (.int p1), .val (.int p2), .val (.int p3), .val (.int p4), .val (.int p5), .val (.int j3), .val (.ref j11), .val (.int v16), .val (.ref b19), .unset, .unset, .unset, .unset] [(.int (1 : Int32)), (.ref b19)])) _
    refine XS.iloadN X23.here hx rfl (hb hby at_53) rfl ?_
    exact k)
  obtain ⟨_, _, ⟨T25, L25, k25, n25⟩, -, X25, ⟨Lc25, hQ25, l25, y25, z25⟩, st25⟩ := Jvm.LawKit.callS X23 hx (y := (⟨"com/example/hyperslab/hyperslab/dap2/StringFormSentLengthPinLaw", "drawn", "(I)B"⟩ : MethodName)) hown (mvT hZ (hw _ (List.mem_of_getElem? (i := 5) rfl))) (mvT hZ (hw _ (List.mem_of_getElem? (i := 6) rfl))) (mvT hZ (hw _ (List.mem_of_getElem? (i := 7) rfl))) (mvT hZ (hw _ (List.mem_of_getElem? (i := 8) rfl))) (by decide) (backOf (W := 2) (rm1 l Z aw hw [] p3 h23 n0 Z23) hZ (hw _ (List.mem_of_getElem? (i := 8) rfl)) (hw _ (List.mem_of_getElem? (i := 7) rfl)) (by decide) (by decide)) (g := (mkF m 54 #[.val (.int p0), .val (.int p1), .val (.int p2), .val (.int p3), .val (.int p4), .val (.int p5), .val (.int j3), .val (.ref j11), .val (.int v16), .val (.ref b19), .unset, .unset, .unset, .unset] [(.int p3), (.int (1 : Int32)), (.ref b19)])) rfl (by rw [hml]; rfl) (argsL := [(.int p3)]) (rest := [(.int (1 : Int32)), (.ref b19)]) (lenOf pd_0 rfl) rfl (by show 2 * 0 + _ ≤ _; exact Nat.le_of_eq rfl) (hb hby at_54) (fun _ _ => ⟨rfl, e23, (by decide : 1 + 0 ≤ _), (by decide : 4 + 0 ≤ _)⟩)
  dsimp only [Pt.U, Pt.locs, Pt.cells, Pt.slots] at X25 l25 y25 z25 st25 hQ25
  subst l25 y25 z25
  obtain ⟨rfl, N25q, e25⟩ := hQ25
  have N25 := Fr.app N23 N25q
  have pre26 : ∀ t, Steps p.tables e below (T25.setTop (mkF m 57 #[.val (.int p0), .val (.int p1), .val (.int p2), .val (.int p3), .val (.int p4), .val (.int p5), .val (.int j3), .val (.ref j11), .val (.int v16), .val (.ref b19), .unset, .unset, .unset, .unset] [(.int (f1 p3)), (.int (1 : Int32)), (.ref b19)])) t → Steps p.tables e below (s₁.setTop (entryFrame m #[(.int p0), (.int p1), (.int p2), (.int p3), (.int p4), (.int p5)] maxLocals)) t := fun t k => pre24 t (by
    show Steps p.tables e below (T23.setTop (mkF m 54 #[.val (.int p0), .val (.int p1), .val (.int p2), .val (.int p3), .val (.int p4), .val (.int p5), .val (.int j3), .val (.ref j11), .val (.int v16), .val (.ref b19), .unset, .unset, .unset, .unset] [(.int p3), (.int (1 : Int32)), (.ref b19)])) _
    refine st25 _ ?_
    exact k)
  obtain ⟨cl27, Ar27, q27, S27, M27, H27, G27⟩ := id V_b19_23
  have hin27 : ¬ ((1 : Int32) < 0 ∨ cl27.slots.size ≤ ((1 : Int32)).toNatClampNeg) := inb_of S27 ⟨by decide, by decide⟩
  obtain ⟨T27, h27, X27, e27, W27, st27⟩ := stB X25 hx hZ e25 Ar27 (j := (1 : Int32)) hin27 (g := (mkF m 57 #[.val (.int p0), .val (.int p1), .val (.int p2), .val (.int p3), .val (.int p4), .val (.int p5), .val (.int j3), .val (.ref j11), .val (.int v16), .val (.ref b19), .unset, .unset, .unset, .unset] [(.int (f1 p3)), (.int (1 : Int32)), (.ref b19)])) rfl rfl (hb hby at_57)
  have V_b19_27 : Arv Z h27 b19 k19 .byte (4 : Int32) [(.int (nar .byte (f1 p2))), (.int (nar .byte (f1 p3))), (.int (0 : Int32)), (.int (0 : Int32))] (.int (0 : Int32)) := Arv.set Ar27 q27 S27 M27 H27 G27 (fits_nar_byte _) W27 1 rfl (Nat.le_of_ble_eq_true rfl)
  have S_PLAIN_27 := S_PLAIN_23.wr W27
  have S_BACKSLASHES_DOUBLED_27 := S_BACKSLASHES_DOUBLED_23.wr W27
  have E_w_PLAIN_27 := E_w_PLAIN_23.wr W27
  have E_w_BACKSLASHES_DOUBLED_27 := E_w_BACKSLASHES_DOUBLED_23.wr W27
  have E_j11_27 := E_j11_23.wr W27
  have K27 : Keep h0 h27 [] := K23.wr W27 (Or.inr sz_b19)
  have N27 := Fr.snoc X27 N25 g_b19
  have Z27 : n0 ≤ h27.size := Nat.le_trans Z23 (Nat.le_of_eq W27.size.symm)
  have pre28 : ∀ t, Steps p.tables e below (T27.setTop (mkF m 63 #[.val (.int p0), .val (.int p1), .val (.int p2), .val (.int p3), .val (.int p4), .val (.int p5), .val (.int j3), .val (.ref j11), .val (.int v16), .val (.ref b19), .unset, .unset, .unset, .unset] [(.int p4), (.int (2 : Int32)), (.ref b19)])) t → Steps p.tables e below (s₁.setTop (entryFrame m #[(.int p0), (.int p1), (.int p2), (.int p3), (.int p4), (.int p5)] maxLocals)) t := fun t k => pre26 t (by
    show Steps p.tables e below (T25.setTop (mkF m 57 #[.val (.int p0), .val (.int p1), .val (.int p2), .val (.int p3), .val (.int p4), .val (.int p5), .val (.int j3), .val (.ref j11), .val (.int v16), .val (.ref b19), .unset, .unset, .unset, .unset] [(.int (f1 p3)), (.int (1 : Int32)), (.ref b19)])) _
    refine st27 _ ?_
    show Steps p.tables e below (T27.setTop (mkF m 58 #[.val (.int p0), .val (.int p1), .val (.int p2), .val (.int p3), .val (.int p4), .val (.int p5), .val (.int j3), .val (.ref j11), .val (.int v16), .val (.ref b19), .unset, .unset, .unset, .unset] [])) _
    refine XS.aload X27.here hx rfl (hb hby at_58) rfl rfl ?_
    show Steps p.tables e below (T27.setTop (mkF m 60 #[.val (.int p0), .val (.int p1), .val (.int p2), .val (.int p3), .val (.int p4), .val (.int p5), .val (.int j3), .val (.ref j11), .val (.int v16), .val (.ref b19), .unset, .unset, .unset, .unset] [(.ref b19)])) _
    refine XS.iconst X27.here hx rfl (hb hby at_60) ?_
    show Steps p.tables e below (T27.setTop (mkF m 61 #[.val (.int p0), .val (.int p1), .val (.int p2), .val (.int p3), .val (.int p4), .val (.int p5), .val (.int j3), .val (.ref j11), .val (.int v16), .val (.ref b19), .unset, .unset, .unset, .unset] [(.int (2 : Int32)), (.ref b19)])) _
    refine XS.iload X27.here hx rfl (hb hby at_61) rfl ?_
    exact k)
  obtain ⟨_, _, ⟨T29, L29, k29, n29⟩, -, X29, ⟨Lc29, hQ29, l29, y29, z29⟩, st29⟩ := Jvm.LawKit.callS X27 hx (y := (⟨"com/example/hyperslab/hyperslab/dap2/StringFormSentLengthPinLaw", "drawn", "(I)B"⟩ : MethodName)) hown (mvT hZ (hw _ (List.mem_of_getElem? (i := 5) rfl))) (mvT hZ (hw _ (List.mem_of_getElem? (i := 6) rfl))) (mvT hZ (hw _ (List.mem_of_getElem? (i := 7) rfl))) (mvT hZ (hw _ (List.mem_of_getElem? (i := 8) rfl))) (by decide) (backOf (W := 2) (rm1 l Z aw hw [] p4 h27 n0 Z27) hZ (hw _ (List.mem_of_getElem? (i := 8) rfl)) (hw _ (List.mem_of_getElem? (i := 7) rfl)) (by decide) (by decide)) (g := (mkF m 63 #[.val (.int p0), .val (.int p1), .val (.int p2), .val (.int p3), .val (.int p4), .val (.int p5), .val (.int j3), .val (.ref j11), .val (.int v16), .val (.ref b19), .unset, .unset, .unset, .unset] [(.int p4), (.int (2 : Int32)), (.ref b19)])) rfl (by rw [hml]; rfl) (argsL := [(.int p4)]) (rest := [(.int (2 : Int32)), (.ref b19)]) (lenOf pd_0 rfl) rfl (by show 2 * 0 + _ ≤ _; exact Nat.le_of_eq rfl) (hb hby at_63) (fun _ _ => ⟨rfl, e27, (by decide : 1 + 0 ≤ _), (by decide : 4 + 0 ≤ _)⟩)
  dsimp only [Pt.U, Pt.locs, Pt.cells, Pt.slots] at X29 l29 y29 z29 st29 hQ29
  subst l29 y29 z29
  obtain ⟨rfl, N29q, e29⟩ := hQ29
  have N29 := Fr.app N27 N29q
  have pre30 : ∀ t, Steps p.tables e below (T29.setTop (mkF m 66 #[.val (.int p0), .val (.int p1), .val (.int p2), .val (.int p3), .val (.int p4), .val (.int p5), .val (.int j3), .val (.ref j11), .val (.int v16), .val (.ref b19), .unset, .unset, .unset, .unset] [(.int (f1 p4)), (.int (2 : Int32)), (.ref b19)])) t → Steps p.tables e below (s₁.setTop (entryFrame m #[(.int p0), (.int p1), (.int p2), (.int p3), (.int p4), (.int p5)] maxLocals)) t := fun t k => pre28 t (by
    show Steps p.tables e below (T27.setTop (mkF m 63 #[.val (.int p0), .val (.int p1), .val (.int p2), .val (.int p3), .val (.int p4), .val (.int p5), .val (.int j3), .val (.ref j11), .val (.int v16), .val (.ref b19), .unset, .unset, .unset, .unset] [(.int p4), (.int (2 : Int32)), (.ref b19)])) _
    refine st29 _ ?_
    exact k)
  obtain ⟨cl31, Ar31, q31, S31, M31, H31, G31⟩ := id V_b19_27
  have hin31 : ¬ ((2 : Int32) < 0 ∨ cl31.slots.size ≤ ((2 : Int32)).toNatClampNeg) := inb_of S31 ⟨by decide, by decide⟩
  obtain ⟨T31, h31, X31, e31, W31, st31⟩ := stB X29 hx hZ e29 Ar31 (j := (2 : Int32)) hin31 (g := (mkF m 66 #[.val (.int p0), .val (.int p1), .val (.int p2), .val (.int p3), .val (.int p4), .val (.int p5), .val (.int j3), .val (.ref j11), .val (.int v16), .val (.ref b19), .unset, .unset, .unset, .unset] [(.int (f1 p4)), (.int (2 : Int32)), (.ref b19)])) rfl rfl (hb hby at_66)
  have V_b19_31 : Arv Z h31 b19 k19 .byte (4 : Int32) [(.int (nar .byte (f1 p2))), (.int (nar .byte (f1 p3))), (.int (nar .byte (f1 p4))), (.int (0 : Int32))] (.int (0 : Int32)) := Arv.set Ar31 q31 S31 M31 H31 G31 (fits_nar_byte _) W31 2 rfl (Nat.le_of_ble_eq_true rfl)
  have S_PLAIN_31 := S_PLAIN_27.wr W31
  have S_BACKSLASHES_DOUBLED_31 := S_BACKSLASHES_DOUBLED_27.wr W31
  have E_w_PLAIN_31 := E_w_PLAIN_27.wr W31
  have E_w_BACKSLASHES_DOUBLED_31 := E_w_BACKSLASHES_DOUBLED_27.wr W31
  have E_j11_31 := E_j11_27.wr W31
  have K31 : Keep h0 h31 [] := K27.wr W31 (Or.inr sz_b19)
  have N31 := Fr.snoc X31 N29 g_b19
  have Z31 : n0 ≤ h31.size := Nat.le_trans Z27 (Nat.le_of_eq W31.size.symm)
  have pre32 : ∀ t, Steps p.tables e below (T31.setTop (mkF m 72 #[.val (.int p0), .val (.int p1), .val (.int p2), .val (.int p3), .val (.int p4), .val (.int p5), .val (.int j3), .val (.ref j11), .val (.int v16), .val (.ref b19), .unset, .unset, .unset, .unset] [(.int p5), (.int (3 : Int32)), (.ref b19)])) t → Steps p.tables e below (s₁.setTop (entryFrame m #[(.int p0), (.int p1), (.int p2), (.int p3), (.int p4), (.int p5)] maxLocals)) t := fun t k => pre30 t (by
    show Steps p.tables e below (T29.setTop (mkF m 66 #[.val (.int p0), .val (.int p1), .val (.int p2), .val (.int p3), .val (.int p4), .val (.int p5), .val (.int j3), .val (.ref j11), .val (.int v16), .val (.ref b19), .unset, .unset, .unset, .unset] [(.int (f1 p4)), (.int (2 : Int32)), (.ref b19)])) _
    refine st31 _ ?_
    show Steps p.tables e below (T31.setTop (mkF m 67 #[.val (.int p0), .val (.int p1), .val (.int p2), .val (.int p3), .val (.int p4), .val (.int p5), .val (.int j3), .val (.ref j11), .val (.int v16), .val (.ref b19), .unset, .unset, .unset, .unset] [])) _
    refine XS.aload X31.here hx rfl (hb hby at_67) rfl rfl ?_
    show Steps p.tables e below (T31.setTop (mkF m 69 #[.val (.int p0), .val (.int p1), .val (.int p2), .val (.int p3), .val (.int p4), .val (.int p5), .val (.int j3), .val (.ref j11), .val (.int v16), .val (.ref b19), .unset, .unset, .unset, .unset] [(.ref b19)])) _
    refine XS.iconst X31.here hx rfl (hb hby at_69) ?_
    show Steps p.tables e below (T31.setTop (mkF m 70 #[.val (.int p0), .val (.int p1), .val (.int p2), .val (.int p3), .val (.int p4), .val (.int p5), .val (.int j3), .val (.ref j11), .val (.int v16), .val (.ref b19), .unset, .unset, .unset, .unset] [(.int (3 : Int32)), (.ref b19)])) _
    refine XS.iload X31.here hx rfl (hb hby at_70) rfl ?_
    exact k)
  obtain ⟨_, _, ⟨T33, L33, k33, n33⟩, -, X33, ⟨Lc33, hQ33, l33, y33, z33⟩, st33⟩ := Jvm.LawKit.callS X31 hx (y := (⟨"com/example/hyperslab/hyperslab/dap2/StringFormSentLengthPinLaw", "drawn", "(I)B"⟩ : MethodName)) hown (mvT hZ (hw _ (List.mem_of_getElem? (i := 5) rfl))) (mvT hZ (hw _ (List.mem_of_getElem? (i := 6) rfl))) (mvT hZ (hw _ (List.mem_of_getElem? (i := 7) rfl))) (mvT hZ (hw _ (List.mem_of_getElem? (i := 8) rfl))) (by decide) (backOf (W := 2) (rm1 l Z aw hw [] p5 h31 n0 Z31) hZ (hw _ (List.mem_of_getElem? (i := 8) rfl)) (hw _ (List.mem_of_getElem? (i := 7) rfl)) (by decide) (by decide)) (g := (mkF m 72 #[.val (.int p0), .val (.int p1), .val (.int p2), .val (.int p3), .val (.int p4), .val (.int p5), .val (.int j3), .val (.ref j11), .val (.int v16), .val (.ref b19), .unset, .unset, .unset, .unset] [(.int p5), (.int (3 : Int32)), (.ref b19)])) rfl (by rw [hml]; rfl) (argsL := [(.int p5)]) (rest := [(.int (3 : Int32)), (.ref b19)]) (lenOf pd_0 rfl) rfl (by show 2 * 0 + _ ≤ _; exact Nat.le_of_eq rfl) (hb hby at_72) (fun _ _ => ⟨rfl, e31, (by decide : 1 + 0 ≤ _), (by decide : 4 + 0 ≤ _)⟩)
  dsimp only [Pt.U, Pt.locs, Pt.cells, Pt.slots] at X33 l33 y33 z33 st33 hQ33
  subst l33 y33 z33
  obtain ⟨rfl, N33q, e33⟩ := hQ33
  have N33 := Fr.app N31 N33q
  have pre34 : ∀ t, Steps p.tables e below (T33.setTop (mkF m 75 #[.val (.int p0), .val (.int p1), .val (.int p2), .val (.int p3), .val (.int p4), .val (.int p5), .val (.int j3), .val (.ref j11), .val (.int v16), .val (.ref b19), .unset, .unset, .unset, .unset] [(.int (f1 p5)), (.int (3 : Int32)), (.ref b19)])) t → Steps p.tables e below (s₁.setTop (entryFrame m #[(.int p0), (.int p1), (.int p2), (.int p3), (.int p4), (.int p5)] maxLocals)) t := fun t k => pre32 t (by
    show Steps p.tables e below (T31.setTop (mkF m 72 #[.val (.int p0), .val (.int p1), .val (.int p2), .val (.int p3), .val (.int p4), .val (.int p5), .val (.int j3), .val (.ref j11), .val (.int v16), .val (.ref b19), .unset, .unset, .unset, .unset] [(.int p5), (.int (3 : Int32)), (.ref b19)])) _
    refine st33 _ ?_
    exact k)
  obtain ⟨cl35, Ar35, q35, S35, M35, H35, G35⟩ := id V_b19_31
  have hin35 : ¬ ((3 : Int32) < 0 ∨ cl35.slots.size ≤ ((3 : Int32)).toNatClampNeg) := inb_of S35 ⟨by decide, by decide⟩
  obtain ⟨T35, h35, X35, e35, W35, st35⟩ := stB X33 hx hZ e33 Ar35 (j := (3 : Int32)) hin35 (g := (mkF m 75 #[.val (.int p0), .val (.int p1), .val (.int p2), .val (.int p3), .val (.int p4), .val (.int p5), .val (.int j3), .val (.ref j11), .val (.int v16), .val (.ref b19), .unset, .unset, .unset, .unset] [(.int (f1 p5)), (.int (3 : Int32)), (.ref b19)])) rfl rfl (hb hby at_75)
  have V_b19_35 : Arv Z h35 b19 k19 .byte (4 : Int32) [(.int (nar .byte (f1 p2))), (.int (nar .byte (f1 p3))), (.int (nar .byte (f1 p4))), (.int (nar .byte (f1 p5)))] (.int (0 : Int32)) := Arv.set Ar35 q35 S35 M35 H35 G35 (fits_nar_byte _) W35 3 rfl (Nat.le_of_ble_eq_true rfl)
  have S_PLAIN_35 := S_PLAIN_31.wr W35
  have S_BACKSLASHES_DOUBLED_35 := S_BACKSLASHES_DOUBLED_31.wr W35
  have E_w_PLAIN_35 := E_w_PLAIN_31.wr W35
  have E_w_BACKSLASHES_DOUBLED_35 := E_w_BACKSLASHES_DOUBLED_31.wr W35
  have E_j11_35 := E_j11_31.wr W35
  have K35 : Keep h0 h35 [] := K31.wr W35 (Or.inr sz_b19)
  have N35 := Fr.snoc X35 N33 g_b19
  have Z35 : n0 ≤ h35.size := Nat.le_trans Z31 (Nat.le_of_eq W35.size.symm)
  have pre36 : ∀ t, Steps p.tables e below (T35.setTop (mkF m 82 #[.val (.int p0), .val (.int p1), .val (.int p2), .val (.int p3), .val (.int p4), .val (.int p5), .val (.int j3), .val (.ref j11), .val (.int v16), .val (.ref b19), .unset, .unset, .unset, .unset] [(.int v16), (.ref b19), (.ref j11)])) t → Steps p.tables e below (s₁.setTop (entryFrame m #[(.int p0), (.int p1), (.int p2), (.int p3), (.int p4), (.int p5)] maxLocals)) t := fun t k => pre34 t (by
    show Steps p.tables e below (T33.setTop (mkF m 75 #[.val (.int p0), .val (.int p1), .val (.int p2), .val (.int p3), .val (.int p4), .val (.int p5), .val (.int j3), .val (.ref j11), .val (.int v16), .val (.ref b19), .unset, .unset, .unset, .unset] [(.int (f1 p5)), (.int (3 : Int32)), (.ref b19)])) _
    refine st35 _ ?_
    show Steps p.tables e below (T35.setTop (mkF m 76 #[.val (.int p0), .val (.int p1), .val (.int p2), .val (.int p3), .val (.int p4), .val (.int p5), .val (.int j3), .val (.ref j11), .val (.int v16), .val (.ref b19), .unset, .unset, .unset, .unset] [])) _
    refine XS.aload X35.here hx rfl (hb hby at_76) rfl rfl ?_
    show Steps p.tables e below (T35.setTop (mkF m 78 #[.val (.int p0), .val (.int p1), .val (.int p2), .val (.int p3), .val (.int p4), .val (.int p5), .val (.int j3), .val (.ref j11), .val (.int v16), .val (.ref b19), .unset, .unset, .unset, .unset] [(.ref j11)])) _
    refine XS.aload X35.here hx rfl (hb hby at_78) rfl rfl ?_
    show Steps p.tables e below (T35.setTop (mkF m 80 #[.val (.int p0), .val (.int p1), .val (.int p2), .val (.int p3), .val (.int p4), .val (.int p5), .val (.int j3), .val (.ref j11), .val (.int v16), .val (.ref b19), .unset, .unset, .unset, .unset] [(.ref b19), (.ref j11)])) _
    refine XS.iload X35.here hx rfl (hb hby at_80) rfl ?_
    exact k)
  have kown_pre1 : (v16 : Int32).toInt ≤ 4 := own_pre1 p0 p1 p2 p3 p4 p5 j3 hj3 j11 hj11 v16 hv16
  obtain ⟨cq37, kq37, q37a, q37b, q37c⟩ := isOf hZ e35 E_j11_35
  obtain ⟨_, _, ⟨T37, L37, k37, n37⟩, -, X37, ⟨Lc37, hQ37, l37, y37, z37⟩, st37⟩ := X35.virtualBack hx (y := (⟨"com/example/hyperslab/hyperslab/dap2/DataDds$StringForm", "sentLength", "([BI)J"⟩ : MethodName)) (z := (⟨"com/example/hyperslab/hyperslab/dap2/DataDds$StringForm", "sentLength", "([BI)J"⟩ : MethodName)) hown (mvT hZ (hw _ (List.mem_of_getElem? (i := 9) rfl))) (mvT hZ (hw _ (List.mem_of_getElem? (i := 10) rfl))) (notFace_of_selects (args := #[]) (mvT hZ (hw _ (List.mem_of_getElem? (i := 12) rfl)))) (mvT hZ (hw _ (List.mem_of_getElem? (i := 12) rfl))) (mvT hZ (hw _ (List.mem_of_getElem? (i := 11) rfl))) (by decide) (backOf (W := 0) (rm2 l Z aw hw [] j11 b19 v16 k19 [(nar .byte (f1 p2)), (nar .byte (f1 p3)), (nar .byte (f1 p4)), (nar .byte (f1 p5))] w_BACKSLASHES_DOUBLED h35 n0 Z35 V_b19_35 kown_pre1 S_BACKSLASHES_DOUBLED_35) hZ (hw _ (List.mem_of_getElem? (i := 13) rfl)) (hw _ (List.mem_of_getElem? (i := 1) rfl)) (by decide) (by decide)) q37a q37c (g := (mkF m 82 #[.val (.int p0), .val (.int p1), .val (.int p2), .val (.int p3), .val (.int p4), .val (.int p5), .val (.int j3), .val (.ref j11), .val (.int v16), .val (.ref b19), .unset, .unset, .unset, .unset] [(.int v16), (.ref b19), (.ref j11)])) rfl (by rw [hml]; rfl) (Steps.refl _) (argsL := [(.ref b19), (.int v16)]) (rest := []) (lenOf pd_1 rfl) rfl (by show 2 * 0 + _ ≤ _; exact Nat.le_of_eq rfl) (hb hby at_82) (fun _ _ => ⟨rfl, e35, (by decide : 1 + 0 ≤ _), (by decide : 4 + 0 ≤ _)⟩)
  dsimp only [Pt.U, Pt.locs, Pt.cells, Pt.slots] at X37 l37 y37 z37 st37 hQ37
  subst l37 y37 z37
  obtain ⟨rfl, N37q, e37⟩ := hQ37
  have N37 := Fr.app N35 N37q
  have pre38 : ∀ t, Steps p.tables e below (T37.setTop (mkF m 85 #[.val (.int p0), .val (.int p1), .val (.int p2), .val (.int p3), .val (.int p4), .val (.int p5), .val (.int j3), .val (.ref j11), .val (.int v16), .val (.ref b19), .unset, .unset, .unset, .unset] [(.long (f2 j11 v16 [(nar .byte (f1 p2)), (nar .byte (f1 p3)), (nar .byte (f1 p4)), (nar .byte (f1 p5))] w_BACKSLASHES_DOUBLED))])) t → Steps p.tables e below (s₁.setTop (entryFrame m #[(.int p0), (.int p1), (.int p2), (.int p3), (.int p4), (.int p5)] maxLocals)) t := fun t k => pre36 t (by
    show Steps p.tables e below (T35.setTop (mkF m 82 #[.val (.int p0), .val (.int p1), .val (.int p2), .val (.int p3), .val (.int p4), .val (.int p5), .val (.int j3), .val (.ref j11), .val (.int v16), .val (.ref b19), .unset, .unset, .unset, .unset] [(.int v16), (.ref b19), (.ref j11)])) _
    refine st37.trans ?_
    exact k)
  obtain ⟨v39, hv39⟩ : ∃ z : Int64, z = (f2 j11 v16 [(nar .byte (f1 p2)), (nar .byte (f1 p3)), (nar .byte (f1 p4)), (nar .byte (f1 p5))] w_BACKSLASHES_DOUBLED) := ⟨_, rfl⟩
  have pre40 : ∀ t, Steps p.tables e below (T37.setTop (mkF m 85 #[.val (.int p0), .val (.int p1), .val (.int p2), .val (.int p3), .val (.int p4), .val (.int p5), .val (.int j3), .val (.ref j11), .val (.int v16), .val (.ref b19), .unset, .unset, .unset, .unset] [(.long v39)])) t → Steps p.tables e below (s₁.setTop (entryFrame m #[(.int p0), (.int p1), (.int p2), (.int p3), (.int p4), (.int p5)] maxLocals)) t := fun t k => pre38 t (by rw [hv39] at k; exact k)
  have pre41 : ∀ t, Steps p.tables e below (T37.setTop (mkF m 90 #[.val (.int p0), .val (.int p1), .val (.int p2), .val (.int p3), .val (.int p4), .val (.int p5), .val (.int j3), .val (.ref j11), .val (.int v16), .val (.ref b19), .val (.long v39), .second, .unset, .unset] [(.long (v16.toInt64))])) t → Steps p.tables e below (s₁.setTop (entryFrame m #[(.int p0), (.int p1), (.int p2), (.int p3), (.int p4), (.int p5)] maxLocals)) t := fun t k => pre40 t (by
    show Steps p.tables e below (T37.setTop (mkF m 85 #[.val (.int p0), .val (.int p1), .val (.int p2), .val (.int p3), .val (.int p4), .val (.int p5), .val (.int j3), .val (.ref j11), .val (.int v16), .val (.ref b19), .unset, .unset, .unset, .unset] [(.long v39)])) _
    refine XS.lstore X37.here hx rfl (hb hby at_85) rfl (l' := #[.val (.int p0), .val (.int p1), .val (.int p2), .val (.int p3), .val (.int p4), .val (.int p5), .val (.int j3), .val (.ref j11), .val (.int v16), .val (.ref b19), .val (.long v39), .second, .unset, .unset]) rfl ?_
    show Steps p.tables e below (T37.setTop (mkF m 87 #[.val (.int p0), .val (.int p1), .val (.int p2), .val (.int p3), .val (.int p4), .val (.int p5), .val (.int j3), .val (.ref j11), .val (.int v16), .val (.ref b19), .val (.long v39), .second, .unset, .unset] [])) _
    refine XS.iload X37.here hx rfl (hb hby at_87) rfl ?_
    show Steps p.tables e below (T37.setTop (mkF m 89 #[.val (.int p0), .val (.int p1), .val (.int p2), .val (.int p3), .val (.int p4), .val (.int p5), .val (.int j3), .val (.ref j11), .val (.int v16), .val (.ref b19), .val (.long v39), .second, .unset, .unset] [(.int v16)])) _
    refine XS.i2l X37.here hx rfl (hb hby at_89) rfl ?_
    exact k)
  obtain ⟨v42, hv42⟩ : ∃ z : Int64, z = (v16.toInt64) := ⟨_, rfl⟩
  have pre43 : ∀ t, Steps p.tables e below (T37.setTop (mkF m 90 #[.val (.int p0), .val (.int p1), .val (.int p2), .val (.int p3), .val (.int p4), .val (.int p5), .val (.int j3), .val (.ref j11), .val (.int v16), .val (.ref b19), .val (.long v39), .second, .unset, .unset] [(.long v42)])) t → Steps p.tables e below (s₁.setTop (entryFrame m #[(.int p0), (.int p1), (.int p2), (.int p3), (.int p4), (.int p5)] maxLocals)) t := fun t k => pre41 t (by rw [hv42] at k; exact k)
  have pre44 : ∀ t, Steps p.tables e below (T37.setTop (mkF m 94 #[.val (.int p0), .val (.int p1), .val (.int p2), .val (.int p3), .val (.int p4), .val (.int p5), .val (.int j3), .val (.ref j11), .val (.int v16), .val (.ref b19), .val (.long v39), .second, .val (.long v42), .second] [(.int j3)])) t → Steps p.tables e below (s₁.setTop (entryFrame m #[(.int p0), (.int p1), (.int p2), (.int p3), (.int p4), (.int p5)] maxLocals)) t := fun t k => pre43 t (by
    show Steps p.tables e below (T37.setTop (mkF m 90 #[.val (.int p0), .val (.int p1), .val (.int p2), .val (.int p3), .val (.int p4), .val (.int p5), .val (.int j3), .val (.ref j11), .val (.int v16), .val (.ref b19), .val (.long v39), .second, .unset, .unset] [(.long v42)])) _
    refine XS.lstore X37.here hx rfl (hb hby at_90) rfl (l' := #[.val (.int p0), .val (.int p1), .val (.int p2), .val (.int p3), .val (.int p4), .val (.int p5), .val (.int j3), .val (.ref j11), .val (.int v16), .val (.ref b19), .val (.long v39), .second, .val (.long v42), .second]) rfl ?_
    show Steps p.tables e below (T37.setTop (mkF m 92 #[.val (.int p0), .val (.int p1), .val (.int p2), .val (.int p3), .val (.int p4), .val (.int p5), .val (.int j3), .val (.ref j11), .val (.int v16), .val (.ref b19), .val (.long v39), .second, .val (.long v42), .second] [])) _
    refine XS.iload X37.here hx rfl (hb hby at_92) rfl ?_
    exact k)
  obtain ⟨T64, LjT64, j62, X64, N64, e64, hj62, pre63⟩ : ∃ (T64 : State) (LjT64 : List Loc) (j62 : Int64), Stand p l e room_1 s m #[(.int p0), (.int p1), (.int p2), (.int p3), (.int p4), (.int p5)] below meth c T64 LjT64 1 4 ∧ Fr n0 LjT64 ∧ T64.heap = h35 ∧ j62 = (if j3 = (0 : Int32) then v42 else ((((v42 + ((f3 (nar .byte (f1 p2)) (0 : Int32) v16).toInt64)) + ((f3 (nar .byte (f1 p3)) (1 : Int32) v16).toInt64)) + ((f3 (nar .byte (f1 p4)) (2 : Int32) v16).toInt64)) + ((f3 (nar .byte (f1 p5)) (3 : Int32) v16).toInt64))) ∧ ∀ t, Steps p.tables e below (T64.setTop (mkF m 149 #[.val (.int p0), .val (.int p1), .val (.int p2), .val (.int p3), .val (.int p4), .val (.int p5), .val (.int j3), .val (.ref j11), .val (.int v16), .val (.ref b19), .val (.long v39), .second, .val (.long j62), .second] [])) t → Steps p.tables e below (s₁.setTop (entryFrame m #[(.int p0), (.int p1), (.int p2), (.int p3), (.int p4), (.int p5)] maxLocals)) t := by
    by_cases hc45 : j3 = (0 : Int32)
    · exact ⟨_, _, v42, X37, N37, e37, (by rw [if_pos hc45]), fun t k => pre44 t (by
        show Steps p.tables e below (T37.setTop (mkF m 94 #[.val (.int p0), .val (.int p1), .val (.int p2), .val (.int p3), .val (.int p4), .val (.int p5), .val (.int j3), .val (.ref j11), .val (.int v16), .val (.ref b19), .val (.long v39), .second, .val (.long v42), .second] [(.int j3)])) _
        refine XS.ifYes X37.here hx rfl (pc0 := 94) (pc' := 149) rfl (hb hby at_94) rfl ((if0 _ _).trans (teq hc45).1) (by decide) (by decide) ?_
        exact k)⟩
    · have pre46 : ∀ t, Steps p.tables e below (T37.setTop (mkF m 102 #[.val (.int p0), .val (.int p1), .val (.int p2), .val (.int p3), .val (.int p4), .val (.int p5), .val (.int j3), .val (.ref j11), .val (.int v16), .val (.ref b19), .val (.long v39), .second, .val (.long v42), .second] [(.int (0 : Int32)), (.ref b19), (.long v42)])) t → Steps p.tables e below (s₁.setTop (entryFrame m #[(.int p0), (.int p1), (.int p2), (.int p3), (.int p4), (.int p5)] maxLocals)) t := fun t k => pre44 t (by
        show Steps p.tables e below (T37.setTop (mkF m 94 #[.val (.int p0), .val (.int p1), .val (.int p2), .val (.int p3), .val (.int p4), .val (.int p5), .val (.int j3), .val (.ref j11), .val (.int v16), .val (.ref b19), .val (.long v39), .second, .val (.long v42), .second] [(.int j3)])) _
        refine XS.ifNo X37.here hx rfl (hb hby at_94) rfl ((if0 _ _).trans (feq hc45).1) ?_
        show Steps p.tables e below (T37.setTop (mkF m 97 #[.val (.int p0), .val (.int p1), .val (.int p2), .val (.int p3), .val (.int p4), .val (.int p5), .val (.int j3), .val (.ref j11), .val (.int v16), .val (.ref b19), .val (.long v39), .second, .val (.long v42), .second] [])) _
        refine XS.lload X37.here hx rfl (hb hby at_97) rfl ?_
        show Steps p.tables e below (T37.setTop (mkF m 99 #[.val (.int p0), .val (.int p1), .val (.int p2), .val (.int p3), .val (.int p4), .val (.int p5), .val (.int j3), .val (.ref j11), .val (.int v16), .val (.ref b19), .val (.long v39), .second, .val (.long v42), .second] [(.long v42)])) _
        refine XS.aload X37.here hx rfl (hb hby at_99) rfl rfl ?_
        show Steps p.tables e below (T37.setTop (mkF m 101 #[.val (.int p0), .val (.int p1), .val (.int p2), .val (.int p3), .val (.int p4), .val (.int p5), .val (.int j3), .val (.ref j11), .val (.int v16), .val (.ref b19), .val (.long v39), .second, .val (.long v42), .second] [(.ref b19), (.long v42)])) _
        refine XS.iconst X37.here hx rfl (hb hby at_101) ?_
        exact k)
      obtain ⟨cl47, Ar47, q47, S47, M47, H47, G47⟩ := id V_b19_35
      have hin47 : ¬ ((0 : Int32) < 0 ∨ cl47.slots.size ≤ ((0 : Int32)).toNatClampNeg) := inb_of S47 ⟨by decide, by decide⟩
      have hat47 : cl47.slots[((0 : Int32)).toNatClampNeg]? = some (.int (nar .byte (f1 p2))) := H47.at hin47 rfl
      have pre48 : ∀ t, Steps p.tables e below (T37.setTop (mkF m 106 #[.val (.int p0), .val (.int p1), .val (.int p2), .val (.int p3), .val (.int p4), .val (.int p5), .val (.int j3), .val (.ref j11), .val (.int v16), .val (.ref b19), .val (.long v39), .second, .val (.long v42), .second] [(.int v16), (.int (0 : Int32)), (.int (nar .byte (f1 p2))), (.long v42)])) t → Steps p.tables e below (s₁.setTop (entryFrame m #[(.int p0), (.int p1), (.int p2), (.int p3), (.int p4), (.int p5)] maxLocals)) t := fun t k => pre46 t (by
        show Steps p.tables e below (T37.setTop (mkF m 102 #[.val (.int p0), .val (.int p1), .val (.int p2), .val (.int p3), .val (.int p4), .val (.int p5), .val (.int j3), .val (.ref j11), .val (.int v16), .val (.ref b19), .val (.long v39), .second, .val (.long v42), .second] [(.int (0 : Int32)), (.ref b19), (.long v42)])) _
        refine X37.baloadBytes hx (j := (0 : Int32)) (v := (.int (nar .byte (f1 p2)))) (by rw [e37]; exact Ar47.1) (State.isArrayOf_alike hZ.alike Ar47.2.1) Ar47.2.2 hin47 hat47 (g := (mkF m 102 #[.val (.int p0), .val (.int p1), .val (.int p2), .val (.int p3), .val (.int p4), .val (.int p5), .val (.int j3), .val (.ref j11), .val (.int v16), .val (.ref b19), .val (.long v39), .second, .val (.long v42), .second] [(.int (0 : Int32)), (.ref b19), (.long v42)])) rfl rfl (hb hby at_102) _ ?_
        show Steps p.tables e below (T37.setTop (mkF m 103 #[.val (.int p0), .val (.int p1), .val (.int p2), .val (.int p3), .val (.int p4), .val (.int p5), .val (.int j3), .val (.ref j11), .val (.int v16), .val (.ref b19), .val (.long v39), .second, .val (.long v42), .second] [(.int (nar .byte (f1 p2))), (.long v42)])) _
        refine XS.iconst X37.here hx rfl (hb hby at_103) ?_
        show Steps p.tables e below (T37.setTop (mkF m 104 #[.val (.int p0), .val (.int p1), .val (.int p2), .val (.int p3), .val (.int p4), .val (.int p5), .val (.int j3), .val (.ref j11), .val (.int v16), .val (.ref b19), .val (.long v39), .second, .val (.long v42), .second] [(.int (0 : Int32)), (.int (nar .byte (f1 p2))), (.long v42)])) _
        refine XS.iload X37.here hx rfl (hb hby at_104) rfl ?_
        exact k)
      obtain ⟨_, _, ⟨T49, L49, k49, n49⟩, -, X49, ⟨Lc49, hQ49, l49, y49, z49⟩, st49⟩ := Jvm.LawKit.callS X37 hx (y := (⟨"com/example/hyperslab/hyperslab/dap2/StringFormSentLengthPinLaw", "hit", "(BII)I"⟩ : MethodName)) hown (mvT hZ (hw _ (List.mem_of_getElem? (i := 17) rfl))) (mvT hZ (hw _ (List.mem_of_getElem? (i := 18) rfl))) (mvT hZ (hw _ (List.mem_of_getElem? (i := 7) rfl))) (mvT hZ (hw _ (List.mem_of_getElem? (i := 19) rfl))) (by decide) (backOf (W := 2) (rm3 l Z aw hw [] (nar .byte (f1 p2)) (0 : Int32) v16 h35 n0 Z35) hZ (hw _ (List.mem_of_getElem? (i := 19) rfl)) (hw _ (List.mem_of_getElem? (i := 7) rfl)) (by decide) (by decide)) (g := (mkF m 106 #[.val (.int p0), .val (.int p1), .val (.int p2), .val (.int p3), .val (.int p4), .val (.int p5), .val (.int j3), .val (.ref j11), .val (.int v16), .val (.ref b19), .val (.long v39), .second, .val (.long v42), .second] [(.int v16), (.int (0 : Int32)), (.int (nar .byte (f1 p2))), (.long v42)])) rfl (by rw [hml]; rfl) (argsL := [(.int (nar .byte (f1 p2))), (.int (0 : Int32)), (.int v16)]) (rest := [(.long v42)]) (lenOf pd_2 rfl) rfl (by show 2 * 0 + _ ≤ _; exact Nat.le_of_eq rfl) (hb hby at_106) (fun _ _ => ⟨rfl, e37, (by decide : 1 + 0 ≤ _), (by decide : 4 + 0 ≤ _)⟩)
      dsimp only [Pt.U, Pt.locs, Pt.cells, Pt.slots] at X49 l49 y49 z49 st49 hQ49
      subst l49 y49 z49
      obtain ⟨rfl, N49q, e49⟩ := hQ49
      have N49 := Fr.app N37 N49q
      have pre50 : ∀ t, Steps p.tables e below (T49.setTop (mkF m 114 #[.val (.int p0), .val (.int p1), .val (.int p2), .val (.int p3), .val (.int p4), .val (.int p5), .val (.int j3), .val (.ref j11), .val (.int v16), .val (.ref b19), .val (.long v39), .second, .val (.long v42), .second] [(.int (1 : Int32)), (.ref b19), (.long (v42 + ((f3 (nar .byte (f1 p2)) (0 : Int32) v16).toInt64)))])) t → Steps p.tables e below (s₁.setTop (entryFrame m #[(.int p0), (.int p1), (.int p2), (.int p3), (.int p4), (.int p5)] maxLocals)) t := fun t k => pre48 t (by
        show Steps p.tables e below (T37.setTop (mkF m 106 #[.val (.int p0), .val (.int p1), .val (.int p2), .val (.int p3), .val (.int p4), .val (.int p5), .val (.int j3), .val (.ref j11), .val (.int v16), .val (.ref b19), .val (.long v39), .second, .val (.long v42), .second] [(.int v16), (.int (0 : Int32)), (.int (nar .byte (f1 p2))), (.long v42)])) _
        refine st49 _ ?_
        show Steps p.tables e below (T49.setTop (mkF m 109 #[.val (.int p0), .val (.int p1), .val (.int p2), .val (.int p3), .val (.int p4), .val (.int p5), .val (.int j3), .val (.ref j11), .val (.int v16), .val (.ref b19), .val (.long v39), .second, .val (.long v42), .second] [(.int (f3 (nar .byte (f1 p2)) (0 : Int32) v16)), (.long v42)])) _
        refine XS.i2l X49.here hx rfl (hb hby at_109) rfl ?_
        show Steps p.tables e below (T49.setTop (mkF m 110 #[.val (.int p0), .val (.int p1), .val (.int p2), .val (.int p3), .val (.int p4), .val (.int p5), .val (.int j3), .val (.ref j11), .val (.int v16), .val (.ref b19), .val (.long v39), .second, .val (.long v42), .second] [(.long ((f3 (nar .byte (f1 p2)) (0 : Int32) v16).toInt64)), (.long v42)])) _
        refine XS.ladd X49.here hx rfl (hb hby at_110) rfl ?_
        show Steps p.tables e below (T49.setTop (mkF m 111 #[.val (.int p0), .val (.int p1), .val (.int p2), .val (.int p3), .val (.int p4), .val (.int p5), .val (.int j3), .val (.ref j11), .val (.int v16), .val (.ref b19), .val (.long v39), .second, .val (.long v42), .second] [(.long (v42 + ((f3 (nar .byte (f1 p2)) (0 : Int32) v16).toInt64)))])) _
        refine XS.aload X49.here hx rfl (hb hby at_111) rfl rfl ?_
        show Steps p.tables e below (T49.setTop (mkF m 113 #[.val (.int p0), .val (.int p1), .val (.int p2), .val (.int p3), .val (.int p4), .val (.int p5), .val (.int j3), .val (.ref j11), .val (.int v16), .val (.ref b19), .val (.long v39), .second, .val (.long v42), .second] [(.ref b19), (.long (v42 + ((f3 (nar .byte (f1 p2)) (0 : Int32) v16).toInt64)))])) _
        refine XS.iconst X49.here hx rfl (hb hby at_113) ?_
        exact k)
      obtain ⟨cl51, Ar51, q51, S51, M51, H51, G51⟩ := id V_b19_35
      have hin51 : ¬ ((1 : Int32) < 0 ∨ cl51.slots.size ≤ ((1 : Int32)).toNatClampNeg) := inb_of S51 ⟨by decide, by decide⟩
      have hat51 : cl51.slots[((1 : Int32)).toNatClampNeg]? = some (.int (nar .byte (f1 p3))) := H51.at hin51 rfl
      have pre52 : ∀ t, Steps p.tables e below (T49.setTop (mkF m 118 #[.val (.int p0), .val (.int p1), .val (.int p2), .val (.int p3), .val (.int p4), .val (.int p5), .val (.int j3), .val (.ref j11), .val (.int v16), .val (.ref b19), .val (.long v39), .second, .val (.long v42), .second] [(.int v16), (.int (1 : Int32)), (.int (nar .byte (f1 p3))), (.long (v42 + ((f3 (nar .byte (f1 p2)) (0 : Int32) v16).toInt64)))])) t → Steps p.tables e below (s₁.setTop (entryFrame m #[(.int p0), (.int p1), (.int p2), (.int p3), (.int p4), (.int p5)] maxLocals)) t := fun t k => pre50 t (by
        show Steps p.tables e below (T49.setTop (mkF m 114 #[.val (.int p0), .val (.int p1), .val (.int p2), .val (.int p3), .val (.int p4), .val (.int p5), .val (.int j3), .val (.ref j11), .val (.int v16), .val (.ref b19), .val (.long v39), .second, .val (.long v42), .second] [(.int (1 : Int32)), (.ref b19), (.long (v42 + ((f3 (nar .byte (f1 p2)) (0 : Int32) v16).toInt64)))])) _
        refine X49.baloadBytes hx (j := (1 : Int32)) (v := (.int (nar .byte (f1 p3)))) (by rw [e49]; exact Ar51.1) (State.isArrayOf_alike hZ.alike Ar51.2.1) Ar51.2.2 hin51 hat51 (g := (mkF m 114 #[.val (.int p0), .val (.int p1), .val (.int p2), .val (.int p3), .val (.int p4), .val (.int p5), .val (.int j3), .val (.ref j11), .val (.int v16), .val (.ref b19), .val (.long v39), .second, .val (.long v42), .second] [(.int (1 : Int32)), (.ref b19), (.long (v42 + ((f3 (nar .byte (f1 p2)) (0 : Int32) v16).toInt64)))])) rfl rfl (hb hby at_114) _ ?_
        show Steps p.tables e below (T49.setTop (mkF m 115 #[.val (.int p0), .val (.int p1), .val (.int p2), .val (.int p3), .val (.int p4), .val (.int p5), .val (.int j3), .val (.ref j11), .val (.int v16), .val (.ref b19), .val (.long v39), .second, .val (.long v42), .second] [(.int (nar .byte (f1 p3))), (.long (v42 + ((f3 (nar .byte (f1 p2)) (0 : Int32) v16).toInt64)))])) _
        refine XS.iconst X49.here hx rfl (hb hby at_115) ?_
        show Steps p.tables e below (T49.setTop (mkF m 116 #[.val (.int p0), .val (.int p1), .val (.int p2), .val (.int p3), .val (.int p4), .val (.int p5), .val (.int j3), .val (.ref j11), .val (.int v16), .val (.ref b19), .val (.long v39), .second, .val (.long v42), .second] [(.int (1 : Int32)), (.int (nar .byte (f1 p3))), (.long (v42 + ((f3 (nar .byte (f1 p2)) (0 : Int32) v16).toInt64)))])) _
        refine XS.iload X49.here hx rfl (hb hby at_116) rfl ?_
        exact k)
      obtain ⟨_, _, ⟨T53, L53, k53, n53⟩, -, X53, ⟨Lc53, hQ53, l53, y53, z53⟩, st53⟩ := Jvm.LawKit.callS X49 hx (y := (⟨"com/example/hyperslab/hyperslab/dap2/StringFormSentLengthPinLaw", "hit", "(BII)I"⟩ : MethodName)) hown (mvT hZ (hw _ (List.mem_of_getElem? (i := 17) rfl))) (mvT hZ (hw _ (List.mem_of_getElem? (i := 18) rfl))) (mvT hZ (hw _ (List.mem_of_getElem? (i := 7) rfl))) (mvT hZ (hw _ (List.mem_of_getElem? (i := 19) rfl))) (by decide) (backOf (W := 2) (rm3 l Z aw hw [] (nar .byte (f1 p3)) (1 : Int32) v16 h35 n0 Z35) hZ (hw _ (List.mem_of_getElem? (i := 19) rfl)) (hw _ (List.mem_of_getElem? (i := 7) rfl)) (by decide) (by decide)) (g := (mkF m 118 #[.val (.int p0), .val (.int p1), .val (.int p2), .val (.int p3), .val (.int p4), .val (.int p5), .val (.int j3), .val (.ref j11), .val (.int v16), .val (.ref b19), .val (.long v39), .second, .val (.long v42), .second] [(.int v16), (.int (1 : Int32)), (.int (nar .byte (f1 p3))), (.long (v42 + ((f3 (nar .byte (f1 p2)) (0 : Int32) v16).toInt64)))])) rfl (by rw [hml]; rfl) (argsL := [(.int (nar .byte (f1 p3))), (.int (1 : Int32)), (.int v16)]) (rest := [(.long (v42 + ((f3 (nar .byte (f1 p2)) (0 : Int32) v16).toInt64)))]) (lenOf pd_2 rfl) rfl (by show 2 * 0 + _ ≤ _; exact Nat.le_of_eq rfl) (hb hby at_118) (fun _ _ => ⟨rfl, e49, (by decide : 1 + 0 ≤ _), (by decide : 4 + 0 ≤ _)⟩)
      dsimp only [Pt.U, Pt.locs, Pt.cells, Pt.slots] at X53 l53 y53 z53 st53 hQ53
      subst l53 y53 z53
      obtain ⟨rfl, N53q, e53⟩ := hQ53
      have N53 := Fr.app N49 N53q
      have pre54 : ∀ t, Steps p.tables e below (T53.setTop (mkF m 126 #[.val (.int p0), .val (.int p1), .val (.int p2), .val (.int p3), .val (.int p4), .val (.int p5), .val (.int j3), .val (.ref j11), .val (.int v16), .val (.ref b19), .val (.long v39), .second, .val (.long v42), .second] [(.int (2 : Int32)), (.ref b19), (.long ((v42 + ((f3 (nar .byte (f1 p2)) (0 : Int32) v16).toInt64)) + ((f3 (nar .byte (f1 p3)) (1 : Int32) v16).toInt64)))])) t → Steps p.tables e below (s₁.setTop (entryFrame m #[(.int p0), (.int p1), (.int p2), (.int p3), (.int p4), (.int p5)] maxLocals)) t := fun t k => pre52 t (by
        show Steps p.tables e below (T49.setTop (mkF m 118 #[.val (.int p0), .val (.int p1), .val (.int p2), .val (.int p3), .val (.int p4), .val (.int p5), .val (.int j3), .val (.ref j11), .val (.int v16), .val (.ref b19), .val (.long v39), .second, .val (.long v42), .second] [(.int v16), (.int (1 : Int32)), (.int (nar .byte (f1 p3))), (.long (v42 + ((f3 (nar .byte (f1 p2)) (0 : Int32) v16).toInt64)))])) _
        refine st53 _ ?_
        show Steps p.tables e below (T53.setTop (mkF m 121 #[.val (.int p0), .val (.int p1), .val (.int p2), .val (.int p3), .val (.int p4), .val (.int p5), .val (.int j3), .val (.ref j11), .val (.int v16), .val (.ref b19), .val (.long v39), .second, .val (.long v42), .second] [(.int (f3 (nar .byte (f1 p3)) (1 : Int32) v16)), (.long (v42 + ((f3 (nar .byte (f1 p2)) (0 : Int32) v16).toInt64)))])) _
        refine XS.i2l X53.here hx rfl (hb hby at_121) rfl ?_
        show Steps p.tables e below (T53.setTop (mkF m 122 #[.val (.int p0), .val (.int p1), .val (.int p2), .val (.int p3), .val (.int p4), .val (.int p5), .val (.int j3), .val (.ref j11), .val (.int v16), .val (.ref b19), .val (.long v39), .second, .val (.long v42), .second] [(.long ((f3 (nar .byte (f1 p3)) (1 : Int32) v16).toInt64)), (.long (v42 + ((f3 (nar .byte (f1 p2)) (0 : Int32) v16).toInt64)))])) _
        refine XS.ladd X53.here hx rfl (hb hby at_122) rfl ?_
        show Steps p.tables e below (T53.setTop (mkF m 123 #[.val (.int p0), .val (.int p1), .val (.int p2), .val (.int p3), .val (.int p4), .val (.int p5), .val (.int j3), .val (.ref j11), .val (.int v16), .val (.ref b19), .val (.long v39), .second, .val (.long v42), .second] [(.long ((v42 + ((f3 (nar .byte (f1 p2)) (0 : Int32) v16).toInt64)) + ((f3 (nar .byte (f1 p3)) (1 : Int32) v16).toInt64)))])) _
        refine XS.aload X53.here hx rfl (hb hby at_123) rfl rfl ?_
        show Steps p.tables e below (T53.setTop (mkF m 125 #[.val (.int p0), .val (.int p1), .val (.int p2), .val (.int p3), .val (.int p4), .val (.int p5), .val (.int j3), .val (.ref j11), .val (.int v16), .val (.ref b19), .val (.long v39), .second, .val (.long v42), .second] [(.ref b19), (.long ((v42 + ((f3 (nar .byte (f1 p2)) (0 : Int32) v16).toInt64)) + ((f3 (nar .byte (f1 p3)) (1 : Int32) v16).toInt64)))])) _
        refine XS.iconst X53.here hx rfl (hb hby at_125) ?_
        exact k)
      obtain ⟨cl55, Ar55, q55, S55, M55, H55, G55⟩ := id V_b19_35
      have hin55 : ¬ ((2 : Int32) < 0 ∨ cl55.slots.size ≤ ((2 : Int32)).toNatClampNeg) := inb_of S55 ⟨by decide, by decide⟩
      have hat55 : cl55.slots[((2 : Int32)).toNatClampNeg]? = some (.int (nar .byte (f1 p4))) := H55.at hin55 rfl
      have pre56 : ∀ t, Steps p.tables e below (T53.setTop (mkF m 130 #[.val (.int p0), .val (.int p1), .val (.int p2), .val (.int p3), .val (.int p4), .val (.int p5), .val (.int j3), .val (.ref j11), .val (.int v16), .val (.ref b19), .val (.long v39), .second, .val (.long v42), .second] [(.int v16), (.int (2 : Int32)), (.int (nar .byte (f1 p4))), (.long ((v42 + ((f3 (nar .byte (f1 p2)) (0 : Int32) v16).toInt64)) + ((f3 (nar .byte (f1 p3)) (1 : Int32) v16).toInt64)))])) t → Steps p.tables e below (s₁.setTop (entryFrame m #[(.int p0), (.int p1), (.int p2), (.int p3), (.int p4), (.int p5)] maxLocals)) t := fun t k => pre54 t (by
        show Steps p.tables e below (T53.setTop (mkF m 126 #[.val (.int p0), .val (.int p1), .val (.int p2), .val (.int p3), .val (.int p4), .val (.int p5), .val (.int j3), .val (.ref j11), .val (.int v16), .val (.ref b19), .val (.long v39), .second, .val (.long v42), .second] [(.int (2 : Int32)), (.ref b19), (.long ((v42 + ((f3 (nar .byte (f1 p2)) (0 : Int32) v16).toInt64)) + ((f3 (nar .byte (f1 p3)) (1 : Int32) v16).toInt64)))])) _
        refine X53.baloadBytes hx (j := (2 : Int32)) (v := (.int (nar .byte (f1 p4)))) (by rw [e53]; exact Ar55.1) (State.isArrayOf_alike hZ.alike Ar55.2.1) Ar55.2.2 hin55 hat55 (g := (mkF m 126 #[.val (.int p0), .val (.int p1), .val (.int p2), .val (.int p3), .val (.int p4), .val (.int p5), .val (.int j3), .val (.ref j11), .val (.int v16), .val (.ref b19), .val (.long v39), .second, .val (.long v42), .second] [(.int (2 : Int32)), (.ref b19), (.long ((v42 + ((f3 (nar .byte (f1 p2)) (0 : Int32) v16).toInt64)) + ((f3 (nar .byte (f1 p3)) (1 : Int32) v16).toInt64)))])) rfl rfl (hb hby at_126) _ ?_
        show Steps p.tables e below (T53.setTop (mkF m 127 #[.val (.int p0), .val (.int p1), .val (.int p2), .val (.int p3), .val (.int p4), .val (.int p5), .val (.int j3), .val (.ref j11), .val (.int v16), .val (.ref b19), .val (.long v39), .second, .val (.long v42), .second] [(.int (nar .byte (f1 p4))), (.long ((v42 + ((f3 (nar .byte (f1 p2)) (0 : Int32) v16).toInt64)) + ((f3 (nar .byte (f1 p3)) (1 : Int32) v16).toInt64)))])) _
        refine XS.iconst X53.here hx rfl (hb hby at_127) ?_
        show Steps p.tables e below (T53.setTop (mkF m 128 #[.val (.int p0), .val (.int p1), .val (.int p2), .val (.int p3), .val (.int p4), .val (.int p5), .val (.int j3), .val (.ref j11), .val (.int v16), .val (.ref b19), .val (.long v39), .second, .val (.long v42), .second] [(.int (2 : Int32)), (.int (nar .byte (f1 p4))), (.long ((v42 + ((f3 (nar .byte (f1 p2)) (0 : Int32) v16).toInt64)) + ((f3 (nar .byte (f1 p3)) (1 : Int32) v16).toInt64)))])) _
        refine XS.iload X53.here hx rfl (hb hby at_128) rfl ?_
        exact k)
      obtain ⟨_, _, ⟨T57, L57, k57, n57⟩, -, X57, ⟨Lc57, hQ57, l57, y57, z57⟩, st57⟩ := Jvm.LawKit.callS X53 hx (y := (⟨"com/example/hyperslab/hyperslab/dap2/StringFormSentLengthPinLaw", "hit", "(BII)I"⟩ : MethodName)) hown (mvT hZ (hw _ (List.mem_of_getElem? (i := 17) rfl))) (mvT hZ (hw _ (List.mem_of_getElem? (i := 18) rfl))) (mvT hZ (hw _ (List.mem_of_getElem? (i := 7) rfl))) (mvT hZ (hw _ (List.mem_of_getElem? (i := 19) rfl))) (by decide) (backOf (W := 2) (rm3 l Z aw hw [] (nar .byte (f1 p4)) (2 : Int32) v16 h35 n0 Z35) hZ (hw _ (List.mem_of_getElem? (i := 19) rfl)) (hw _ (List.mem_of_getElem? (i := 7) rfl)) (by decide) (by decide)) (g := (mkF m 130 #[.val (.int p0), .val (.int p1), .val (.int p2), .val (.int p3), .val (.int p4), .val (.int p5), .val (.int j3), .val (.ref j11), .val (.int v16), .val (.ref b19), .val (.long v39), .second, .val (.long v42), .second] [(.int v16), (.int (2 : Int32)), (.int (nar .byte (f1 p4))), (.long ((v42 + ((f3 (nar .byte (f1 p2)) (0 : Int32) v16).toInt64)) + ((f3 (nar .byte (f1 p3)) (1 : Int32) v16).toInt64)))])) rfl (by rw [hml]; rfl) (argsL := [(.int (nar .byte (f1 p4))), (.int (2 : Int32)), (.int v16)]) (rest := [(.long ((v42 + ((f3 (nar .byte (f1 p2)) (0 : Int32) v16).toInt64)) + ((f3 (nar .byte (f1 p3)) (1 : Int32) v16).toInt64)))]) (lenOf pd_2 rfl) rfl (by show 2 * 0 + _ ≤ _; exact Nat.le_of_eq rfl) (hb hby at_130) (fun _ _ => ⟨rfl, e53, (by decide : 1 + 0 ≤ _), (by decide : 4 + 0 ≤ _)⟩)
      dsimp only [Pt.U, Pt.locs, Pt.cells, Pt.slots] at X57 l57 y57 z57 st57 hQ57
      subst l57 y57 z57
      obtain ⟨rfl, N57q, e57⟩ := hQ57
      have N57 := Fr.app N53 N57q
      have pre58 : ∀ t, Steps p.tables e below (T57.setTop (mkF m 138 #[.val (.int p0), .val (.int p1), .val (.int p2), .val (.int p3), .val (.int p4), .val (.int p5), .val (.int j3), .val (.ref j11), .val (.int v16), .val (.ref b19), .val (.long v39), .second, .val (.long v42), .second] [(.int (3 : Int32)), (.ref b19), (.long (((v42 + ((f3 (nar .byte (f1 p2)) (0 : Int32) v16).toInt64)) + ((f3 (nar .byte (f1 p3)) (1 : Int32) v16).toInt64)) + ((f3 (nar .byte (f1 p4)) (2 : Int32) v16).toInt64)))])) t → Steps p.tables e below (s₁.setTop (entryFrame m #[(.int p0), (.int p1), (.int p2), (.int p3), (.int p4), (.int p5)] maxLocals)) t := fun t k => pre56 t (by
        show Steps p.tables e below (T53.setTop (mkF m 130 #[.val (.int p0), .val (.int p1), .val (.int p2), .val (.int p3), .val (.int p4), .val (.int p5), .val (.int j3), .val (.ref j11), .val (.int v16), .val (.ref b19), .val (.long v39), .second, .val (.long v42), .second] [(.int v16), (.int (2 : Int32)), (.int (nar .byte (f1 p4))), (.long ((v42 + ((f3 (nar .byte (f1 p2)) (0 : Int32) v16).toInt64)) + ((f3 (nar .byte (f1 p3)) (1 : Int32) v16).toInt64)))])) _
        refine st57 _ ?_
        show Steps p.tables e below (T57.setTop (mkF m 133 #[.val (.int p0), .val (.int p1), .val (.int p2), .val (.int p3), .val (.int p4), .val (.int p5), .val (.int j3), .val (.ref j11), .val (.int v16), .val (.ref b19), .val (.long v39), .second, .val (.long v42), .second] [(.int (f3 (nar .byte (f1 p4)) (2 : Int32) v16)), (.long ((v42 + ((f3 (nar .byte (f1 p2)) (0 : Int32) v16).toInt64)) + ((f3 (nar .byte (f1 p3)) (1 : Int32) v16).toInt64)))])) _
        refine XS.i2l X57.here hx rfl (hb hby at_133) rfl ?_
        show Steps p.tables e below (T57.setTop (mkF m 134 #[.val (.int p0), .val (.int p1), .val (.int p2), .val (.int p3), .val (.int p4), .val (.int p5), .val (.int j3), .val (.ref j11), .val (.int v16), .val (.ref b19), .val (.long v39), .second, .val (.long v42), .second] [(.long ((f3 (nar .byte (f1 p4)) (2 : Int32) v16).toInt64)), (.long ((v42 + ((f3 (nar .byte (f1 p2)) (0 : Int32) v16).toInt64)) + ((f3 (nar .byte (f1 p3)) (1 : Int32) v16).toInt64)))])) _
        refine XS.ladd X57.here hx rfl (hb hby at_134) rfl ?_
        show Steps p.tables e below (T57.setTop (mkF m 135 #[.val (.int p0), .val (.int p1), .val (.int p2), .val (.int p3), .val (.int p4), .val (.int p5), .val (.int j3), .val (.ref j11), .val (.int v16), .val (.ref b19), .val (.long v39), .second, .val (.long v42), .second] [(.long (((v42 + ((f3 (nar .byte (f1 p2)) (0 : Int32) v16).toInt64)) + ((f3 (nar .byte (f1 p3)) (1 : Int32) v16).toInt64)) + ((f3 (nar .byte (f1 p4)) (2 : Int32) v16).toInt64)))])) _
        refine XS.aload X57.here hx rfl (hb hby at_135) rfl rfl ?_
        show Steps p.tables e below (T57.setTop (mkF m 137 #[.val (.int p0), .val (.int p1), .val (.int p2), .val (.int p3), .val (.int p4), .val (.int p5), .val (.int j3), .val (.ref j11), .val (.int v16), .val (.ref b19), .val (.long v39), .second, .val (.long v42), .second] [(.ref b19), (.long (((v42 + ((f3 (nar .byte (f1 p2)) (0 : Int32) v16).toInt64)) + ((f3 (nar .byte (f1 p3)) (1 : Int32) v16).toInt64)) + ((f3 (nar .byte (f1 p4)) (2 : Int32) v16).toInt64)))])) _
        refine XS.iconst X57.here hx rfl (hb hby at_137) ?_
        exact k)
      obtain ⟨cl59, Ar59, q59, S59, M59, H59, G59⟩ := id V_b19_35
      have hin59 : ¬ ((3 : Int32) < 0 ∨ cl59.slots.size ≤ ((3 : Int32)).toNatClampNeg) := inb_of S59 ⟨by decide, by decide⟩
      have hat59 : cl59.slots[((3 : Int32)).toNatClampNeg]? = some (.int (nar .byte (f1 p5))) := H59.at hin59 rfl
      have pre60 : ∀ t, Steps p.tables e below (T57.setTop (mkF m 142 #[.val (.int p0), .val (.int p1), .val (.int p2), .val (.int p3), .val (.int p4), .val (.int p5), .val (.int j3), .val (.ref j11), .val (.int v16), .val (.ref b19), .val (.long v39), .second, .val (.long v42), .second] [(.int v16), (.int (3 : Int32)), (.int (nar .byte (f1 p5))), (.long (((v42 + ((f3 (nar .byte (f1 p2)) (0 : Int32) v16).toInt64)) + ((f3 (nar .byte (f1 p3)) (1 : Int32) v16).toInt64)) + ((f3 (nar .byte (f1 p4)) (2 : Int32) v16).toInt64)))])) t → Steps p.tables e below (s₁.setTop (entryFrame m #[(.int p0), (.int p1), (.int p2), (.int p3), (.int p4), (.int p5)] maxLocals)) t := fun t k => pre58 t (by
        show Steps p.tables e below (T57.setTop (mkF m 138 #[.val (.int p0), .val (.int p1), .val (.int p2), .val (.int p3), .val (.int p4), .val (.int p5), .val (.int j3), .val (.ref j11), .val (.int v16), .val (.ref b19), .val (.long v39), .second, .val (.long v42), .second] [(.int (3 : Int32)), (.ref b19), (.long (((v42 + ((f3 (nar .byte (f1 p2)) (0 : Int32) v16).toInt64)) + ((f3 (nar .byte (f1 p3)) (1 : Int32) v16).toInt64)) + ((f3 (nar .byte (f1 p4)) (2 : Int32) v16).toInt64)))])) _
        refine X57.baloadBytes hx (j := (3 : Int32)) (v := (.int (nar .byte (f1 p5)))) (by rw [e57]; exact Ar59.1) (State.isArrayOf_alike hZ.alike Ar59.2.1) Ar59.2.2 hin59 hat59 (g := (mkF m 138 #[.val (.int p0), .val (.int p1), .val (.int p2), .val (.int p3), .val (.int p4), .val (.int p5), .val (.int j3), .val (.ref j11), .val (.int v16), .val (.ref b19), .val (.long v39), .second, .val (.long v42), .second] [(.int (3 : Int32)), (.ref b19), (.long (((v42 + ((f3 (nar .byte (f1 p2)) (0 : Int32) v16).toInt64)) + ((f3 (nar .byte (f1 p3)) (1 : Int32) v16).toInt64)) + ((f3 (nar .byte (f1 p4)) (2 : Int32) v16).toInt64)))])) rfl rfl (hb hby at_138) _ ?_
        show Steps p.tables e below (T57.setTop (mkF m 139 #[.val (.int p0), .val (.int p1), .val (.int p2), .val (.int p3), .val (.int p4), .val (.int p5), .val (.int j3), .val (.ref j11), .val (.int v16), .val (.ref b19), .val (.long v39), .second, .val (.long v42), .second] [(.int (nar .byte (f1 p5))), (.long (((v42 + ((f3 (nar .byte (f1 p2)) (0 : Int32) v16).toInt64)) + ((f3 (nar .byte (f1 p3)) (1 : Int32) v16).toInt64)) + ((f3 (nar .byte (f1 p4)) (2 : Int32) v16).toInt64)))])) _
        refine XS.iconst X57.here hx rfl (hb hby at_139) ?_
        show Steps p.tables e below (T57.setTop (mkF m 140 #[.val (.int p0), .val (.int p1), .val (.int p2), .val (.int p3), .val (.int p4), .val (.int p5), .val (.int j3), .val (.ref j11), .val (.int v16), .val (.ref b19), .val (.long v39), .second, .val (.long v42), .second] [(.int (3 : Int32)), (.int (nar .byte (f1 p5))), (.long (((v42 + ((f3 (nar .byte (f1 p2)) (0 : Int32) v16).toInt64)) + ((f3 (nar .byte (f1 p3)) (1 : Int32) v16).toInt64)) + ((f3 (nar .byte (f1 p4)) (2 : Int32) v16).toInt64)))])) _
        refine XS.iload X57.here hx rfl (hb hby at_140) rfl ?_
        exact k)
      obtain ⟨_, _, ⟨T61, L61, k61, n61⟩, -, X61, ⟨Lc61, hQ61, l61, y61, z61⟩, st61⟩ := Jvm.LawKit.callS X57 hx (y := (⟨"com/example/hyperslab/hyperslab/dap2/StringFormSentLengthPinLaw", "hit", "(BII)I"⟩ : MethodName)) hown (mvT hZ (hw _ (List.mem_of_getElem? (i := 17) rfl))) (mvT hZ (hw _ (List.mem_of_getElem? (i := 18) rfl))) (mvT hZ (hw _ (List.mem_of_getElem? (i := 7) rfl))) (mvT hZ (hw _ (List.mem_of_getElem? (i := 19) rfl))) (by decide) (backOf (W := 2) (rm3 l Z aw hw [] (nar .byte (f1 p5)) (3 : Int32) v16 h35 n0 Z35) hZ (hw _ (List.mem_of_getElem? (i := 19) rfl)) (hw _ (List.mem_of_getElem? (i := 7) rfl)) (by decide) (by decide)) (g := (mkF m 142 #[.val (.int p0), .val (.int p1), .val (.int p2), .val (.int p3), .val (.int p4), .val (.int p5), .val (.int j3), .val (.ref j11), .val (.int v16), .val (.ref b19), .val (.long v39), .second, .val (.long v42), .second] [(.int v16), (.int (3 : Int32)), (.int (nar .byte (f1 p5))), (.long (((v42 + ((f3 (nar .byte (f1 p2)) (0 : Int32) v16).toInt64)) + ((f3 (nar .byte (f1 p3)) (1 : Int32) v16).toInt64)) + ((f3 (nar .byte (f1 p4)) (2 : Int32) v16).toInt64)))])) rfl (by rw [hml]; rfl) (argsL := [(.int (nar .byte (f1 p5))), (.int (3 : Int32)), (.int v16)]) (rest := [(.long (((v42 + ((f3 (nar .byte (f1 p2)) (0 : Int32) v16).toInt64)) + ((f3 (nar .byte (f1 p3)) (1 : Int32) v16).toInt64)) + ((f3 (nar .byte (f1 p4)) (2 : Int32) v16).toInt64)))]) (lenOf pd_2 rfl) rfl (by show 2 * 0 + _ ≤ _; exact Nat.le_of_eq rfl) (hb hby at_142) (fun _ _ => ⟨rfl, e57, (by decide : 1 + 0 ≤ _), (by decide : 4 + 0 ≤ _)⟩)
      dsimp only [Pt.U, Pt.locs, Pt.cells, Pt.slots] at X61 l61 y61 z61 st61 hQ61
      subst l61 y61 z61
      obtain ⟨rfl, N61q, e61⟩ := hQ61
      have N61 := Fr.app N57 N61q
      exact ⟨_, _, ((((v42 + ((f3 (nar .byte (f1 p2)) (0 : Int32) v16).toInt64)) + ((f3 (nar .byte (f1 p3)) (1 : Int32) v16).toInt64)) + ((f3 (nar .byte (f1 p4)) (2 : Int32) v16).toInt64)) + ((f3 (nar .byte (f1 p5)) (3 : Int32) v16).toInt64)), X61, N61, e61, (by rw [if_neg hc45]), fun t k => pre60 t (by
        show Steps p.tables e below (T57.setTop (mkF m 142 #[.val (.int p0), .val (.int p1), .val (.int p2), .val (.int p3), .val (.int p4), .val (.int p5), .val (.int j3), .val (.ref j11), .val (.int v16), .val (.ref b19), .val (.long v39), .second, .val (.long v42), .second] [(.int v16), (.int (3 : Int32)), (.int (nar .byte (f1 p5))), (.long (((v42 + ((f3 (nar .byte (f1 p2)) (0 : Int32) v16).toInt64)) + ((f3 (nar .byte (f1 p3)) (1 : Int32) v16).toInt64)) + ((f3 (nar .byte (f1 p4)) (2 : Int32) v16).toInt64)))])) _
        refine st61 _ ?_
        show Steps p.tables e below (T61.setTop (mkF m 145 #[.val (.int p0), .val (.int p1), .val (.int p2), .val (.int p3), .val (.int p4), .val (.int p5), .val (.int j3), .val (.ref j11), .val (.int v16), .val (.ref b19), .val (.long v39), .second, .val (.long v42), .second] [(.int (f3 (nar .byte (f1 p5)) (3 : Int32) v16)), (.long (((v42 + ((f3 (nar .byte (f1 p2)) (0 : Int32) v16).toInt64)) + ((f3 (nar .byte (f1 p3)) (1 : Int32) v16).toInt64)) + ((f3 (nar .byte (f1 p4)) (2 : Int32) v16).toInt64)))])) _
        refine XS.i2l X61.here hx rfl (hb hby at_145) rfl ?_
        show Steps p.tables e below (T61.setTop (mkF m 146 #[.val (.int p0), .val (.int p1), .val (.int p2), .val (.int p3), .val (.int p4), .val (.int p5), .val (.int j3), .val (.ref j11), .val (.int v16), .val (.ref b19), .val (.long v39), .second, .val (.long v42), .second] [(.long ((f3 (nar .byte (f1 p5)) (3 : Int32) v16).toInt64)), (.long (((v42 + ((f3 (nar .byte (f1 p2)) (0 : Int32) v16).toInt64)) + ((f3 (nar .byte (f1 p3)) (1 : Int32) v16).toInt64)) + ((f3 (nar .byte (f1 p4)) (2 : Int32) v16).toInt64)))])) _
        refine XS.ladd X61.here hx rfl (hb hby at_146) rfl ?_
        show Steps p.tables e below (T61.setTop (mkF m 147 #[.val (.int p0), .val (.int p1), .val (.int p2), .val (.int p3), .val (.int p4), .val (.int p5), .val (.int j3), .val (.ref j11), .val (.int v16), .val (.ref b19), .val (.long v39), .second, .val (.long v42), .second] [(.long ((((v42 + ((f3 (nar .byte (f1 p2)) (0 : Int32) v16).toInt64)) + ((f3 (nar .byte (f1 p3)) (1 : Int32) v16).toInt64)) + ((f3 (nar .byte (f1 p4)) (2 : Int32) v16).toInt64)) + ((f3 (nar .byte (f1 p5)) (3 : Int32) v16).toInt64)))])) _
        refine XS.lstore X61.here hx rfl (hb hby at_147) rfl (l' := #[.val (.int p0), .val (.int p1), .val (.int p2), .val (.int p3), .val (.int p4), .val (.int p5), .val (.int j3), .val (.ref j11), .val (.int v16), .val (.ref b19), .val (.long v39), .second, .val (.long ((((v42 + ((f3 (nar .byte (f1 p2)) (0 : Int32) v16).toInt64)) + ((f3 (nar .byte (f1 p3)) (1 : Int32) v16).toInt64)) + ((f3 (nar .byte (f1 p4)) (2 : Int32) v16).toInt64)) + ((f3 (nar .byte (f1 p5)) (3 : Int32) v16).toInt64))), .second]) rfl ?_
        exact k)⟩
  have pre65 : ∀ t, Steps p.tables e below (T64.setTop (mkF m 154 #[.val (.int p0), .val (.int p1), .val (.int p2), .val (.int p3), .val (.int p4), .val (.int p5), .val (.int j3), .val (.ref j11), .val (.int v16), .val (.ref b19), .val (.long v39), .second, .val (.long j62), .second] [(.int (lcmpW v39 j62))])) t → Steps p.tables e below (s₁.setTop (entryFrame m #[(.int p0), (.int p1), (.int p2), (.int p3), (.int p4), (.int p5)] maxLocals)) t := fun t k => pre63 t (by
    show Steps p.tables e below (T64.setTop (mkF m 149 #[.val (.int p0), .val (.int p1), .val (.int p2), .val (.int p3), .val (.int p4), .val (.int p5), .val (.int j3), .val (.ref j11), .val (.int v16), .val (.ref b19), .val (.long v39), .second, .val (.long j62), .second] [])) _
    refine XS.lload X64.here hx rfl (hb hby at_149) rfl ?_
    show Steps p.tables e below (T64.setTop (mkF m 151 #[.val (.int p0), .val (.int p1), .val (.int p2), .val (.int p3), .val (.int p4), .val (.int p5), .val (.int j3), .val (.ref j11), .val (.int v16), .val (.ref b19), .val (.long v39), .second, .val (.long j62), .second] [(.long v39)])) _
    refine XS.lload X64.here hx rfl (hb hby at_151) rfl ?_
    show Steps p.tables e below (T64.setTop (mkF m 153 #[.val (.int p0), .val (.int p1), .val (.int p2), .val (.int p3), .val (.int p4), .val (.int p5), .val (.int j3), .val (.ref j11), .val (.int v16), .val (.ref b19), .val (.long v39), .second, .val (.long j62), .second] [(.long j62), (.long v39)])) _
    refine XS.lcmp X64.here hx rfl (hb hby at_153) rfl ?_
    exact k)
  obtain ⟨j67, hj67, pre68⟩ : ∃ (j67 : Int32), j67 = (if v39 = j62 then (1 : Int32) else (0 : Int32)) ∧ ∀ t, Steps p.tables e below (T64.setTop (mkF m 162 #[.val (.int p0), .val (.int p1), .val (.int p2), .val (.int p3), .val (.int p4), .val (.int p5), .val (.int j3), .val (.ref j11), .val (.int v16), .val (.ref b19), .val (.long v39), .second, .val (.long j62), .second] [(.int j67)])) t → Steps p.tables e below (s₁.setTop (entryFrame m #[(.int p0), (.int p1), (.int p2), (.int p3), (.int p4), (.int p5)] maxLocals)) t := by
    by_cases hc66 : v39 = j62
    · exact ⟨(1 : Int32), (by rw [if_pos hc66]), fun t k => pre65 t (by
        show Steps p.tables e below (T64.setTop (mkF m 154 #[.val (.int p0), .val (.int p1), .val (.int p2), .val (.int p3), .val (.int p4), .val (.int p5), .val (.int j3), .val (.ref j11), .val (.int v16), .val (.ref b19), .val (.long v39), .second, .val (.long j62), .second] [(.int (lcmpW v39 j62))])) _
        refine XS.ifNo X64.here hx rfl (hb hby at_154) rfl ((if0 _ _).trans (teq ((lw_eq v39 j62).mpr hc66)).2) ?_
        show Steps p.tables e below (T64.setTop (mkF m 157 #[.val (.int p0), .val (.int p1), .val (.int p2), .val (.int p3), .val (.int p4), .val (.int p5), .val (.int j3), .val (.ref j11), .val (.int v16), .val (.ref b19), .val (.long v39), .second, .val (.long j62), .second] [])) _
        refine XS.iconst X64.here hx rfl (hb hby at_157) ?_
        show Steps p.tables e below (T64.setTop (mkF m 158 #[.val (.int p0), .val (.int p1), .val (.int p2), .val (.int p3), .val (.int p4), .val (.int p5), .val (.int j3), .val (.ref j11), .val (.int v16), .val (.ref b19), .val (.long v39), .second, .val (.long j62), .second] [(.int (1 : Int32))])) _
        refine XS.goto X64.here hx rfl (pc0 := 158) (pc' := 162) rfl (hb hby at_158) (by decide) (by decide) ?_
        exact k)⟩
    · exact ⟨(0 : Int32), (by rw [if_neg hc66]), fun t k => pre65 t (by
        show Steps p.tables e below (T64.setTop (mkF m 154 #[.val (.int p0), .val (.int p1), .val (.int p2), .val (.int p3), .val (.int p4), .val (.int p5), .val (.int j3), .val (.ref j11), .val (.int v16), .val (.ref b19), .val (.long v39), .second, .val (.long j62), .second] [(.int (lcmpW v39 j62))])) _
        refine XS.ifYes X64.here hx rfl (pc0 := 154) (pc' := 161) rfl (hb hby at_154) rfl ((if0 _ _).trans (feq (fun q => hc66 ((lw_eq v39 j62).mp q))).2) (by decide) (by decide) ?_
        show Steps p.tables e below (T64.setTop (mkF m 161 #[.val (.int p0), .val (.int p1), .val (.int p2), .val (.int p3), .val (.int p4), .val (.int p5), .val (.int j3), .val (.ref j11), .val (.int v16), .val (.ref b19), .val (.long v39), .second, .val (.long j62), .second] [])) _
        refine XS.iconst X64.here hx rfl (hb hby at_161) ?_
        exact k)⟩
  obtain ⟨fs, hr, hrun, hended, hW, hsame⟩ := X64.leave (v := some (.int (nar .boolean j67))) (fun h => by rw [Bd.returns] at h; cases h)
  refine ⟨_, _, pre68 _ ?_, hrun, hended, _, _, rfl, ?_, ⟨_, rfl⟩, hW, hsame.mono (by decide) (by decide)⟩
  · show Steps p.tables e below (T64.setTop (mkF m 162 #[.val (.int p0), .val (.int p1), .val (.int p2), .val (.int p3), .val (.int p4), .val (.int p5), .val (.int j3), .val (.ref j11), .val (.int v16), .val (.ref b19), .val (.long v39), .second, .val (.long j62), .second] [(.int j67)])) _
    exact retN X64 hx (t := .boolean) Bd.returns (by simp) (hb hby at_162) hr
  · show Q0 Z p0 p1 p2 p3 p4 p5 w_PLAIN w_BACKSLASHES_DOUBLED h0 n0 _ T64.heap _
    rw [e64]
    have hv : (nar .boolean j67) = f0 p0 p1 p2 p3 p4 p5 w_PLAIN w_BACKSLASHES_DOUBLED := (by subst hj67 hj62 hv42 hv39 hv16 hj11 hj3; rfl)
    exact ⟨congrArg (fun z => some (Value.int z)) (hv.trans hlaw), N64⟩
theorem own_hit (b i n : Int32) : (f3 b i n).toInt64 = if i < n then (if b = (92 : Int32) then (1 : Int64) else 0) else 0 := by
  unfold f3
  repeat' split
  all_goals rfl
theorem own_z (x : Int64) : x + 0 = x := Int64.add_zero x
theorem own_fin (n : Int32) (w w' : Addr) (b0 b1 b2 b3 : Int32) (hn : n = 0 ∨ n = 1 ∨ n = 2 ∨ n = 3 ∨ n = 4) (hne : w' ≠ w) (d : Int32) :
    f2 (if d = 0 then w' else w) n [b0, b1, b2, b3] w = (if d = (0 : Int32) then n.toInt64 else ((((n.toInt64 + (f3 b0 0 n).toInt64) + (f3 b1 1 n).toInt64) + (f3 b2 2 n).toInt64) + (f3 b3 3 n).toInt64)) := by
  have g0 : own_get [b0, b1, b2, b3] 0 = b0 := rfl
  have g1 : own_get [b0, b1, b2, b3] 1 = b1 := rfl
  have g2 : own_get [b0, b1, b2, b3] 2 = b2 := rfl
  have g3 : own_get [b0, b1, b2, b3] 3 = b3 := rfl
  unfold f2
  dsimp only
  by_cases q : d = 0
  · simp only [if_pos q, if_neg hne]
  · simp only [if_neg q, if_true, own_hit, g0, g1, g2, g3]
    rcases hn with rfl | rfl | rfl | rfl | rfl <;> simp <;> (repeat' split) <;> first | rfl | (simp; done)
theorem own_law (p0 : Int32) (p1 : Int32) (p2 : Int32) (p3 : Int32) (p4 : Int32) (p5 : Int32) (w_PLAIN : Addr) (w_BACKSLASHES_DOUBLED : Addr) (hne : w_PLAIN ≠ w_BACKSLASHES_DOUBLED) : f0 p0 p1 p2 p3 p4 p5 w_PLAIN w_BACKSLASHES_DOUBLED = 1 := by
  have m0 := c_mask p1 2147483647 31 (by decide) (by decide)
  have k : ((2 ^ 31 : Nat) : Int) = 2147483648 := by decide
  rw [k] at m0
  have r := (c_irem (p1 &&& (2147483647 : Int32)) 5 5 (by decide)).1 (by omega)
  unfold f0
  dsimp only
  generalize (p1 &&& (2147483647 : Int32)) % (5 : Int32) = n at r
  have h0 : (0 : Int32).toInt = 0 := by decide
  have h1 : (1 : Int32).toInt = 1 := by decide
  have h2 : (2 : Int32).toInt = 2 := by decide
  have h3 : (3 : Int32).toInt = 3 := by decide
  have h4 : (4 : Int32).toInt = 4 := by decide
  have hn : n = 0 ∨ n = 1 ∨ n = 2 ∨ n = 3 ∨ n = 4 := by simp only [← Int32.toInt_inj, h0, h1, h2, h3, h4]; omega
  rw [if_pos (own_fin n _ _ _ _ _ _ hn hne _)]
  rfl

set_option maxRecDepth 65536 in
set_option maxHeartbeats 40000000 in
theorem comes_1 {Post : Tables → Env → Array Value → State → Outcome → State → Prop} (hpost : ∀ tb e args s v u, (limb_1_1.after args s (.returned v) u = true ∧ limb_1_2.after args s (.returned v) u = true ∧ True) → FrameEnd s (.returned v) u (Jvm.fieldLocs frame_1_writes args s ++ Jvm.arrayLocs frame_1_arrays args s ++ Jvm.staticLocs frame_1_statics s) 16 128 → Post tb e args s (.returned v) u) :
    ArmFor flags0 classFile x code maxLocals ret World_1 tables_1 room_1 Calls_1 rest_1 Pre_1 Post := by
  intro l hfl _ _ p e ha hc hk s m args below hf hA hF happ hP
  obtain ⟨hcalls, hrest, hpre⟩ := hP
  obtain ⟨-, -, -, hnamed, -, -, -, hat⟩ := (Spec.applies_iff hf).mp happ
  obtain ⟨hg, hn⟩ := and_e (Cond.before_iff.mp (show (Jvm.Cond.and given_1 narrow_1).before args s = true from hpre))
  obtain ⟨g1, g2⟩ := and_e hg
  obtain ⟨g3, g4⟩ := and_e g2
  obtain ⟨g5, g6⟩ := and_e g4
  obtain ⟨g7, g8⟩ := and_e g6
  obtain ⟨g9, g10⟩ := and_e g8
  obtain ⟨g11, g12⟩ := and_e g10
  obtain ⟨w0, w1, w2, w3, w4, w5, rfl⟩ : ∃ w0 w1 w2 w3 w4 w5 : Value, args = #[w0, w1, w2, w3, w4, w5] := by
    have hs : args.size = 6 := by simpa [Cond.value, given_1] using g1
    obtain ⟨L⟩ := args
    match L, hs with
    | [w0, w1, w2, w3, w4, w5], _ => exact ⟨w0, w1, w2, w3, w4, w5, rfl⟩
  have hw := fun d (hd : d ∈ tables_1) => atoms_spec (ws := Jvm.Cond.code x code maxLocals ret :: tables_1) hat d (List.mem_cons_of_mem _ hd)
  have hfit : Fit s := fun {y c} hc i hi => by
    obtain ⟨ha, rfl⟩ := Array.getElem?_eq_some_iff.mp hc
    have q := List.all_eq_true.mp ((Array.all_eq_true_iff_forall_mem.mp hF) _ (Array.getElem_mem ha)) i (List.mem_range.mpr hi)
    simpa [Array.getElem?_eq_getElem hi] using q
  obtain ⟨i0, ei0⟩ := is_v g3
  obtain rfl : w0 = (.int i0) := Option.some.inj ei0
  obtain ⟨i1, ei1⟩ := is_v g5
  obtain rfl : w1 = (.int i1) := Option.some.inj ei1
  obtain ⟨i2, ei2⟩ := is_v g7
  obtain rfl : w2 = (.int i2) := Option.some.inj ei2
  obtain ⟨i3, ei3⟩ := is_v g9
  obtain rfl : w3 = (.int i3) := Option.some.inj ei3
  obtain ⟨i4, ei4⟩ := is_v g11
  obtain rfl : w4 = (.int i4) := Option.some.inj ei4
  obtain ⟨i5, ei5⟩ := is_v g12
  obtain rfl : w5 = (.int i5) := Option.some.inj ei5
  obtain ⟨nn1, nn2⟩ := and_e hn
  obtain ⟨nn3, nn4⟩ := and_e nn2
  obtain ⟨nn5, nn6⟩ := and_e nn4
  obtain ⟨z_PLAIN, ez_PLAIN⟩ := exa_v nn1
  have S_PLAIN : Sta s s.heap "com/example/hyperslab/hyperslab/dap2/DataDds$StringForm" "PLAIN" "Lcom/example/hyperslab/hyperslab/dap2/DataDds$StringForm;" (.ref z_PLAIN) := Sta.start ez_PLAIN (Or.inr ⟨hw _ (List.mem_of_getElem? (i := 1) rfl), hw _ (List.mem_of_getElem? (i := 2) rfl)⟩)
  have E_PLAIN : Exa s s.heap z_PLAIN "com/example/hyperslab/hyperslab/dap2/DataDds$StringForm" := Exa.start ez_PLAIN nn1
  obtain ⟨z_BACKSLASHES_DOUBLED, ez_BACKSLASHES_DOUBLED⟩ := exa_v nn3
  have S_BACKSLASHES_DOUBLED : Sta s s.heap "com/example/hyperslab/hyperslab/dap2/DataDds$StringForm" "BACKSLASHES_DOUBLED" "Lcom/example/hyperslab/hyperslab/dap2/DataDds$StringForm;" (.ref z_BACKSLASHES_DOUBLED) := Sta.start ez_BACKSLASHES_DOUBLED (Or.inr ⟨hw _ (List.mem_of_getElem? (i := 1) rfl), hw _ (List.mem_of_getElem? (i := 15) rfl)⟩)
  have E_BACKSLASHES_DOUBLED : Exa s s.heap z_BACKSLASHES_DOUBLED "com/example/hyperslab/hyperslab/dap2/DataDds$StringForm" := Exa.start ez_BACKSLASHES_DOUBLED nn3
  have F_ordinal_PLAIN : Fld s s.heap z_PLAIN "java/lang/Enum" "ordinal" "I" (.int (0 : Int32)) := Fld.start ((fld_at ez_PLAIN).symm.trans (own_eq_int nn5))
  have F_ordinal_BACKSLASHES_DOUBLED : Fld s s.heap z_BACKSLASHES_DOUBLED "java/lang/Enum" "ordinal" "I" (.int (1 : Int32)) := Fld.start ((fld_at ez_BACKSLASHES_DOUBLED).symm.trans (own_eq_int nn6))
  obtain ⟨n, o, h1, h2, h3, _, L, rfl, ⟨rfl, N⟩, hq⟩ := rm0 l s _ hw tables_1 i0 i1 i2 i3 i4 i5 z_PLAIN z_BACKSLASHES_DOUBLED s.heap s.heap.size (Nat.le_refl _) S_PLAIN S_BACKSLASHES_DOUBLED E_PLAIN E_BACKSLASHES_DOUBLED (own_law i0 i1 i2 i3 i4 i5 z_PLAIN z_BACKSLASHES_DOUBLED (F_ordinal_PLAIN.ne F_ordinal_BACKSLASHES_DOUBLED (by decide))) p e ha hc hk s m _ below hf ((Spec.applies_iff_loose hf).mp happ).1 ⟨rfl, State.Warmed39.refl s, rfl⟩ trivial
  refine ⟨n, _, h1, h2, h3, hpost _ _ _ _ _ _ ⟨Cond.after_iff.mpr rfl, Cond.after_iff.mpr (eq_i res_at (Term.int_eval (1)) rfl), trivial⟩ ⟨hq.1, hq.2.1, (hq.2.2.sift fun y hy => Or.inr (N y hy)).mono (by decide) (by decide)⟩⟩
theorem main_1_1 : Claimed_1_1 := comes_1 fun _ _ _ _ _ _ h hF => ⟨h.1, hF⟩
theorem main_1_2 : Claimed_1_2 := comes_1 fun _ _ _ _ _ _ h hF => ⟨h.2.1, hF⟩
end Jvm.Pilot.@@N@@
namespace Jvm.Pilot.@@N@@
open Jvm Jvm.ClassFile Sem Op Lib Jvm.Free Jvm.Stand Jvm.Pilot.@@N@@.Jvm.D
/-! MADE BY PROGRAM (witnessworld.py) out of the Statement's table words and the real class files: 12 classes; the members and pool entries that the words name. The judged class is class 1, her method 1. -/
namespace start1
open Jvm.ClassFile
def u (s : String) : CpInfo := .utf8 (stringToUtf16 s)
/-- a pool by its gaps: so many unusable entries, then the entry; so many at the end -/
def gap : Nat → List CpInfo → List CpInfo
  | 0, r => r
  | n + 1, r => .unusable :: gap n r
def poolList (es : List (Nat × CpInfo)) (last : Nat) : List CpInfo := es.foldr (fun e r => gap e.1 (e.2 :: r)) (gap last [])
def pool (es : List (Nat × CpInfo)) (last : Nat) : Array CpInfo := ⟨poolList es last⟩
def fileOf (pool : Array CpInfo) (this : Nat) (attrs : Array Attribute := #[]) (ms : Array MethodInfo := #[]) (fl : Nat := 33) (sup : Nat := 0) (ifs : Array Nat := #[]) (fds : Array FieldInfo := #[]) : ClassFile where
  minorVersion := 0
  majorVersion := 65
  constantPool := pool
  accessFlags := fl
  thisClass := this
  superClass := sup
  interfaces := ifs
  fields := fds
  methods := ms
  attributes := attrs
def plain (name : String) (sup : Option ClassId) : Class where
  name := name
  kind := .ordinary
  loader := none
  accessFlags := 33
  super := sup
  interfaces := #[]
  cf := none
  fields := #[]
  methods := #[]
  instanceTypes := #[]
  staticTypes := #[]
  resolved := #[]
  callSites := []
  init := .initialized
  statics := none
  mirror := none

def pool0 : Array CpInfo := pool [(5, u "<init>"), (0, u "()V"), (1, .class_ 10), (1, u "java/lang/Object")] 113

def k0m0 : Method := { name := "<init>", desc := "()V", sig := { parameters := [], returnType := none }, accessFlags := 1, code := none }
/-- java/lang/Object -/
def k0 : Class := { plain "java/lang/Object" none with
  accessFlags := 33
  interfaces := #[]
  cf := some (fileOf pool0 8 #[] #[{ accessFlags := 1, nameIndex := 5, descriptorIndex := 6, attributes := #[] }] 33 0 #[] #[])
  fields := #[]
  methods := #[k0m0]
  instanceTypes := #[]
  staticTypes := #[]
  resolved := Array.replicate 124 none
  statics := none }

def pool1 : Array CpInfo := pool [(2, .class_ 4), (1, u "java/lang/Object"), (0, u "<init>"), (0, u "()V"), (0, .fieldref 8 9), (0, .class_ 10), (0, .nameAndType 11 12), (0, u "com/example/hyperslab/hyperslab/dap2/DataDds$StringForm"), (0, u "BACKSLASHES_DOUBLED"), (0, u "Lcom/example/hyperslab/hyperslab/dap2/DataDds$StringForm;"), (0, .fieldref 8 14), (0, .nameAndType 15 12), (0, u "PLAIN"), (0, .integer 2147483647), (0, .methodref 18 19), (0, .class_ 20), (0, .nameAndType 21 22), (0, u "com/example/hyperslab/hyperslab/dap2/StringFormSentLengthPinLaw"), (0, u "drawn"), (0, u "(I)B"), (0, .methodref 8 24), (0, .nameAndType 25 26), (0, u "sentLength"), (0, u "([BI)J"), (0, .methodref 18 28), (0, .nameAndType 29 30), (0, u "hit"), (0, u "(BII)I"), (2, u "law"), (0, u "(IIIIII)Z")] 9

def k1m0 : Method := { name := "<init>", desc := "()V", sig := { parameters := [], returnType := none }, accessFlags := 2, code := none }
def k1c1 : Code := { maxStack := 5, maxLocals := 14, code := code, exceptionTable := #[], attributes := #[] }
def k1m1 : Method := { name := "law", desc := "(IIIIII)Z", sig := { parameters := [.int, .int, .int, .int, .int, .int], returnType := some .boolean }, accessFlags := 9, code := some k1c1 }
def k1c2 : Code := { maxStack := 2, maxLocals := 1, code := method_3_code, exceptionTable := #[], attributes := #[] }
def k1m2 : Method := { name := "drawn", desc := "(I)B", sig := { parameters := [.int], returnType := some .byte }, accessFlags := 10, code := some k1c2 }
def k1c3 : Code := { maxStack := 2, maxLocals := 3, code := method_4_code, exceptionTable := #[], attributes := #[] }
def k1m3 : Method := { name := "hit", desc := "(BII)I", sig := { parameters := [.byte, .int, .int], returnType := some .int }, accessFlags := 10, code := some k1c3 }
/-- com/example/hyperslab/hyperslab/dap2/StringFormSentLengthPinLaw -/
def k1 : Class := { plain "com/example/hyperslab/hyperslab/dap2/StringFormSentLengthPinLaw" (some 0) with
  accessFlags := 49
  interfaces := #[]
  cf := some (fileOf pool1 18 #[] #[{ accessFlags := 2, nameIndex := 5, descriptorIndex := 6, attributes := #[] }, { accessFlags := 9, nameIndex := 33, descriptorIndex := 34, attributes := #[] }, { accessFlags := 10, nameIndex := 21, descriptorIndex := 22, attributes := #[] }, { accessFlags := 10, nameIndex := 29, descriptorIndex := 30, attributes := #[] }] 49 2 #[] #[])
  fields := #[]
  methods := #[k1m0, k1m1, k1m2, k1m3]
  instanceTypes := #[]
  staticTypes := #[]
  resolved := Array.replicate 44 none
  statics := none }

def pool2 : Array CpInfo := pool [(1, .class_ 2), (0, u "java/lang/constant/Constable"), (0, .class_ 4), (0, u "java/lang/Object")] 6

/-- java/lang/constant/Constable -/
def k2 : Class := { plain "java/lang/constant/Constable" (some 0) with
  accessFlags := 1537
  interfaces := #[]
  cf := some (fileOf pool2 1 #[] #[] 1537 3 #[] #[])
  fields := #[]
  methods := #[]
  instanceTypes := #[]
  staticTypes := #[]
  resolved := Array.replicate 11 none
  statics := none }

def pool3 : Array CpInfo := pool [(1, .class_ 2), (0, u "java/lang/Comparable"), (0, .class_ 4), (0, u "java/lang/Object")] 7

/-- java/lang/Comparable -/
def k3 : Class := { plain "java/lang/Comparable" (some 0) with
  accessFlags := 1537
  interfaces := #[]
  cf := some (fileOf pool3 1 #[] #[] 1537 3 #[] #[])
  fields := #[]
  methods := #[]
  instanceTypes := #[]
  staticTypes := #[]
  resolved := Array.replicate 12 none
  statics := none }

def pool4 : Array CpInfo := pool [(1, .class_ 2), (0, u "java/io/Serializable"), (0, .class_ 4), (0, u "java/lang/Object")] 2

/-- java/io/Serializable -/
def k4 : Class := { plain "java/io/Serializable" (some 0) with
  accessFlags := 1537
  interfaces := #[]
  cf := some (fileOf pool4 1 #[] #[] 1537 3 #[] #[])
  fields := #[]
  methods := #[]
  instanceTypes := #[]
  staticTypes := #[]
  resolved := Array.replicate 7 none
  statics := none }

def pool5 : Array CpInfo := pool [(2, .class_ 4), (1, u "java/lang/Enum"), (0, u "name"), (0, u "Ljava/lang/String;"), (2, u "ordinal"), (0, u "I"), (1, .class_ 14), (1, u "java/lang/Object"), (4, u "hash"), (86, .class_ 108), (1, u "java/lang/Enum$EnumDesc"), (2, .class_ 112), (0, u "java/lang/constant/Constable"), (0, .class_ 114), (0, u "java/lang/Comparable"), (0, .class_ 116), (0, u "java/io/Serializable")] 87

/-- java/lang/Enum -/
def k5 : Class := { plain "java/lang/Enum" (some 0) with
  accessFlags := 1057
  interfaces := #[2, 3, 4]
  cf := some (fileOf pool5 2 #[.nestMembers #[106]] #[] 1057 12 #[111, 113, 115] #[{ accessFlags := 18, nameIndex := 5, descriptorIndex := 6, attributes := #[] }, { accessFlags := 18, nameIndex := 9, descriptorIndex := 10, attributes := #[] }, { accessFlags := 2, nameIndex := 19, descriptorIndex := 10, attributes := #[] }])
  fields := #[{ name := "name", type := (.object "java/lang/String"), accessFlags := 18, slot := 0, constantValue := 0 }, { name := "ordinal", type := .int, accessFlags := 18, slot := 1, constantValue := 0 }, { name := "hash", type := .int, accessFlags := 2, slot := 2, constantValue := 0 }]
  methods := #[]
  instanceTypes := #[(.object "java/lang/String"), .int, .int]
  staticTypes := #[]
  resolved := Array.replicate 204 none
  statics := none }

def pool6 : Array CpInfo := pool [(1, .class_ 2), (0, u "com/example/hyperslab/hyperslab/dap2/DataDds$StringForm"), (2, u "PLAIN"), (0, u "Lcom/example/hyperslab/hyperslab/dap2/DataDds$StringForm;"), (0, .fieldref 1 8), (0, .nameAndType 9 6), (0, u "BACKSLASHES_DOUBLED"), (2, u "$VALUES"), (0, u "[Lcom/example/hyperslab/hyperslab/dap2/DataDds$StringForm;"), (6, .class_ 22), (1, u "java/lang/Enum"), (8, u "NETCDF_C"), (0, u "Ljava/util/regex/Pattern;"), (39, u "BACKSLASH"), (0, u "B"), (13, u "sentLength"), (0, u "([BI)J"), (9, .class_ 99), (0, u "com/example/hyperslab/hyperslab/dap2/DataDds")] 2

def k6c0 : Code := { maxStack := 4, maxLocals := 6, code := prog_17_method_6_code, exceptionTable := #[], attributes := #[] }
def k6m0 : Method := { name := "sentLength", desc := "([BI)J", sig := { parameters := [(.array .byte), .int], returnType := some .long }, accessFlags := 0, code := some k6c0 }
/-- com/example/hyperslab/hyperslab/dap2/DataDds$StringForm -/
def k6 : Class := { plain "com/example/hyperslab/hyperslab/dap2/DataDds$StringForm" (some 5) with
  accessFlags := 16433
  interfaces := #[]
  cf := some (fileOf pool6 1 #[.nestHost 98] #[{ accessFlags := 0, nameIndex := 87, descriptorIndex := 88, attributes := #[] }] 16433 20 #[] #[{ accessFlags := 16409, nameIndex := 5, descriptorIndex := 6, attributes := #[] }, { accessFlags := 16409, nameIndex := 9, descriptorIndex := 6, attributes := #[] }, { accessFlags := 26, nameIndex := 31, descriptorIndex := 32, attributes := #[] }, { accessFlags := 26, nameIndex := 72, descriptorIndex := 73, attributes := #[] }, { accessFlags := 4122, nameIndex := 12, descriptorIndex := 13, attributes := #[] }])
  fields := #[{ name := "PLAIN", type := (.object "com/example/hyperslab/hyperslab/dap2/DataDds$StringForm"), accessFlags := 16409, slot := 0, constantValue := 0 }, { name := "BACKSLASHES_DOUBLED", type := (.object "com/example/hyperslab/hyperslab/dap2/DataDds$StringForm"), accessFlags := 16409, slot := 1, constantValue := 0 }, { name := "NETCDF_C", type := (.object "java/util/regex/Pattern"), accessFlags := 26, slot := 2, constantValue := 0 }, { name := "BACKSLASH", type := .byte, accessFlags := 26, slot := 3, constantValue := 0 }, { name := "$VALUES", type := (.array (.object "com/example/hyperslab/hyperslab/dap2/DataDds$StringForm")), accessFlags := 4122, slot := 4, constantValue := 0 }]
  methods := #[k6m0]
  instanceTypes := #[(.object "java/lang/String"), .int, .int]
  staticTypes := #[(.object "com/example/hyperslab/hyperslab/dap2/DataDds$StringForm"), (.object "com/example/hyperslab/hyperslab/dap2/DataDds$StringForm"), (.object "java/util/regex/Pattern"), .byte, (.array (.object "com/example/hyperslab/hyperslab/dap2/DataDds$StringForm"))]
  resolved := Array.replicate 102 none
  statics := some 0 }

def pool7 : Array CpInfo := pool [(1, u "java/lang/Cloneable"), (0, .class_ 1), (0, u "java/lang/Object"), (0, .class_ 3)] 3

/-- java/lang/Cloneable -/
def k7 : Class := { plain "java/lang/Cloneable" (some 0) with
  accessFlags := 1537
  interfaces := #[]
  cf := some (fileOf pool7 2 #[] #[] 1537 4 #[] #[])
  fields := #[]
  methods := #[]
  instanceTypes := #[]
  staticTypes := #[]
  resolved := Array.replicate 8 none
  statics := none }

/-- the primitive byte -/
def k8 : Class := { plain "byte" none with kind := .primitive 'B', accessFlags := 0x411 }
/-- [B -/
def k9 : Class := { plain "[B" (some 0) with kind := .array 8 .byte, interfaces := #[7, 4], accessFlags := 1041 }

/-- the primitive int -/
def k10 : Class := { plain "int" none with kind := .primitive 'I', accessFlags := 0x411 }
/-- [I -/
def k11 : Class := { plain "[I" (some 0) with kind := .array 10 .int, interfaces := #[7, 4], accessFlags := 1041 }

def heap : Heap := #[{ cls := 6, slots := #[.ref 1, .ref 2, .null, .int 0, .null], vm := .statics 6 },
  { cls := 6, slots := #[.null, .int 0, .int 0], vm := .none },
  { cls := 6, slots := #[.null, .int 1, .int 0], vm := .none }]
def classes : Array Class := #[k0, k1, k2, k3, k4, k5, k6, k7, k8, k9, k10, k11]
def interned : List (Array UInt16 × Addr) := []
def slotsUsed : Nat := 11
def theMethod : MethodId := ⟨1, 1⟩
def args0 : Array Value := #[.int 1, .int 3, .int 92, .int 256, .int 0, .int 5]
def aboutOver (below : List Frame) : State where
  vm := { classes := classes, interned := interned.toArray }
  heap := heap
  slotsUsed := slotsUsed
  threads := #[{ frames := .invoking theMethod args0 :: below }]
def below0 : List Frame := [.native { method := ⟨0, 0⟩, args := #[] }]
def about1 : State := aboutOver below0
def p0 : Program := .bare "" "" ""
def e0 : Env := launch0.env 0 0 0
theorem w_frames : about1.frames = Frame.invoking theMethod args0 :: below0 := rfl
set_option maxRecDepth 65536 in
theorem w_args : argsFit about1.vm theMethod args0 = true := by decide +kernel
set_option maxRecDepth 65536 in
theorem w_heap : heapFits about1 = true := by decide +kernel
set_option maxRecDepth 65536 in
theorem w_runnable : about1.curStatus? = some .runnable := by decide +kernel
set_option maxRecDepth 65536 in
theorem w_alone : about1.alone = true := by decide +kernel
set_option maxRecDepth 65536 in
theorem w_named : about1.methodNamed? x = some theMethod := by decide +kernel
set_option maxRecDepth 65536 in
theorem w_hears : about1.hears theMethod below0 = true := by decide +kernel
set_option maxRecDepth 65536 in
theorem w_ripe : about1.ripe theMethod args0 below0 = true := by decide +kernel
theorem w_running : about1.status = .running := rfl
set_option maxRecDepth 65536 in
theorem w_room : about1.hasRoom e0.platform room_1 = true :=
  launch0.hasRoom_least _ room_1 (by decide +kernel) (by decide +kernel) (by decide +kernel) (by decide +kernel) (by decide +kernel) (by decide +kernel)
theorem allAtoms_all (ts : List Jvm.Cond) (a : Array Jvm.Value) (st : Jvm.State) : (allAtoms ts).before a st = ts.all (fun c => c.before a st) := by
  induction ts with
  | nil => rfl
  | cons c t ih =>
    show (Jvm.Cond.and c (allAtoms t)).before a st = _
    rw [Jvm.Cond.before_and, ih, List.all_cons]
def words1 : List Jvm.Cond := Jvm.Cond.code x code maxLocals ret :: tables_1
/-- a 'code' word, met by the world's own term for the bytes: nothing is compared byte by byte -/
theorem code_word {y : MethodName} {bytes : ByteArray} {mx : Nat} {rt : Option FieldType} {a : Array Value} {s : State} {m : MethodId} {meth : Method} {c : Code} (h1 : s.methodNamed? y = some m) (h2 : s.vm.method? m = some meth) (h3 : meth.code = some c) (h4 : c.code = bytes)
    (h5 : (c.maxLocals == mx && c.exceptionTable.isEmpty && decide (c.maxStack ≤ mostOperands) && decide (meth.sig.returnType = rt) && !meth.locks && decide (parseMethodDescriptor y.desc = some meth.sig)) = true) : (Jvm.Cond.code y bytes mx rt).before a s = true := by
  simp only [Bool.and_eq_true, beq_iff_eq, Bool.not_eq_true', decide_eq_true_eq] at h5
  obtain ⟨⟨⟨⟨⟨g1, g2⟩, g3⟩, g4⟩, g5⟩, g6⟩ := h5
  simp [Cond.before, Cond.holds, Cond.value, h1, h2, h3, h4, g1, g2, g3, g4, g5, g6]
def isCode : Jvm.Cond → Bool
  | .code _ _ _ _ => true
  | _ => false
theorem all_split {L : List Jvm.Cond} {P : Jvm.Cond → Bool} (h1 : L.all (fun c => isCode c || P c) = true) (h2 : ∀ c ∈ L.filter isCode, P c = true) : L.all P = true := by
  refine List.all_eq_true.mpr fun c hc => ?_
  have h := List.all_eq_true.mp h1 c hc
  rcases Bool.eq_false_or_eq_true (isCode c) with hi | hi
  · exact h2 c (List.mem_filter.mpr ⟨hc, hi⟩)
  · simpa [hi] using h
set_option maxRecDepth 65536 in
theorem w_c0 : (Jvm.Cond.code x code maxLocals ret).before args0 about1 = true := code_word (m := ⟨1, 1⟩) (meth := k1m1) (c := k1c1) (by decide +kernel) rfl rfl rfl (by decide +kernel)
set_option maxRecDepth 65536 in
theorem w_c1 : (Jvm.Cond.code ({ cls := "com/example/hyperslab/hyperslab/dap2/StringFormSentLengthPinLaw", name := "drawn", desc := "(I)B" } : Jvm.MethodName) method_3_code (1 : Nat) (Option.some Jvm.ClassFile.FieldType.byte)).before args0 about1 = true := code_word (m := ⟨1, 2⟩) (meth := k1m2) (c := k1c2) (by decide +kernel) rfl rfl rfl (by decide +kernel)
set_option maxRecDepth 65536 in
theorem w_c2 : (Jvm.Cond.code ({ cls := "com/example/hyperslab/hyperslab/dap2/DataDds$StringForm", name := "sentLength", desc := "([BI)J" } : Jvm.MethodName) prog_17_method_6_code (6 : Nat) (Option.some Jvm.ClassFile.FieldType.long)).before args0 about1 = true := code_word (m := ⟨6, 0⟩) (meth := k6m0) (c := k6c0) (by decide +kernel) rfl rfl rfl (by decide +kernel)
set_option maxRecDepth 65536 in
theorem w_c3 : (Jvm.Cond.code ({ cls := "com/example/hyperslab/hyperslab/dap2/StringFormSentLengthPinLaw", name := "hit", desc := "(BII)I" } : Jvm.MethodName) method_4_code (3 : Nat) (Option.some Jvm.ClassFile.FieldType.int)).before args0 about1 = true := code_word (m := ⟨1, 3⟩) (meth := k1m3) (c := k1c3) (by decide +kernel) rfl rfl rfl (by decide +kernel)
def codes1 : List Jvm.Cond := [Jvm.Cond.code x code maxLocals ret, Jvm.Cond.code ({ cls := "com/example/hyperslab/hyperslab/dap2/StringFormSentLengthPinLaw", name := "drawn", desc := "(I)B" } : Jvm.MethodName) method_3_code (1 : Nat) (Option.some Jvm.ClassFile.FieldType.byte), Jvm.Cond.code ({ cls := "com/example/hyperslab/hyperslab/dap2/DataDds$StringForm", name := "sentLength", desc := "([BI)J" } : Jvm.MethodName) prog_17_method_6_code (6 : Nat) (Option.some Jvm.ClassFile.FieldType.long), Jvm.Cond.code ({ cls := "com/example/hyperslab/hyperslab/dap2/StringFormSentLengthPinLaw", name := "hit", desc := "(BII)I" } : Jvm.MethodName) method_4_code (3 : Nat) (Option.some Jvm.ClassFile.FieldType.int)]
set_option maxRecDepth 65536 in
theorem codes_eq : words1.filter isCode = codes1 := rfl
theorem w_codes : ∀ c ∈ words1.filter isCode, c.before args0 about1 = true := by
  rw [codes_eq]
  intro c hc
  simp only [codes1, List.mem_cons, List.not_mem_nil, or_false] at hc
  rcases hc with rfl | rfl | rfl | rfl
  · exact w_c0
  · exact w_c1
  · exact w_c2
  · exact w_c3
set_option maxRecDepth 65536 in
theorem w_t1 : words1.all (fun c => isCode c || c.before args0 about1) = true := by decide +kernel
theorem w_tables : (allAtoms (Jvm.Cond.code x code maxLocals ret :: tables_1)).before args0 about1 = true := by
  rw [allAtoms_all]
  show words1.all (fun c => c.before args0 about1) = true
  refine all_split ?_ w_codes
  rw [w_t1]
set_option maxRecDepth 65536 in
theorem w_case : (Jvm.Cond.and given_1 narrow_1).before args0 about1 = true := by decide +kernel
theorem w_applies : (headSpec (Jvm.Cond.code x code maxLocals ret :: tables_1) room_1).applies x e0.platform about1 = true :=
  (Spec.applies_iff w_frames).mpr ⟨w_running, w_runnable, w_alone, w_named, w_hears, w_ripe, w_room, w_tables⟩
theorem atStart : AtStart classFile x code maxLocals ret World_1 tables_1 room_1 Calls_1 rest_1 Pre_1 launch0 p0 e0 about1 theMethod args0 below0 :=
  ⟨lists_1, trivial, launch0.admits_env _ _ _, launch0.least_env, fairChoices_fair.cas, fairChoices_fair.clock, w_frames, w_args, w_heap, w_applies, trivial, trivial, w_case⟩
end start1
theorem witness_1 : WitnessClaimed_1 := ⟨start1.p0, start1.e0, start1.about1, start1.theMethod, start1.args0, start1.below0, start1.atStart⟩
end Jvm.Pilot.@@N@@
