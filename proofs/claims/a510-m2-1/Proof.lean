import JvmDerived
import JvmDerived.Pilot.@@N@@Statement
import JvmDerived.Pilot.@@N@@Code
set_option linter.unusedVariables false
set_option linter.unusedSimpArgs false
namespace Jvm.RoadKit
open Sem ClassFile Op Lib Jvm.Stand Jvm.Free Jvm.LawKit
section New
variable {p : Program} {l : Launch} {e : Env} {R : Room} {s : State} {m : MethodId} {args : Array Value} {below : List Frame} {meth : Method} {c : Code} {T : State} {locs : List Loc} {cells slots : Nat}
theorem retI (X : Stand p l e R s m args below meth c T locs cells slots) (hx : p.tables.exec = Jvm.exec) {pc : Nat} {Ls : Array Slot} {z : Int32} {rest : List Value} (hret : meth.sig.returnType = some .int) (hd : decode c.code pc = .ok (.ireturn, 1)) {fs : List Frame}
    (hl : ∀ (f : JFrame) (acts : List Action), f.method = m → f.locked = none → f.entered = [] → (doReturn e (T.setTop f) acts (some (.int z))).1 = T.setFrames fs) : Steps p.tables e below (T.setTop (mkF m pc Ls (.int z :: rest))) (T.setFrames fs) := by
  have hm' : T.vm.method? m = some meth := X.method'
  have hn : narrow .int (.int z) = .int z := rfl
  show Steps p.tables e below (T.setTop { method := m, pc := pc, locals := Ls, stack := _ :: rest, locked := none }) _
  jvm_step X.here [X.here.top, hx, hd, hm', hret, hn]
  first | (intro acts; rw [hl _ acts rfl rfl rfl]) | rw [hl _ _ rfl rfl rfl]
  exact Steps.refl _
end New
end Jvm.RoadKit
namespace Jvm.Pilot.@@N@@
open Jvm Jvm.ClassFile Sem Op Lib Jvm.Free Jvm.Stand Jvm.LawKit Jvm.RoadKit Bundle Jvm.Pilot.@@N@@.Jvm.D
theorem pn_1 : plainName "com/example/adjacent_moments/adjacentmoments/store/GrowingBloomFilterMixPinLaw" = true := by first | (simp [plainName, overriddenIn]; done) | decide +kernel
theorem d1_0 : decode method_2_code 0 = .ok (.lload_n 0, 1) := by decide +kernel
theorem d1_1 : decode method_2_code 1 = .ok (.lstore_n 2, 1) := by decide +kernel
theorem d1_2 : decode method_2_code 2 = .ok (.lload_n 2, 1) := by decide +kernel
theorem d1_3 : decode method_2_code 3 = .ok (.ldc2_w 7, 3) := by decide +kernel
theorem d1_6 : decode method_2_code 6 = .ok (.lload_n 0, 1) := by decide +kernel
theorem d1_7 : decode method_2_code 7 = .ok (.lload_n 2, 1) := by decide +kernel
theorem d1_8 : decode method_2_code 8 = .ok (.lmul, 1) := by decide +kernel
theorem d1_9 : decode method_2_code 9 = .ok (.lsub, 1) := by decide +kernel
theorem d1_10 : decode method_2_code 10 = .ok (.lmul, 1) := by decide +kernel
theorem d1_11 : decode method_2_code 11 = .ok (.lstore_n 2, 1) := by decide +kernel
theorem d1_12 : decode method_2_code 12 = .ok (.lload_n 2, 1) := by decide +kernel
theorem d1_13 : decode method_2_code 13 = .ok (.ldc2_w 7, 3) := by decide +kernel
theorem d1_16 : decode method_2_code 16 = .ok (.lload_n 0, 1) := by decide +kernel
theorem d1_17 : decode method_2_code 17 = .ok (.lload_n 2, 1) := by decide +kernel
theorem d1_18 : decode method_2_code 18 = .ok (.lmul, 1) := by decide +kernel
theorem d1_19 : decode method_2_code 19 = .ok (.lsub, 1) := by decide +kernel
theorem d1_20 : decode method_2_code 20 = .ok (.lmul, 1) := by decide +kernel
theorem d1_21 : decode method_2_code 21 = .ok (.lstore_n 2, 1) := by decide +kernel
theorem d1_22 : decode method_2_code 22 = .ok (.lload_n 2, 1) := by decide +kernel
theorem d1_23 : decode method_2_code 23 = .ok (.ldc2_w 7, 3) := by decide +kernel
theorem d1_26 : decode method_2_code 26 = .ok (.lload_n 0, 1) := by decide +kernel
theorem d1_27 : decode method_2_code 27 = .ok (.lload_n 2, 1) := by decide +kernel
theorem d1_28 : decode method_2_code 28 = .ok (.lmul, 1) := by decide +kernel
theorem d1_29 : decode method_2_code 29 = .ok (.lsub, 1) := by decide +kernel
theorem d1_30 : decode method_2_code 30 = .ok (.lmul, 1) := by decide +kernel
theorem d1_31 : decode method_2_code 31 = .ok (.lstore_n 2, 1) := by decide +kernel
theorem d1_32 : decode method_2_code 32 = .ok (.lload_n 2, 1) := by decide +kernel
theorem d1_33 : decode method_2_code 33 = .ok (.ldc2_w 7, 3) := by decide +kernel
theorem d1_36 : decode method_2_code 36 = .ok (.lload_n 0, 1) := by decide +kernel
theorem d1_37 : decode method_2_code 37 = .ok (.lload_n 2, 1) := by decide +kernel
theorem d1_38 : decode method_2_code 38 = .ok (.lmul, 1) := by decide +kernel
theorem d1_39 : decode method_2_code 39 = .ok (.lsub, 1) := by decide +kernel
theorem d1_40 : decode method_2_code 40 = .ok (.lmul, 1) := by decide +kernel
theorem d1_41 : decode method_2_code 41 = .ok (.lstore_n 2, 1) := by decide +kernel
theorem d1_42 : decode method_2_code 42 = .ok (.lload_n 2, 1) := by decide +kernel
theorem d1_43 : decode method_2_code 43 = .ok (.ldc2_w 7, 3) := by decide +kernel
theorem d1_46 : decode method_2_code 46 = .ok (.lload_n 0, 1) := by decide +kernel
theorem d1_47 : decode method_2_code 47 = .ok (.lload_n 2, 1) := by decide +kernel
theorem d1_48 : decode method_2_code 48 = .ok (.lmul, 1) := by decide +kernel
theorem d1_49 : decode method_2_code 49 = .ok (.lsub, 1) := by decide +kernel
theorem d1_50 : decode method_2_code 50 = .ok (.lmul, 1) := by decide +kernel
theorem d1_51 : decode method_2_code 51 = .ok (.lstore_n 2, 1) := by decide +kernel
theorem d1_52 : decode method_2_code 52 = .ok (.lload_n 2, 1) := by decide +kernel
theorem ef_1 (m : MethodId) (x0 : Int64) : entryFrame m #[(.long x0)] 4 = mkF m 0 #[.val (.long x0), .second, .unset, .unset] [] := by first | (simp [entryFrame, mkF, argsToLocals, Value.category]; done) | rfl
def f1 (q0 : Int64) : Int64 := (let v2 : Int64 := (q0 * ((2 : Int64) - (q0 * q0))); (let v5 : Int64 := (v2 * ((2 : Int64) - (q0 * v2))); (let v8 : Int64 := (v5 * ((2 : Int64) - (q0 * v5))); (let v11 : Int64 := (v8 * ((2 : Int64) - (q0 * v8))); (let v14 : Int64 := (v11 * ((2 : Int64) - (q0 * v11))); v14)))))
def Q1 (Z : State) (q0 : Int64) (h0 : Heap) (n0 : Nat) (v : Option Value) (h : Heap) (L : List Loc) : Prop := v = some (.long (f1 q0)) ∧ Fr n0 L ∧ h = h0
theorem d1_53 : decode method_2_code 53 = .ok (.lreturn, 1) := by decide +kernel
set_option maxRecDepth 65536 in
set_option maxHeartbeats 40000000 in
theorem rm1 (l : Launch) (Z : State) (aw : Array Value) (hw : ∀ d ∈ tables_1, d.before aw Z = true) (ws : List Jvm.Cond) (q0 : Int64) (h0 : Heap) (n0 : Nat) (Z0 : n0 ≤ h0.size) :
    MetFree l (⟨"com/example/adjacent_moments/adjacentmoments/store/GrowingBloomFilterMixPinLaw", "inverse", "(J)J"⟩ : MethodName) (head1 (Jvm.Cond.code (⟨"com/example/adjacent_moments/adjacentmoments/store/GrowingBloomFilterMixPinLaw", "inverse", "(J)J"⟩ : MethodName) method_2_code 4 (some .long) :: ws) ({ frames := 0, cells := 0, slots := 0, locals := 0 } : Room)) (fun a U => a = #[(.long q0)] ∧ Z.Warmed39 U.vm ∧ U.heap = h0) (fun _ _ _ _ _ => True) (fun _ U o U' => ∃ v L, o = .returned v ∧ Q1 Z q0 h0 n0 v U'.heap L ∧ FrameEnd U o U' L ({ frames := 0, cells := 0, slots := 0, locals := 0 } : Room).cells ({ frames := 0, cells := 0, slots := 0, locals := 0 } : Room).slots) := by
  refine MetFree.of_bodySF (plainFor_of_name pn_1) hisR ?_
  intro p e s m args below meth c s₁ Bd hml0 hP hK
  obtain ⟨rfl, hZ, hh⟩ := hP
  have hx := Bd.exec
  have hby := Bd.bytes
  have hml : c.maxLocals = 4 := hml0
  have hown : s.vm.findClass "com/example/adjacent_moments/adjacentmoments/store/GrowingBloomFilterMixPinLaw" = some m.cls := findClass_of_methodNamed Bd.named
  have hnm := (name_of_methodNamed Bd.named Bd.method).1
  have X0 : Stand p l e ({ frames := 0, cells := 0, slots := 0, locals := 0 } : Room) s m #[(.long q0)] below meth c s₁ [] 0 0 := Stand.of_body Bd
  have e0 : s₁.heap = h0 := by rw [← hh, Bd.state]; rfl
  have N0 := Fr.nil n0
  have pre0 : ∀ t, Steps p.tables e below (s₁.setTop (mkF m 0 #[.val (.long q0), .second, .unset, .unset] [])) t → Steps p.tables e below (s₁.setTop (entryFrame m #[(.long q0)] 4)) t := fun t k => castTop (ef_1 m q0) k
  have pre1 : ∀ t, Steps p.tables e below (s₁.setTop (mkF m 11 #[.val (.long q0), .second, .val (.long q0), .second] [(.long (q0 * ((2 : Int64) - (q0 * q0))))])) t → Steps p.tables e below (s₁.setTop (entryFrame m #[(.long q0)] 4)) t := fun t k => pre0 t (by
    show Steps p.tables e below (s₁.setTop (mkF m 0 #[.val (.long q0), .second, .unset, .unset] [])) _
    refine XS.lloadN X0.here hx rfl (hb hby d1_0) rfl ?_
    show Steps p.tables e below (s₁.setTop (mkF m 1 #[.val (.long q0), .second, .unset, .unset] [(.long q0)])) _
    refine XS.lstoreN X0.here hx rfl (hb hby d1_1) rfl (l' := #[.val (.long q0), .second, .val (.long q0), .second]) rfl ?_
    show Steps p.tables e below (s₁.setTop (mkF m 2 #[.val (.long q0), .second, .val (.long q0), .second] [])) _
    refine XS.lloadN X0.here hx rfl (hb hby d1_2) rfl ?_
    show Steps p.tables e below (s₁.setTop (mkF m 3 #[.val (.long q0), .second, .val (.long q0), .second] [(.long q0)])) _
    refine X0.ldc2Long hx hown (mvT hZ (hw _ (List.mem_of_getElem? (i := 5) rfl))) (g := (mkF m 3 #[.val (.long q0), .second, .val (.long q0), .second] [(.long q0)])) rfl (hb hby d1_3) _ ?_
    show Steps p.tables e below (s₁.setTop (mkF m 6 #[.val (.long q0), .second, .val (.long q0), .second] [(.long (2 : Int64)), (.long q0)])) _
    refine XS.lloadN X0.here hx rfl (hb hby d1_6) rfl ?_
    show Steps p.tables e below (s₁.setTop (mkF m 7 #[.val (.long q0), .second, .val (.long q0), .second] [(.long q0), (.long (2 : Int64)), (.long q0)])) _
    refine XS.lloadN X0.here hx rfl (hb hby d1_7) rfl ?_
    show Steps p.tables e below (s₁.setTop (mkF m 8 #[.val (.long q0), .second, .val (.long q0), .second] [(.long q0), (.long q0), (.long (2 : Int64)), (.long q0)])) _
    refine XS.lmul X0.here hx rfl (hb hby d1_8) rfl ?_
    show Steps p.tables e below (s₁.setTop (mkF m 9 #[.val (.long q0), .second, .val (.long q0), .second] [(.long (q0 * q0)), (.long (2 : Int64)), (.long q0)])) _
    refine XS.lsub X0.here hx rfl (hb hby d1_9) rfl ?_
    show Steps p.tables e below (s₁.setTop (mkF m 10 #[.val (.long q0), .second, .val (.long q0), .second] [(.long ((2 : Int64) - (q0 * q0))), (.long q0)])) _
    refine XS.lmul X0.here hx rfl (hb hby d1_10) rfl ?_
    exact k)
  obtain ⟨v2, hv2⟩ : ∃ z : Int64, z = (q0 * ((2 : Int64) - (q0 * q0))) := ⟨_, rfl⟩
  have pre3 : ∀ t, Steps p.tables e below (s₁.setTop (mkF m 11 #[.val (.long q0), .second, .val (.long q0), .second] [(.long v2)])) t → Steps p.tables e below (s₁.setTop (entryFrame m #[(.long q0)] 4)) t := fun t k => pre1 t (by rw [hv2] at k; exact k)
  have pre4 : ∀ t, Steps p.tables e below (s₁.setTop (mkF m 21 #[.val (.long q0), .second, .val (.long v2), .second] [(.long (v2 * ((2 : Int64) - (q0 * v2))))])) t → Steps p.tables e below (s₁.setTop (entryFrame m #[(.long q0)] 4)) t := fun t k => pre3 t (by
    show Steps p.tables e below (s₁.setTop (mkF m 11 #[.val (.long q0), .second, .val (.long q0), .second] [(.long v2)])) _
    refine XS.lstoreN X0.here hx rfl (hb hby d1_11) rfl (l' := #[.val (.long q0), .second, .val (.long v2), .second]) rfl ?_
    show Steps p.tables e below (s₁.setTop (mkF m 12 #[.val (.long q0), .second, .val (.long v2), .second] [])) _
    refine XS.lloadN X0.here hx rfl (hb hby d1_12) rfl ?_
    show Steps p.tables e below (s₁.setTop (mkF m 13 #[.val (.long q0), .second, .val (.long v2), .second] [(.long v2)])) _
    refine X0.ldc2Long hx hown (mvT hZ (hw _ (List.mem_of_getElem? (i := 5) rfl))) (g := (mkF m 13 #[.val (.long q0), .second, .val (.long v2), .second] [(.long v2)])) rfl (hb hby d1_13) _ ?_
    show Steps p.tables e below (s₁.setTop (mkF m 16 #[.val (.long q0), .second, .val (.long v2), .second] [(.long (2 : Int64)), (.long v2)])) _
    refine XS.lloadN X0.here hx rfl (hb hby d1_16) rfl ?_
    show Steps p.tables e below (s₁.setTop (mkF m 17 #[.val (.long q0), .second, .val (.long v2), .second] [(.long q0), (.long (2 : Int64)), (.long v2)])) _
    refine XS.lloadN X0.here hx rfl (hb hby d1_17) rfl ?_
    show Steps p.tables e below (s₁.setTop (mkF m 18 #[.val (.long q0), .second, .val (.long v2), .second] [(.long v2), (.long q0), (.long (2 : Int64)), (.long v2)])) _
    refine XS.lmul X0.here hx rfl (hb hby d1_18) rfl ?_
    show Steps p.tables e below (s₁.setTop (mkF m 19 #[.val (.long q0), .second, .val (.long v2), .second] [(.long (q0 * v2)), (.long (2 : Int64)), (.long v2)])) _
    refine XS.lsub X0.here hx rfl (hb hby d1_19) rfl ?_
    show Steps p.tables e below (s₁.setTop (mkF m 20 #[.val (.long q0), .second, .val (.long v2), .second] [(.long ((2 : Int64) - (q0 * v2))), (.long v2)])) _
    refine XS.lmul X0.here hx rfl (hb hby d1_20) rfl ?_
    exact k)
  obtain ⟨v5, hv5⟩ : ∃ z : Int64, z = (v2 * ((2 : Int64) - (q0 * v2))) := ⟨_, rfl⟩
  have pre6 : ∀ t, Steps p.tables e below (s₁.setTop (mkF m 21 #[.val (.long q0), .second, .val (.long v2), .second] [(.long v5)])) t → Steps p.tables e below (s₁.setTop (entryFrame m #[(.long q0)] 4)) t := fun t k => pre4 t (by rw [hv5] at k; exact k)
  have pre7 : ∀ t, Steps p.tables e below (s₁.setTop (mkF m 31 #[.val (.long q0), .second, .val (.long v5), .second] [(.long (v5 * ((2 : Int64) - (q0 * v5))))])) t → Steps p.tables e below (s₁.setTop (entryFrame m #[(.long q0)] 4)) t := fun t k => pre6 t (by
    show Steps p.tables e below (s₁.setTop (mkF m 21 #[.val (.long q0), .second, .val (.long v2), .second] [(.long v5)])) _
    refine XS.lstoreN X0.here hx rfl (hb hby d1_21) rfl (l' := #[.val (.long q0), .second, .val (.long v5), .second]) rfl ?_
    show Steps p.tables e below (s₁.setTop (mkF m 22 #[.val (.long q0), .second, .val (.long v5), .second] [])) _
    refine XS.lloadN X0.here hx rfl (hb hby d1_22) rfl ?_
    show Steps p.tables e below (s₁.setTop (mkF m 23 #[.val (.long q0), .second, .val (.long v5), .second] [(.long v5)])) _
    refine X0.ldc2Long hx hown (mvT hZ (hw _ (List.mem_of_getElem? (i := 5) rfl))) (g := (mkF m 23 #[.val (.long q0), .second, .val (.long v5), .second] [(.long v5)])) rfl (hb hby d1_23) _ ?_
    show Steps p.tables e below (s₁.setTop (mkF m 26 #[.val (.long q0), .second, .val (.long v5), .second] [(.long (2 : Int64)), (.long v5)])) _
    refine XS.lloadN X0.here hx rfl (hb hby d1_26) rfl ?_
    show Steps p.tables e below (s₁.setTop (mkF m 27 #[.val (.long q0), .second, .val (.long v5), .second] [(.long q0), (.long (2 : Int64)), (.long v5)])) _
    refine XS.lloadN X0.here hx rfl (hb hby d1_27) rfl ?_
    show Steps p.tables e below (s₁.setTop (mkF m 28 #[.val (.long q0), .second, .val (.long v5), .second] [(.long v5), (.long q0), (.long (2 : Int64)), (.long v5)])) _
    refine XS.lmul X0.here hx rfl (hb hby d1_28) rfl ?_
    show Steps p.tables e below (s₁.setTop (mkF m 29 #[.val (.long q0), .second, .val (.long v5), .second] [(.long (q0 * v5)), (.long (2 : Int64)), (.long v5)])) _
    refine XS.lsub X0.here hx rfl (hb hby d1_29) rfl ?_
    show Steps p.tables e below (s₁.setTop (mkF m 30 #[.val (.long q0), .second, .val (.long v5), .second] [(.long ((2 : Int64) - (q0 * v5))), (.long v5)])) _
    refine XS.lmul X0.here hx rfl (hb hby d1_30) rfl ?_
    exact k)
  obtain ⟨v8, hv8⟩ : ∃ z : Int64, z = (v5 * ((2 : Int64) - (q0 * v5))) := ⟨_, rfl⟩
  have pre9 : ∀ t, Steps p.tables e below (s₁.setTop (mkF m 31 #[.val (.long q0), .second, .val (.long v5), .second] [(.long v8)])) t → Steps p.tables e below (s₁.setTop (entryFrame m #[(.long q0)] 4)) t := fun t k => pre7 t (by rw [hv8] at k; exact k)
  have pre10 : ∀ t, Steps p.tables e below (s₁.setTop (mkF m 41 #[.val (.long q0), .second, .val (.long v8), .second] [(.long (v8 * ((2 : Int64) - (q0 * v8))))])) t → Steps p.tables e below (s₁.setTop (entryFrame m #[(.long q0)] 4)) t := fun t k => pre9 t (by
    show Steps p.tables e below (s₁.setTop (mkF m 31 #[.val (.long q0), .second, .val (.long v5), .second] [(.long v8)])) _
    refine XS.lstoreN X0.here hx rfl (hb hby d1_31) rfl (l' := #[.val (.long q0), .second, .val (.long v8), .second]) rfl ?_
    show Steps p.tables e below (s₁.setTop (mkF m 32 #[.val (.long q0), .second, .val (.long v8), .second] [])) _
    refine XS.lloadN X0.here hx rfl (hb hby d1_32) rfl ?_
    show Steps p.tables e below (s₁.setTop (mkF m 33 #[.val (.long q0), .second, .val (.long v8), .second] [(.long v8)])) _
    refine X0.ldc2Long hx hown (mvT hZ (hw _ (List.mem_of_getElem? (i := 5) rfl))) (g := (mkF m 33 #[.val (.long q0), .second, .val (.long v8), .second] [(.long v8)])) rfl (hb hby d1_33) _ ?_
    show Steps p.tables e below (s₁.setTop (mkF m 36 #[.val (.long q0), .second, .val (.long v8), .second] [(.long (2 : Int64)), (.long v8)])) _
    refine XS.lloadN X0.here hx rfl (hb hby d1_36) rfl ?_
    show Steps p.tables e below (s₁.setTop (mkF m 37 #[.val (.long q0), .second, .val (.long v8), .second] [(.long q0), (.long (2 : Int64)), (.long v8)])) _
    refine XS.lloadN X0.here hx rfl (hb hby d1_37) rfl ?_
    show Steps p.tables e below (s₁.setTop (mkF m 38 #[.val (.long q0), .second, .val (.long v8), .second] [(.long v8), (.long q0), (.long (2 : Int64)), (.long v8)])) _
    refine XS.lmul X0.here hx rfl (hb hby d1_38) rfl ?_
    show Steps p.tables e below (s₁.setTop (mkF m 39 #[.val (.long q0), .second, .val (.long v8), .second] [(.long (q0 * v8)), (.long (2 : Int64)), (.long v8)])) _
    refine XS.lsub X0.here hx rfl (hb hby d1_39) rfl ?_
    show Steps p.tables e below (s₁.setTop (mkF m 40 #[.val (.long q0), .second, .val (.long v8), .second] [(.long ((2 : Int64) - (q0 * v8))), (.long v8)])) _
    refine XS.lmul X0.here hx rfl (hb hby d1_40) rfl ?_
    exact k)
  obtain ⟨v11, hv11⟩ : ∃ z : Int64, z = (v8 * ((2 : Int64) - (q0 * v8))) := ⟨_, rfl⟩
  have pre12 : ∀ t, Steps p.tables e below (s₁.setTop (mkF m 41 #[.val (.long q0), .second, .val (.long v8), .second] [(.long v11)])) t → Steps p.tables e below (s₁.setTop (entryFrame m #[(.long q0)] 4)) t := fun t k => pre10 t (by rw [hv11] at k; exact k)
  have pre13 : ∀ t, Steps p.tables e below (s₁.setTop (mkF m 51 #[.val (.long q0), .second, .val (.long v11), .second] [(.long (v11 * ((2 : Int64) - (q0 * v11))))])) t → Steps p.tables e below (s₁.setTop (entryFrame m #[(.long q0)] 4)) t := fun t k => pre12 t (by
    show Steps p.tables e below (s₁.setTop (mkF m 41 #[.val (.long q0), .second, .val (.long v8), .second] [(.long v11)])) _
    refine XS.lstoreN X0.here hx rfl (hb hby d1_41) rfl (l' := #[.val (.long q0), .second, .val (.long v11), .second]) rfl ?_
    show Steps p.tables e below (s₁.setTop (mkF m 42 #[.val (.long q0), .second, .val (.long v11), .second] [])) _
    refine XS.lloadN X0.here hx rfl (hb hby d1_42) rfl ?_
    show Steps p.tables e below (s₁.setTop (mkF m 43 #[.val (.long q0), .second, .val (.long v11), .second] [(.long v11)])) _
    refine X0.ldc2Long hx hown (mvT hZ (hw _ (List.mem_of_getElem? (i := 5) rfl))) (g := (mkF m 43 #[.val (.long q0), .second, .val (.long v11), .second] [(.long v11)])) rfl (hb hby d1_43) _ ?_
    show Steps p.tables e below (s₁.setTop (mkF m 46 #[.val (.long q0), .second, .val (.long v11), .second] [(.long (2 : Int64)), (.long v11)])) _
    refine XS.lloadN X0.here hx rfl (hb hby d1_46) rfl ?_
    show Steps p.tables e below (s₁.setTop (mkF m 47 #[.val (.long q0), .second, .val (.long v11), .second] [(.long q0), (.long (2 : Int64)), (.long v11)])) _
    refine XS.lloadN X0.here hx rfl (hb hby d1_47) rfl ?_
    show Steps p.tables e below (s₁.setTop (mkF m 48 #[.val (.long q0), .second, .val (.long v11), .second] [(.long v11), (.long q0), (.long (2 : Int64)), (.long v11)])) _
    refine XS.lmul X0.here hx rfl (hb hby d1_48) rfl ?_
    show Steps p.tables e below (s₁.setTop (mkF m 49 #[.val (.long q0), .second, .val (.long v11), .second] [(.long (q0 * v11)), (.long (2 : Int64)), (.long v11)])) _
    refine XS.lsub X0.here hx rfl (hb hby d1_49) rfl ?_
    show Steps p.tables e below (s₁.setTop (mkF m 50 #[.val (.long q0), .second, .val (.long v11), .second] [(.long ((2 : Int64) - (q0 * v11))), (.long v11)])) _
    refine XS.lmul X0.here hx rfl (hb hby d1_50) rfl ?_
    exact k)
  obtain ⟨v14, hv14⟩ : ∃ z : Int64, z = (v11 * ((2 : Int64) - (q0 * v11))) := ⟨_, rfl⟩
  have pre15 : ∀ t, Steps p.tables e below (s₁.setTop (mkF m 51 #[.val (.long q0), .second, .val (.long v11), .second] [(.long v14)])) t → Steps p.tables e below (s₁.setTop (entryFrame m #[(.long q0)] 4)) t := fun t k => pre13 t (by rw [hv14] at k; exact k)
  obtain ⟨fs, hr, hrun, hended, hW, hsame⟩ := X0.leave (v := some (.long v14)) (fun h => by rw [Bd.returns] at h; cases h)
  refine ⟨_, _, pre15 _ ?_, hrun, hended, _, _, rfl, ?_, ⟨_, rfl⟩, hW, hsame.mono (by decide) (by decide)⟩
  · show Steps p.tables e below (s₁.setTop (mkF m 51 #[.val (.long q0), .second, .val (.long v11), .second] [(.long v14)])) _
    refine XS.lstoreN X0.here hx rfl (hb hby d1_51) rfl (l' := #[.val (.long q0), .second, .val (.long v14), .second]) rfl ?_
    show Steps p.tables e below (s₁.setTop (mkF m 52 #[.val (.long q0), .second, .val (.long v14), .second] [])) _
    refine XS.lloadN X0.here hx rfl (hb hby d1_52) rfl ?_
    show Steps p.tables e below (s₁.setTop (mkF m 53 #[.val (.long q0), .second, .val (.long v14), .second] [(.long v14)])) _
    jvm_step X0.here [X0.here.top, hx, (hb hby d1_53), X0.method', Bd.returns, narrow]
    first | (intro acts; rw [hr _ acts rfl rfl rfl]) | rw [hr _ _ rfl rfl rfl]
    exact Steps.refl _
  · show Q1 Z q0 h0 n0 _ s₁.heap _
    rw [e0]
    exact ⟨congrArg (fun z => some (Value.long z)) (by subst hv14 hv11 hv8 hv5 hv2; rfl), N0, rfl⟩
theorem pn_0 : plainName "com/example/adjacent_moments/adjacentmoments/store/GrowingBloomFilter" = true := by first | (simp [plainName, overriddenIn]; done) | decide +kernel
theorem d2_0 : decode prog_17_method_13_code 0 = .ok (.lload_n 0, 1) := by decide +kernel
theorem d2_1 : decode prog_17_method_13_code 1 = .ok (.lstore_n 2, 1) := by decide +kernel
theorem d2_2 : decode prog_17_method_13_code 2 = .ok (.lload_n 2, 1) := by decide +kernel
theorem d2_3 : decode prog_17_method_13_code 3 = .ok (.lload_n 2, 1) := by decide +kernel
theorem d2_4 : decode prog_17_method_13_code 4 = .ok (.bipush 33, 2) := by decide +kernel
theorem d2_6 : decode prog_17_method_13_code 6 = .ok (.lushr, 1) := by decide +kernel
theorem d2_7 : decode prog_17_method_13_code 7 = .ok (.lxor, 1) := by decide +kernel
theorem d2_8 : decode prog_17_method_13_code 8 = .ok (.lstore_n 2, 1) := by decide +kernel
theorem d2_9 : decode prog_17_method_13_code 9 = .ok (.lload_n 2, 1) := by decide +kernel
theorem d2_10 : decode prog_17_method_13_code 10 = .ok (.ldc2_w 179, 3) := by decide +kernel
theorem d2_13 : decode prog_17_method_13_code 13 = .ok (.lmul, 1) := by decide +kernel
theorem d2_14 : decode prog_17_method_13_code 14 = .ok (.lstore_n 2, 1) := by decide +kernel
theorem d2_15 : decode prog_17_method_13_code 15 = .ok (.lload_n 2, 1) := by decide +kernel
theorem d2_16 : decode prog_17_method_13_code 16 = .ok (.lload_n 2, 1) := by decide +kernel
theorem d2_17 : decode prog_17_method_13_code 17 = .ok (.bipush 33, 2) := by decide +kernel
theorem d2_19 : decode prog_17_method_13_code 19 = .ok (.lushr, 1) := by decide +kernel
theorem d2_20 : decode prog_17_method_13_code 20 = .ok (.lxor, 1) := by decide +kernel
theorem d2_21 : decode prog_17_method_13_code 21 = .ok (.lstore_n 2, 1) := by decide +kernel
theorem d2_22 : decode prog_17_method_13_code 22 = .ok (.lload_n 2, 1) := by decide +kernel
theorem d2_23 : decode prog_17_method_13_code 23 = .ok (.ldc2_w 181, 3) := by decide +kernel
theorem d2_26 : decode prog_17_method_13_code 26 = .ok (.lmul, 1) := by decide +kernel
theorem d2_27 : decode prog_17_method_13_code 27 = .ok (.lstore_n 2, 1) := by decide +kernel
theorem d2_28 : decode prog_17_method_13_code 28 = .ok (.lload_n 2, 1) := by decide +kernel
theorem d2_29 : decode prog_17_method_13_code 29 = .ok (.lload_n 2, 1) := by decide +kernel
theorem d2_30 : decode prog_17_method_13_code 30 = .ok (.bipush 33, 2) := by decide +kernel
theorem d2_32 : decode prog_17_method_13_code 32 = .ok (.lushr, 1) := by decide +kernel
theorem d2_33 : decode prog_17_method_13_code 33 = .ok (.lxor, 1) := by decide +kernel
theorem d2_34 : decode prog_17_method_13_code 34 = .ok (.lstore_n 2, 1) := by decide +kernel
theorem d2_35 : decode prog_17_method_13_code 35 = .ok (.lload_n 2, 1) := by decide +kernel
theorem ef_2 (m : MethodId) (x0 : Int64) : entryFrame m #[(.long x0)] 4 = mkF m 0 #[.val (.long x0), .second, .unset, .unset] [] := by first | (simp [entryFrame, mkF, argsToLocals, Value.category]; done) | rfl
def f2 (q0 : Int64) : Int64 := (let v2 : Int64 := (q0 ^^^ ((q0.toUInt64 >>> ((33 : Int32) &&& 0x3f).toInt64.toUInt64).toInt64)); (let v5 : Int64 := (v2 * (-49064778989728563 : Int64)); (let v8 : Int64 := (v5 ^^^ ((v5.toUInt64 >>> ((33 : Int32) &&& 0x3f).toInt64.toUInt64).toInt64)); (let v11 : Int64 := (v8 * (-4265267296055464877 : Int64)); (let v14 : Int64 := (v11 ^^^ ((v11.toUInt64 >>> ((33 : Int32) &&& 0x3f).toInt64.toUInt64).toInt64)); v14)))))
def Q2 (Z : State) (q0 : Int64) (h0 : Heap) (n0 : Nat) (v : Option Value) (h : Heap) (L : List Loc) : Prop := v = some (.long (f2 q0)) ∧ Fr n0 L ∧ h = h0
theorem d2_36 : decode prog_17_method_13_code 36 = .ok (.lreturn, 1) := by decide +kernel
set_option maxRecDepth 65536 in
set_option maxHeartbeats 40000000 in
theorem rm2 (l : Launch) (Z : State) (aw : Array Value) (hw : ∀ d ∈ tables_1, d.before aw Z = true) (ws : List Jvm.Cond) (q0 : Int64) (h0 : Heap) (n0 : Nat) (Z0 : n0 ≤ h0.size) :
    MetFree l (⟨"com/example/adjacent_moments/adjacentmoments/store/GrowingBloomFilter", "mix", "(J)J"⟩ : MethodName) (head1 (Jvm.Cond.code (⟨"com/example/adjacent_moments/adjacentmoments/store/GrowingBloomFilter", "mix", "(J)J"⟩ : MethodName) prog_17_method_13_code 4 (some .long) :: ws) ({ frames := 0, cells := 0, slots := 0, locals := 0 } : Room)) (fun a U => a = #[(.long q0)] ∧ Z.Warmed39 U.vm ∧ U.heap = h0) (fun _ _ _ _ _ => True) (fun _ U o U' => ∃ v L, o = .returned v ∧ Q2 Z q0 h0 n0 v U'.heap L ∧ FrameEnd U o U' L ({ frames := 0, cells := 0, slots := 0, locals := 0 } : Room).cells ({ frames := 0, cells := 0, slots := 0, locals := 0 } : Room).slots) := by
  refine MetFree.of_bodySF (plainFor_of_name pn_0) hisR ?_
  intro p e s m args below meth c s₁ Bd hml0 hP hK
  obtain ⟨rfl, hZ, hh⟩ := hP
  have hx := Bd.exec
  have hby := Bd.bytes
  have hml : c.maxLocals = 4 := hml0
  have hown : s.vm.findClass "com/example/adjacent_moments/adjacentmoments/store/GrowingBloomFilter" = some m.cls := findClass_of_methodNamed Bd.named
  have hnm := (name_of_methodNamed Bd.named Bd.method).1
  have X0 : Stand p l e ({ frames := 0, cells := 0, slots := 0, locals := 0 } : Room) s m #[(.long q0)] below meth c s₁ [] 0 0 := Stand.of_body Bd
  have e0 : s₁.heap = h0 := by rw [← hh, Bd.state]; rfl
  have N0 := Fr.nil n0
  have pre0 : ∀ t, Steps p.tables e below (s₁.setTop (mkF m 0 #[.val (.long q0), .second, .unset, .unset] [])) t → Steps p.tables e below (s₁.setTop (entryFrame m #[(.long q0)] 4)) t := fun t k => castTop (ef_2 m q0) k
  have pre1 : ∀ t, Steps p.tables e below (s₁.setTop (mkF m 8 #[.val (.long q0), .second, .val (.long q0), .second] [(.long (q0 ^^^ ((q0.toUInt64 >>> ((33 : Int32) &&& 0x3f).toInt64.toUInt64).toInt64)))])) t → Steps p.tables e below (s₁.setTop (entryFrame m #[(.long q0)] 4)) t := fun t k => pre0 t (by
    show Steps p.tables e below (s₁.setTop (mkF m 0 #[.val (.long q0), .second, .unset, .unset] [])) _
    refine XS.lloadN X0.here hx rfl (hb hby d2_0) rfl ?_
    show Steps p.tables e below (s₁.setTop (mkF m 1 #[.val (.long q0), .second, .unset, .unset] [(.long q0)])) _
    refine XS.lstoreN X0.here hx rfl (hb hby d2_1) rfl (l' := #[.val (.long q0), .second, .val (.long q0), .second]) rfl ?_
    show Steps p.tables e below (s₁.setTop (mkF m 2 #[.val (.long q0), .second, .val (.long q0), .second] [])) _
    refine XS.lloadN X0.here hx rfl (hb hby d2_2) rfl ?_
    show Steps p.tables e below (s₁.setTop (mkF m 3 #[.val (.long q0), .second, .val (.long q0), .second] [(.long q0)])) _
    refine XS.lloadN X0.here hx rfl (hb hby d2_3) rfl ?_
    show Steps p.tables e below (s₁.setTop (mkF m 4 #[.val (.long q0), .second, .val (.long q0), .second] [(.long q0), (.long q0)])) _
    refine XS.bipush X0.here hx rfl (hb hby d2_4) ?_
    show Steps p.tables e below (s₁.setTop (mkF m 6 #[.val (.long q0), .second, .val (.long q0), .second] [(.int (33 : Int32)), (.long q0), (.long q0)])) _
    refine XS.lushr X0.here hx rfl (hb hby d2_6) rfl ?_
    show Steps p.tables e below (s₁.setTop (mkF m 7 #[.val (.long q0), .second, .val (.long q0), .second] [(.long ((q0.toUInt64 >>> ((33 : Int32) &&& 0x3f).toInt64.toUInt64).toInt64)), (.long q0)])) _
    refine XS.lxor X0.here hx rfl (hb hby d2_7) rfl ?_
    exact k)
  obtain ⟨v2, hv2⟩ : ∃ z : Int64, z = (q0 ^^^ ((q0.toUInt64 >>> ((33 : Int32) &&& 0x3f).toInt64.toUInt64).toInt64)) := ⟨_, rfl⟩
  have pre3 : ∀ t, Steps p.tables e below (s₁.setTop (mkF m 8 #[.val (.long q0), .second, .val (.long q0), .second] [(.long v2)])) t → Steps p.tables e below (s₁.setTop (entryFrame m #[(.long q0)] 4)) t := fun t k => pre1 t (by rw [hv2] at k; exact k)
  have pre4 : ∀ t, Steps p.tables e below (s₁.setTop (mkF m 14 #[.val (.long q0), .second, .val (.long v2), .second] [(.long (v2 * (-49064778989728563 : Int64)))])) t → Steps p.tables e below (s₁.setTop (entryFrame m #[(.long q0)] 4)) t := fun t k => pre3 t (by
    show Steps p.tables e below (s₁.setTop (mkF m 8 #[.val (.long q0), .second, .val (.long q0), .second] [(.long v2)])) _
    refine XS.lstoreN X0.here hx rfl (hb hby d2_8) rfl (l' := #[.val (.long q0), .second, .val (.long v2), .second]) rfl ?_
    show Steps p.tables e below (s₁.setTop (mkF m 9 #[.val (.long q0), .second, .val (.long v2), .second] [])) _
    refine XS.lloadN X0.here hx rfl (hb hby d2_9) rfl ?_
    show Steps p.tables e below (s₁.setTop (mkF m 10 #[.val (.long q0), .second, .val (.long v2), .second] [(.long v2)])) _
    refine X0.ldc2Long hx hown (mvT hZ (hw _ (List.mem_of_getElem? (i := 11) rfl))) (g := (mkF m 10 #[.val (.long q0), .second, .val (.long v2), .second] [(.long v2)])) rfl (hb hby d2_10) _ ?_
    show Steps p.tables e below (s₁.setTop (mkF m 13 #[.val (.long q0), .second, .val (.long v2), .second] [(.long (-49064778989728563 : Int64)), (.long v2)])) _
    refine XS.lmul X0.here hx rfl (hb hby d2_13) rfl ?_
    exact k)
  obtain ⟨v5, hv5⟩ : ∃ z : Int64, z = (v2 * (-49064778989728563 : Int64)) := ⟨_, rfl⟩
  have pre6 : ∀ t, Steps p.tables e below (s₁.setTop (mkF m 14 #[.val (.long q0), .second, .val (.long v2), .second] [(.long v5)])) t → Steps p.tables e below (s₁.setTop (entryFrame m #[(.long q0)] 4)) t := fun t k => pre4 t (by rw [hv5] at k; exact k)
  have pre7 : ∀ t, Steps p.tables e below (s₁.setTop (mkF m 21 #[.val (.long q0), .second, .val (.long v5), .second] [(.long (v5 ^^^ ((v5.toUInt64 >>> ((33 : Int32) &&& 0x3f).toInt64.toUInt64).toInt64)))])) t → Steps p.tables e below (s₁.setTop (entryFrame m #[(.long q0)] 4)) t := fun t k => pre6 t (by
    show Steps p.tables e below (s₁.setTop (mkF m 14 #[.val (.long q0), .second, .val (.long v2), .second] [(.long v5)])) _
    refine XS.lstoreN X0.here hx rfl (hb hby d2_14) rfl (l' := #[.val (.long q0), .second, .val (.long v5), .second]) rfl ?_
    show Steps p.tables e below (s₁.setTop (mkF m 15 #[.val (.long q0), .second, .val (.long v5), .second] [])) _
    refine XS.lloadN X0.here hx rfl (hb hby d2_15) rfl ?_
    show Steps p.tables e below (s₁.setTop (mkF m 16 #[.val (.long q0), .second, .val (.long v5), .second] [(.long v5)])) _
    refine XS.lloadN X0.here hx rfl (hb hby d2_16) rfl ?_
    show Steps p.tables e below (s₁.setTop (mkF m 17 #[.val (.long q0), .second, .val (.long v5), .second] [(.long v5), (.long v5)])) _
    refine XS.bipush X0.here hx rfl (hb hby d2_17) ?_
    show Steps p.tables e below (s₁.setTop (mkF m 19 #[.val (.long q0), .second, .val (.long v5), .second] [(.int (33 : Int32)), (.long v5), (.long v5)])) _
    refine XS.lushr X0.here hx rfl (hb hby d2_19) rfl ?_
    show Steps p.tables e below (s₁.setTop (mkF m 20 #[.val (.long q0), .second, .val (.long v5), .second] [(.long ((v5.toUInt64 >>> ((33 : Int32) &&& 0x3f).toInt64.toUInt64).toInt64)), (.long v5)])) _
    refine XS.lxor X0.here hx rfl (hb hby d2_20) rfl ?_
    exact k)
  obtain ⟨v8, hv8⟩ : ∃ z : Int64, z = (v5 ^^^ ((v5.toUInt64 >>> ((33 : Int32) &&& 0x3f).toInt64.toUInt64).toInt64)) := ⟨_, rfl⟩
  have pre9 : ∀ t, Steps p.tables e below (s₁.setTop (mkF m 21 #[.val (.long q0), .second, .val (.long v5), .second] [(.long v8)])) t → Steps p.tables e below (s₁.setTop (entryFrame m #[(.long q0)] 4)) t := fun t k => pre7 t (by rw [hv8] at k; exact k)
  have pre10 : ∀ t, Steps p.tables e below (s₁.setTop (mkF m 27 #[.val (.long q0), .second, .val (.long v8), .second] [(.long (v8 * (-4265267296055464877 : Int64)))])) t → Steps p.tables e below (s₁.setTop (entryFrame m #[(.long q0)] 4)) t := fun t k => pre9 t (by
    show Steps p.tables e below (s₁.setTop (mkF m 21 #[.val (.long q0), .second, .val (.long v5), .second] [(.long v8)])) _
    refine XS.lstoreN X0.here hx rfl (hb hby d2_21) rfl (l' := #[.val (.long q0), .second, .val (.long v8), .second]) rfl ?_
    show Steps p.tables e below (s₁.setTop (mkF m 22 #[.val (.long q0), .second, .val (.long v8), .second] [])) _
    refine XS.lloadN X0.here hx rfl (hb hby d2_22) rfl ?_
    show Steps p.tables e below (s₁.setTop (mkF m 23 #[.val (.long q0), .second, .val (.long v8), .second] [(.long v8)])) _
    refine X0.ldc2Long hx hown (mvT hZ (hw _ (List.mem_of_getElem? (i := 12) rfl))) (g := (mkF m 23 #[.val (.long q0), .second, .val (.long v8), .second] [(.long v8)])) rfl (hb hby d2_23) _ ?_
    show Steps p.tables e below (s₁.setTop (mkF m 26 #[.val (.long q0), .second, .val (.long v8), .second] [(.long (-4265267296055464877 : Int64)), (.long v8)])) _
    refine XS.lmul X0.here hx rfl (hb hby d2_26) rfl ?_
    exact k)
  obtain ⟨v11, hv11⟩ : ∃ z : Int64, z = (v8 * (-4265267296055464877 : Int64)) := ⟨_, rfl⟩
  have pre12 : ∀ t, Steps p.tables e below (s₁.setTop (mkF m 27 #[.val (.long q0), .second, .val (.long v8), .second] [(.long v11)])) t → Steps p.tables e below (s₁.setTop (entryFrame m #[(.long q0)] 4)) t := fun t k => pre10 t (by rw [hv11] at k; exact k)
  have pre13 : ∀ t, Steps p.tables e below (s₁.setTop (mkF m 34 #[.val (.long q0), .second, .val (.long v11), .second] [(.long (v11 ^^^ ((v11.toUInt64 >>> ((33 : Int32) &&& 0x3f).toInt64.toUInt64).toInt64)))])) t → Steps p.tables e below (s₁.setTop (entryFrame m #[(.long q0)] 4)) t := fun t k => pre12 t (by
    show Steps p.tables e below (s₁.setTop (mkF m 27 #[.val (.long q0), .second, .val (.long v8), .second] [(.long v11)])) _
    refine XS.lstoreN X0.here hx rfl (hb hby d2_27) rfl (l' := #[.val (.long q0), .second, .val (.long v11), .second]) rfl ?_
    show Steps p.tables e below (s₁.setTop (mkF m 28 #[.val (.long q0), .second, .val (.long v11), .second] [])) _
    refine XS.lloadN X0.here hx rfl (hb hby d2_28) rfl ?_
    show Steps p.tables e below (s₁.setTop (mkF m 29 #[.val (.long q0), .second, .val (.long v11), .second] [(.long v11)])) _
    refine XS.lloadN X0.here hx rfl (hb hby d2_29) rfl ?_
    show Steps p.tables e below (s₁.setTop (mkF m 30 #[.val (.long q0), .second, .val (.long v11), .second] [(.long v11), (.long v11)])) _
    refine XS.bipush X0.here hx rfl (hb hby d2_30) ?_
    show Steps p.tables e below (s₁.setTop (mkF m 32 #[.val (.long q0), .second, .val (.long v11), .second] [(.int (33 : Int32)), (.long v11), (.long v11)])) _
    refine XS.lushr X0.here hx rfl (hb hby d2_32) rfl ?_
    show Steps p.tables e below (s₁.setTop (mkF m 33 #[.val (.long q0), .second, .val (.long v11), .second] [(.long ((v11.toUInt64 >>> ((33 : Int32) &&& 0x3f).toInt64.toUInt64).toInt64)), (.long v11)])) _
    refine XS.lxor X0.here hx rfl (hb hby d2_33) rfl ?_
    exact k)
  obtain ⟨v14, hv14⟩ : ∃ z : Int64, z = (v11 ^^^ ((v11.toUInt64 >>> ((33 : Int32) &&& 0x3f).toInt64.toUInt64).toInt64)) := ⟨_, rfl⟩
  have pre15 : ∀ t, Steps p.tables e below (s₁.setTop (mkF m 34 #[.val (.long q0), .second, .val (.long v11), .second] [(.long v14)])) t → Steps p.tables e below (s₁.setTop (entryFrame m #[(.long q0)] 4)) t := fun t k => pre13 t (by rw [hv14] at k; exact k)
  obtain ⟨fs, hr, hrun, hended, hW, hsame⟩ := X0.leave (v := some (.long v14)) (fun h => by rw [Bd.returns] at h; cases h)
  refine ⟨_, _, pre15 _ ?_, hrun, hended, _, _, rfl, ?_, ⟨_, rfl⟩, hW, hsame.mono (by decide) (by decide)⟩
  · show Steps p.tables e below (s₁.setTop (mkF m 34 #[.val (.long q0), .second, .val (.long v11), .second] [(.long v14)])) _
    refine XS.lstoreN X0.here hx rfl (hb hby d2_34) rfl (l' := #[.val (.long q0), .second, .val (.long v14), .second]) rfl ?_
    show Steps p.tables e below (s₁.setTop (mkF m 35 #[.val (.long q0), .second, .val (.long v14), .second] [])) _
    refine XS.lloadN X0.here hx rfl (hb hby d2_35) rfl ?_
    show Steps p.tables e below (s₁.setTop (mkF m 36 #[.val (.long q0), .second, .val (.long v14), .second] [(.long v14)])) _
    jvm_step X0.here [X0.here.top, hx, (hb hby d2_36), X0.method', Bd.returns, narrow]
    first | (intro acts; rw [hr _ acts rfl rfl rfl]) | rw [hr _ _ rfl rfl rfl]
    exact Steps.refl _
  · show Q2 Z q0 h0 n0 _ s₁.heap _
    rw [e0]
    exact ⟨congrArg (fun z => some (Value.long z)) (by subst hv14 hv11 hv8 hv5 hv2; rfl), N0, rfl⟩
theorem d3_0 : decode method_3_code 0 = .ok (.lload_n 0, 1) := by decide +kernel
theorem d3_1 : decode method_3_code 1 = .ok (.lstore 6, 2) := by decide +kernel
theorem d3_3 : decode method_3_code 3 = .ok (.lload 6, 2) := by decide +kernel
theorem d3_5 : decode method_3_code 5 = .ok (.lload 6, 2) := by decide +kernel
theorem d3_7 : decode method_3_code 7 = .ok (.bipush 33, 2) := by decide +kernel
theorem d3_9 : decode method_3_code 9 = .ok (.lushr, 1) := by decide +kernel
theorem d3_10 : decode method_3_code 10 = .ok (.lxor, 1) := by decide +kernel
theorem d3_11 : decode method_3_code 11 = .ok (.lstore 6, 2) := by decide +kernel
theorem d3_13 : decode method_3_code 13 = .ok (.lload 6, 2) := by decide +kernel
theorem d3_15 : decode method_3_code 15 = .ok (.lload 4, 2) := by decide +kernel
theorem d3_17 : decode method_3_code 17 = .ok (.lmul, 1) := by decide +kernel
theorem d3_18 : decode method_3_code 18 = .ok (.lstore 6, 2) := by decide +kernel
theorem d3_20 : decode method_3_code 20 = .ok (.lload 6, 2) := by decide +kernel
theorem d3_22 : decode method_3_code 22 = .ok (.lload 6, 2) := by decide +kernel
theorem d3_24 : decode method_3_code 24 = .ok (.bipush 33, 2) := by decide +kernel
theorem d3_26 : decode method_3_code 26 = .ok (.lushr, 1) := by decide +kernel
theorem d3_27 : decode method_3_code 27 = .ok (.lxor, 1) := by decide +kernel
theorem d3_28 : decode method_3_code 28 = .ok (.lstore 6, 2) := by decide +kernel
theorem d3_30 : decode method_3_code 30 = .ok (.lload 6, 2) := by decide +kernel
theorem d3_32 : decode method_3_code 32 = .ok (.lload_n 2, 1) := by decide +kernel
theorem d3_33 : decode method_3_code 33 = .ok (.lmul, 1) := by decide +kernel
theorem d3_34 : decode method_3_code 34 = .ok (.lstore 6, 2) := by decide +kernel
theorem d3_36 : decode method_3_code 36 = .ok (.lload 6, 2) := by decide +kernel
theorem d3_38 : decode method_3_code 38 = .ok (.lload 6, 2) := by decide +kernel
theorem d3_40 : decode method_3_code 40 = .ok (.bipush 33, 2) := by decide +kernel
theorem d3_42 : decode method_3_code 42 = .ok (.lushr, 1) := by decide +kernel
theorem d3_43 : decode method_3_code 43 = .ok (.lxor, 1) := by decide +kernel
theorem d3_44 : decode method_3_code 44 = .ok (.lstore 6, 2) := by decide +kernel
theorem d3_46 : decode method_3_code 46 = .ok (.lload 6, 2) := by decide +kernel
theorem ef_3 (m : MethodId) (x0 : Int64) (x1 : Int64) (x2 : Int64) : entryFrame m #[(.long x0), (.long x1), (.long x2)] 8 = mkF m 0 #[.val (.long x0), .second, .val (.long x1), .second, .val (.long x2), .second, .unset, .unset] [] := by first | (simp [entryFrame, mkF, argsToLocals, Value.category]; done) | rfl
def f3 (q0 : Int64) (q1 : Int64) (q2 : Int64) : Int64 := (let v2 : Int64 := (q0 ^^^ ((q0.toUInt64 >>> ((33 : Int32) &&& 0x3f).toInt64.toUInt64).toInt64)); (let v5 : Int64 := (v2 * q2); (let v8 : Int64 := (v5 ^^^ ((v5.toUInt64 >>> ((33 : Int32) &&& 0x3f).toInt64.toUInt64).toInt64)); (let v11 : Int64 := (v8 * q1); (let v14 : Int64 := (v11 ^^^ ((v11.toUInt64 >>> ((33 : Int32) &&& 0x3f).toInt64.toUInt64).toInt64)); v14)))))
def Q3 (Z : State) (q0 : Int64) (q1 : Int64) (q2 : Int64) (h0 : Heap) (n0 : Nat) (v : Option Value) (h : Heap) (L : List Loc) : Prop := v = some (.long (f3 q0 q1 q2)) ∧ Fr n0 L ∧ h = h0
theorem d3_48 : decode method_3_code 48 = .ok (.lreturn, 1) := by decide +kernel
set_option maxRecDepth 65536 in
set_option maxHeartbeats 40000000 in
theorem rm3 (l : Launch) (Z : State) (aw : Array Value) (hw : ∀ d ∈ tables_1, d.before aw Z = true) (ws : List Jvm.Cond) (q0 : Int64) (q1 : Int64) (q2 : Int64) (h0 : Heap) (n0 : Nat) (Z0 : n0 ≤ h0.size) :
    MetFree l (⟨"com/example/adjacent_moments/adjacentmoments/store/GrowingBloomFilterMixPinLaw", "unmix", "(JJJ)J"⟩ : MethodName) (head1 (Jvm.Cond.code (⟨"com/example/adjacent_moments/adjacentmoments/store/GrowingBloomFilterMixPinLaw", "unmix", "(JJJ)J"⟩ : MethodName) method_3_code 8 (some .long) :: ws) ({ frames := 0, cells := 0, slots := 0, locals := 0 } : Room)) (fun a U => a = #[(.long q0), (.long q1), (.long q2)] ∧ Z.Warmed39 U.vm ∧ U.heap = h0) (fun _ _ _ _ _ => True) (fun _ U o U' => ∃ v L, o = .returned v ∧ Q3 Z q0 q1 q2 h0 n0 v U'.heap L ∧ FrameEnd U o U' L ({ frames := 0, cells := 0, slots := 0, locals := 0 } : Room).cells ({ frames := 0, cells := 0, slots := 0, locals := 0 } : Room).slots) := by
  refine MetFree.of_bodySF (plainFor_of_name pn_1) hisR ?_
  intro p e s m args below meth c s₁ Bd hml0 hP hK
  obtain ⟨rfl, hZ, hh⟩ := hP
  have hx := Bd.exec
  have hby := Bd.bytes
  have hml : c.maxLocals = 8 := hml0
  have hown : s.vm.findClass "com/example/adjacent_moments/adjacentmoments/store/GrowingBloomFilterMixPinLaw" = some m.cls := findClass_of_methodNamed Bd.named
  have hnm := (name_of_methodNamed Bd.named Bd.method).1
  have X0 : Stand p l e ({ frames := 0, cells := 0, slots := 0, locals := 0 } : Room) s m #[(.long q0), (.long q1), (.long q2)] below meth c s₁ [] 0 0 := Stand.of_body Bd
  have e0 : s₁.heap = h0 := by rw [← hh, Bd.state]; rfl
  have N0 := Fr.nil n0
  have pre0 : ∀ t, Steps p.tables e below (s₁.setTop (mkF m 0 #[.val (.long q0), .second, .val (.long q1), .second, .val (.long q2), .second, .unset, .unset] [])) t → Steps p.tables e below (s₁.setTop (entryFrame m #[(.long q0), (.long q1), (.long q2)] 8)) t := fun t k => castTop (ef_3 m q0 q1 q2) k
  have pre1 : ∀ t, Steps p.tables e below (s₁.setTop (mkF m 11 #[.val (.long q0), .second, .val (.long q1), .second, .val (.long q2), .second, .val (.long q0), .second] [(.long (q0 ^^^ ((q0.toUInt64 >>> ((33 : Int32) &&& 0x3f).toInt64.toUInt64).toInt64)))])) t → Steps p.tables e below (s₁.setTop (entryFrame m #[(.long q0), (.long q1), (.long q2)] 8)) t := fun t k => pre0 t (by
    show Steps p.tables e below (s₁.setTop (mkF m 0 #[.val (.long q0), .second, .val (.long q1), .second, .val (.long q2), .second, .unset, .unset] [])) _
    refine XS.lloadN X0.here hx rfl (hb hby d3_0) rfl ?_
    show Steps p.tables e below (s₁.setTop (mkF m 1 #[.val (.long q0), .second, .val (.long q1), .second, .val (.long q2), .second, .unset, .unset] [(.long q0)])) _
    refine XS.lstore X0.here hx rfl (hb hby d3_1) rfl (l' := #[.val (.long q0), .second, .val (.long q1), .second, .val (.long q2), .second, .val (.long q0), .second]) rfl ?_
    show Steps p.tables e below (s₁.setTop (mkF m 3 #[.val (.long q0), .second, .val (.long q1), .second, .val (.long q2), .second, .val (.long q0), .second] [])) _
    refine XS.lload X0.here hx rfl (hb hby d3_3) rfl ?_
    show Steps p.tables e below (s₁.setTop (mkF m 5 #[.val (.long q0), .second, .val (.long q1), .second, .val (.long q2), .second, .val (.long q0), .second] [(.long q0)])) _
    refine XS.lload X0.here hx rfl (hb hby d3_5) rfl ?_
    show Steps p.tables e below (s₁.setTop (mkF m 7 #[.val (.long q0), .second, .val (.long q1), .second, .val (.long q2), .second, .val (.long q0), .second] [(.long q0), (.long q0)])) _
    refine XS.bipush X0.here hx rfl (hb hby d3_7) ?_
    show Steps p.tables e below (s₁.setTop (mkF m 9 #[.val (.long q0), .second, .val (.long q1), .second, .val (.long q2), .second, .val (.long q0), .second] [(.int (33 : Int32)), (.long q0), (.long q0)])) _
    refine XS.lushr X0.here hx rfl (hb hby d3_9) rfl ?_
    show Steps p.tables e below (s₁.setTop (mkF m 10 #[.val (.long q0), .second, .val (.long q1), .second, .val (.long q2), .second, .val (.long q0), .second] [(.long ((q0.toUInt64 >>> ((33 : Int32) &&& 0x3f).toInt64.toUInt64).toInt64)), (.long q0)])) _
    refine XS.lxor X0.here hx rfl (hb hby d3_10) rfl ?_
    exact k)
  obtain ⟨v2, hv2⟩ : ∃ z : Int64, z = (q0 ^^^ ((q0.toUInt64 >>> ((33 : Int32) &&& 0x3f).toInt64.toUInt64).toInt64)) := ⟨_, rfl⟩
  have pre3 : ∀ t, Steps p.tables e below (s₁.setTop (mkF m 11 #[.val (.long q0), .second, .val (.long q1), .second, .val (.long q2), .second, .val (.long q0), .second] [(.long v2)])) t → Steps p.tables e below (s₁.setTop (entryFrame m #[(.long q0), (.long q1), (.long q2)] 8)) t := fun t k => pre1 t (by rw [hv2] at k; exact k)
  have pre4 : ∀ t, Steps p.tables e below (s₁.setTop (mkF m 18 #[.val (.long q0), .second, .val (.long q1), .second, .val (.long q2), .second, .val (.long v2), .second] [(.long (v2 * q2))])) t → Steps p.tables e below (s₁.setTop (entryFrame m #[(.long q0), (.long q1), (.long q2)] 8)) t := fun t k => pre3 t (by
    show Steps p.tables e below (s₁.setTop (mkF m 11 #[.val (.long q0), .second, .val (.long q1), .second, .val (.long q2), .second, .val (.long q0), .second] [(.long v2)])) _
    refine XS.lstore X0.here hx rfl (hb hby d3_11) rfl (l' := #[.val (.long q0), .second, .val (.long q1), .second, .val (.long q2), .second, .val (.long v2), .second]) rfl ?_
    show Steps p.tables e below (s₁.setTop (mkF m 13 #[.val (.long q0), .second, .val (.long q1), .second, .val (.long q2), .second, .val (.long v2), .second] [])) _
    refine XS.lload X0.here hx rfl (hb hby d3_13) rfl ?_
    show Steps p.tables e below (s₁.setTop (mkF m 15 #[.val (.long q0), .second, .val (.long q1), .second, .val (.long q2), .second, .val (.long v2), .second] [(.long v2)])) _
    refine XS.lload X0.here hx rfl (hb hby d3_15) rfl ?_
    show Steps p.tables e below (s₁.setTop (mkF m 17 #[.val (.long q0), .second, .val (.long q1), .second, .val (.long q2), .second, .val (.long v2), .second] [(.long q2), (.long v2)])) _
    refine XS.lmul X0.here hx rfl (hb hby d3_17) rfl ?_
    exact k)
  obtain ⟨v5, hv5⟩ : ∃ z : Int64, z = (v2 * q2) := ⟨_, rfl⟩
  have pre6 : ∀ t, Steps p.tables e below (s₁.setTop (mkF m 18 #[.val (.long q0), .second, .val (.long q1), .second, .val (.long q2), .second, .val (.long v2), .second] [(.long v5)])) t → Steps p.tables e below (s₁.setTop (entryFrame m #[(.long q0), (.long q1), (.long q2)] 8)) t := fun t k => pre4 t (by rw [hv5] at k; exact k)
  have pre7 : ∀ t, Steps p.tables e below (s₁.setTop (mkF m 28 #[.val (.long q0), .second, .val (.long q1), .second, .val (.long q2), .second, .val (.long v5), .second] [(.long (v5 ^^^ ((v5.toUInt64 >>> ((33 : Int32) &&& 0x3f).toInt64.toUInt64).toInt64)))])) t → Steps p.tables e below (s₁.setTop (entryFrame m #[(.long q0), (.long q1), (.long q2)] 8)) t := fun t k => pre6 t (by
    show Steps p.tables e below (s₁.setTop (mkF m 18 #[.val (.long q0), .second, .val (.long q1), .second, .val (.long q2), .second, .val (.long v2), .second] [(.long v5)])) _
    refine XS.lstore X0.here hx rfl (hb hby d3_18) rfl (l' := #[.val (.long q0), .second, .val (.long q1), .second, .val (.long q2), .second, .val (.long v5), .second]) rfl ?_
    show Steps p.tables e below (s₁.setTop (mkF m 20 #[.val (.long q0), .second, .val (.long q1), .second, .val (.long q2), .second, .val (.long v5), .second] [])) _
    refine XS.lload X0.here hx rfl (hb hby d3_20) rfl ?_
    show Steps p.tables e below (s₁.setTop (mkF m 22 #[.val (.long q0), .second, .val (.long q1), .second, .val (.long q2), .second, .val (.long v5), .second] [(.long v5)])) _
    refine XS.lload X0.here hx rfl (hb hby d3_22) rfl ?_
    show Steps p.tables e below (s₁.setTop (mkF m 24 #[.val (.long q0), .second, .val (.long q1), .second, .val (.long q2), .second, .val (.long v5), .second] [(.long v5), (.long v5)])) _
    refine XS.bipush X0.here hx rfl (hb hby d3_24) ?_
    show Steps p.tables e below (s₁.setTop (mkF m 26 #[.val (.long q0), .second, .val (.long q1), .second, .val (.long q2), .second, .val (.long v5), .second] [(.int (33 : Int32)), (.long v5), (.long v5)])) _
    refine XS.lushr X0.here hx rfl (hb hby d3_26) rfl ?_
    show Steps p.tables e below (s₁.setTop (mkF m 27 #[.val (.long q0), .second, .val (.long q1), .second, .val (.long q2), .second, .val (.long v5), .second] [(.long ((v5.toUInt64 >>> ((33 : Int32) &&& 0x3f).toInt64.toUInt64).toInt64)), (.long v5)])) _
    refine XS.lxor X0.here hx rfl (hb hby d3_27) rfl ?_
    exact k)
  obtain ⟨v8, hv8⟩ : ∃ z : Int64, z = (v5 ^^^ ((v5.toUInt64 >>> ((33 : Int32) &&& 0x3f).toInt64.toUInt64).toInt64)) := ⟨_, rfl⟩
  have pre9 : ∀ t, Steps p.tables e below (s₁.setTop (mkF m 28 #[.val (.long q0), .second, .val (.long q1), .second, .val (.long q2), .second, .val (.long v5), .second] [(.long v8)])) t → Steps p.tables e below (s₁.setTop (entryFrame m #[(.long q0), (.long q1), (.long q2)] 8)) t := fun t k => pre7 t (by rw [hv8] at k; exact k)
  have pre10 : ∀ t, Steps p.tables e below (s₁.setTop (mkF m 34 #[.val (.long q0), .second, .val (.long q1), .second, .val (.long q2), .second, .val (.long v8), .second] [(.long (v8 * q1))])) t → Steps p.tables e below (s₁.setTop (entryFrame m #[(.long q0), (.long q1), (.long q2)] 8)) t := fun t k => pre9 t (by
    show Steps p.tables e below (s₁.setTop (mkF m 28 #[.val (.long q0), .second, .val (.long q1), .second, .val (.long q2), .second, .val (.long v5), .second] [(.long v8)])) _
    refine XS.lstore X0.here hx rfl (hb hby d3_28) rfl (l' := #[.val (.long q0), .second, .val (.long q1), .second, .val (.long q2), .second, .val (.long v8), .second]) rfl ?_
    show Steps p.tables e below (s₁.setTop (mkF m 30 #[.val (.long q0), .second, .val (.long q1), .second, .val (.long q2), .second, .val (.long v8), .second] [])) _
    refine XS.lload X0.here hx rfl (hb hby d3_30) rfl ?_
    show Steps p.tables e below (s₁.setTop (mkF m 32 #[.val (.long q0), .second, .val (.long q1), .second, .val (.long q2), .second, .val (.long v8), .second] [(.long v8)])) _
    refine XS.lloadN X0.here hx rfl (hb hby d3_32) rfl ?_
    show Steps p.tables e below (s₁.setTop (mkF m 33 #[.val (.long q0), .second, .val (.long q1), .second, .val (.long q2), .second, .val (.long v8), .second] [(.long q1), (.long v8)])) _
    refine XS.lmul X0.here hx rfl (hb hby d3_33) rfl ?_
    exact k)
  obtain ⟨v11, hv11⟩ : ∃ z : Int64, z = (v8 * q1) := ⟨_, rfl⟩
  have pre12 : ∀ t, Steps p.tables e below (s₁.setTop (mkF m 34 #[.val (.long q0), .second, .val (.long q1), .second, .val (.long q2), .second, .val (.long v8), .second] [(.long v11)])) t → Steps p.tables e below (s₁.setTop (entryFrame m #[(.long q0), (.long q1), (.long q2)] 8)) t := fun t k => pre10 t (by rw [hv11] at k; exact k)
  have pre13 : ∀ t, Steps p.tables e below (s₁.setTop (mkF m 44 #[.val (.long q0), .second, .val (.long q1), .second, .val (.long q2), .second, .val (.long v11), .second] [(.long (v11 ^^^ ((v11.toUInt64 >>> ((33 : Int32) &&& 0x3f).toInt64.toUInt64).toInt64)))])) t → Steps p.tables e below (s₁.setTop (entryFrame m #[(.long q0), (.long q1), (.long q2)] 8)) t := fun t k => pre12 t (by
    show Steps p.tables e below (s₁.setTop (mkF m 34 #[.val (.long q0), .second, .val (.long q1), .second, .val (.long q2), .second, .val (.long v8), .second] [(.long v11)])) _
    refine XS.lstore X0.here hx rfl (hb hby d3_34) rfl (l' := #[.val (.long q0), .second, .val (.long q1), .second, .val (.long q2), .second, .val (.long v11), .second]) rfl ?_
    show Steps p.tables e below (s₁.setTop (mkF m 36 #[.val (.long q0), .second, .val (.long q1), .second, .val (.long q2), .second, .val (.long v11), .second] [])) _
    refine XS.lload X0.here hx rfl (hb hby d3_36) rfl ?_
    show Steps p.tables e below (s₁.setTop (mkF m 38 #[.val (.long q0), .second, .val (.long q1), .second, .val (.long q2), .second, .val (.long v11), .second] [(.long v11)])) _
    refine XS.lload X0.here hx rfl (hb hby d3_38) rfl ?_
    show Steps p.tables e below (s₁.setTop (mkF m 40 #[.val (.long q0), .second, .val (.long q1), .second, .val (.long q2), .second, .val (.long v11), .second] [(.long v11), (.long v11)])) _
    refine XS.bipush X0.here hx rfl (hb hby d3_40) ?_
    show Steps p.tables e below (s₁.setTop (mkF m 42 #[.val (.long q0), .second, .val (.long q1), .second, .val (.long q2), .second, .val (.long v11), .second] [(.int (33 : Int32)), (.long v11), (.long v11)])) _
    refine XS.lushr X0.here hx rfl (hb hby d3_42) rfl ?_
    show Steps p.tables e below (s₁.setTop (mkF m 43 #[.val (.long q0), .second, .val (.long q1), .second, .val (.long q2), .second, .val (.long v11), .second] [(.long ((v11.toUInt64 >>> ((33 : Int32) &&& 0x3f).toInt64.toUInt64).toInt64)), (.long v11)])) _
    refine XS.lxor X0.here hx rfl (hb hby d3_43) rfl ?_
    exact k)
  obtain ⟨v14, hv14⟩ : ∃ z : Int64, z = (v11 ^^^ ((v11.toUInt64 >>> ((33 : Int32) &&& 0x3f).toInt64.toUInt64).toInt64)) := ⟨_, rfl⟩
  have pre15 : ∀ t, Steps p.tables e below (s₁.setTop (mkF m 44 #[.val (.long q0), .second, .val (.long q1), .second, .val (.long q2), .second, .val (.long v11), .second] [(.long v14)])) t → Steps p.tables e below (s₁.setTop (entryFrame m #[(.long q0), (.long q1), (.long q2)] 8)) t := fun t k => pre13 t (by rw [hv14] at k; exact k)
  obtain ⟨fs, hr, hrun, hended, hW, hsame⟩ := X0.leave (v := some (.long v14)) (fun h => by rw [Bd.returns] at h; cases h)
  refine ⟨_, _, pre15 _ ?_, hrun, hended, _, _, rfl, ?_, ⟨_, rfl⟩, hW, hsame.mono (by decide) (by decide)⟩
  · show Steps p.tables e below (s₁.setTop (mkF m 44 #[.val (.long q0), .second, .val (.long q1), .second, .val (.long q2), .second, .val (.long v11), .second] [(.long v14)])) _
    refine XS.lstore X0.here hx rfl (hb hby d3_44) rfl (l' := #[.val (.long q0), .second, .val (.long q1), .second, .val (.long q2), .second, .val (.long v14), .second]) rfl ?_
    show Steps p.tables e below (s₁.setTop (mkF m 46 #[.val (.long q0), .second, .val (.long q1), .second, .val (.long q2), .second, .val (.long v14), .second] [])) _
    refine XS.lload X0.here hx rfl (hb hby d3_46) rfl ?_
    show Steps p.tables e below (s₁.setTop (mkF m 48 #[.val (.long q0), .second, .val (.long q1), .second, .val (.long q2), .second, .val (.long v14), .second] [(.long v14)])) _
    jvm_step X0.here [X0.here.top, hx, (hb hby d3_48), X0.method', Bd.returns, narrow]
    first | (intro acts; rw [hr _ acts rfl rfl rfl]) | rw [hr _ _ rfl rfl rfl]
    exact Steps.refl _
  · show Q3 Z q0 q1 q2 h0 n0 _ s₁.heap _
    rw [e0]
    exact ⟨congrArg (fun z => some (Value.long z)) (by subst hv14 hv11 hv8 hv5 hv2; rfl), N0, rfl⟩
theorem pd_0 : parseMethodDescriptor "(J)J" = some ⟨[.long], some .long⟩ := by decide +kernel
theorem pd_1 : parseMethodDescriptor "(JJJ)J" = some ⟨[.long, .long, .long], some .long⟩ := by decide +kernel
theorem ef_0 (m : MethodId) (x0 : Int64) : entryFrame m #[(.long x0)] maxLocals = mkF m 0 #[.val (.long x0), .second, .unset, .unset, .unset, .unset, .unset, .unset] [] := by first | (simp [entryFrame, mkF, argsToLocals, Value.category, maxLocals]; done) | rfl
def f0 (q0 : Int64) : Int32 := (let v4 : Int64 := (f1 (-49064778989728563 : Int64)); (let v9 : Int64 := (f1 (-4265267296055464877 : Int64)); (if (v4 * (-49064778989728563 : Int64)) = (1 : Int64) then (if (v9 * (-4265267296055464877 : Int64)) = (1 : Int64) then (let v18 : Int64 := (f2 q0); (let j24 : Int32 := (if (f3 v18 v4 v9) = q0 then (1 : Int32) else (0 : Int32)); (nar .boolean j24))) else (0 : Int32)) else (0 : Int32))))
def Q0 (Z : State) (q0 : Int64) (h0 : Heap) (n0 : Nat) (v : Option Value) (h : Heap) (L : List Loc) : Prop := v = some (.int (1 : Int32)) ∧ Fr n0 L
set_option maxRecDepth 65536 in
set_option maxHeartbeats 40000000 in
theorem rm0 (l : Launch) (Z : State) (aw : Array Value) (hw : ∀ d ∈ tables_1, d.before aw Z = true) (ws : List Jvm.Cond) (q0 : Int64) (h0 : Heap) (n0 : Nat) (Z0 : n0 ≤ h0.size) (hlaw : f0 q0 = 1) :
    MetFree l x (head1 (Jvm.Cond.code x code maxLocals ret :: ws) room_1) (fun a U => a = #[(.long q0)] ∧ Z.Warmed39 U.vm ∧ U.heap = h0) (fun _ _ _ _ _ => True) (fun _ U o U' => ∃ v L, o = .returned v ∧ Q0 Z q0 h0 n0 v U'.heap L ∧ FrameEnd U o U' L room_1.cells room_1.slots) := by
  refine MetFree.of_bodySF (plainFor_of_name pn_1) hisR ?_
  intro p e s m args below meth c s₁ Bd hml0 hP hK
  obtain ⟨rfl, hZ, hh⟩ := hP
  have hx := Bd.exec
  have hby := Bd.bytes
  have hml : c.maxLocals = 8 := hml0
  have hown : s.vm.findClass "com/example/adjacent_moments/adjacentmoments/store/GrowingBloomFilterMixPinLaw" = some m.cls := findClass_of_methodNamed Bd.named
  have hnm := (name_of_methodNamed Bd.named Bd.method).1
  have X0 : Stand p l e room_1 s m #[(.long q0)] below meth c s₁ [] 0 0 := Stand.of_body Bd
  have e0 : s₁.heap = h0 := by rw [← hh, Bd.state]; rfl
  have N0 := Fr.nil n0
  have pre0 : ∀ t, Steps p.tables e below (s₁.setTop (mkF m 0 #[.val (.long q0), .second, .unset, .unset, .unset, .unset, .unset, .unset] [])) t → Steps p.tables e below (s₁.setTop (entryFrame m #[(.long q0)] maxLocals)) t := fun t k => castTop (ef_0 m q0) k
  have pre1 : ∀ t, Steps p.tables e below (s₁.setTop (mkF m 3 #[.val (.long q0), .second, .unset, .unset, .unset, .unset, .unset, .unset] [(.long (-49064778989728563 : Int64))])) t → Steps p.tables e below (s₁.setTop (entryFrame m #[(.long q0)] maxLocals)) t := fun t k => pre0 t (by
    show Steps p.tables e below (s₁.setTop (mkF m 0 #[.val (.long q0), .second, .unset, .unset, .unset, .unset, .unset, .unset] [])) _
    refine X0.ldc2Long hx hown (mvT hZ (hw _ (List.mem_of_getElem? (i := 0) rfl))) (g := (mkF m 0 #[.val (.long q0), .second, .unset, .unset, .unset, .unset, .unset, .unset] [])) rfl (hb hby at_0) _ ?_
    exact k)
  obtain ⟨_, _, ⟨T2, L2, k2, n2⟩, -, X2, ⟨Lc2, hQ2, l2, y2, z2⟩, st2⟩ := Jvm.LawKit.callS X0 hx (y := (⟨"com/example/adjacent_moments/adjacentmoments/store/GrowingBloomFilterMixPinLaw", "inverse", "(J)J"⟩ : MethodName)) hown (mvT hZ (hw _ (List.mem_of_getElem? (i := 1) rfl))) (mvT hZ (hw _ (List.mem_of_getElem? (i := 2) rfl))) (mvT hZ (hw _ (List.mem_of_getElem? (i := 3) rfl))) (mvT hZ (hw _ (List.mem_of_getElem? (i := 4) rfl))) (by decide) (backOf (W := 0) (rm1 l Z aw hw [] (-49064778989728563 : Int64) h0 n0 Z0) hZ (hw _ (List.mem_of_getElem? (i := 4) rfl)) (hw _ (List.mem_of_getElem? (i := 3) rfl)) (by decide) (by decide)) (g := (mkF m 3 #[.val (.long q0), .second, .unset, .unset, .unset, .unset, .unset, .unset] [(.long (-49064778989728563 : Int64))])) rfl (by rw [hml]; rfl) (argsL := [(.long (-49064778989728563 : Int64))]) (rest := []) (lenOf pd_0 rfl) rfl (by show 2 * 0 + _ ≤ _; exact Nat.le_of_eq rfl) (hb hby at_3) (fun _ _ => ⟨rfl, e0, (by decide : 0 + 0 ≤ _), (by decide : 0 + 0 ≤ _)⟩)
  dsimp only [Pt.U, Pt.locs, Pt.cells, Pt.slots] at X2 l2 y2 z2 st2 hQ2
  subst l2 y2 z2
  obtain ⟨rfl, N2q, e2⟩ := hQ2
  have N2 := Fr.app N0 N2q
  have pre3 : ∀ t, Steps p.tables e below (T2.setTop (mkF m 6 #[.val (.long q0), .second, .unset, .unset, .unset, .unset, .unset, .unset] [(.long (f1 (-49064778989728563 : Int64)))])) t → Steps p.tables e below (s₁.setTop (entryFrame m #[(.long q0)] maxLocals)) t := fun t k => pre1 t (by
    show Steps p.tables e below (s₁.setTop (mkF m 3 #[.val (.long q0), .second, .unset, .unset, .unset, .unset, .unset, .unset] [(.long (-49064778989728563 : Int64))])) _
    refine st2 _ ?_
    exact k)
  obtain ⟨v4, hv4⟩ : ∃ z : Int64, z = (f1 (-49064778989728563 : Int64)) := ⟨_, rfl⟩
  have pre5 : ∀ t, Steps p.tables e below (T2.setTop (mkF m 6 #[.val (.long q0), .second, .unset, .unset, .unset, .unset, .unset, .unset] [(.long v4)])) t → Steps p.tables e below (s₁.setTop (entryFrame m #[(.long q0)] maxLocals)) t := fun t k => pre3 t (by rw [hv4] at k; exact k)
  have pre6 : ∀ t, Steps p.tables e below (T2.setTop (mkF m 10 #[.val (.long q0), .second, .val (.long v4), .second, .unset, .unset, .unset, .unset] [(.long (-4265267296055464877 : Int64))])) t → Steps p.tables e below (s₁.setTop (entryFrame m #[(.long q0)] maxLocals)) t := fun t k => pre5 t (by
    show Steps p.tables e below (T2.setTop (mkF m 6 #[.val (.long q0), .second, .unset, .unset, .unset, .unset, .unset, .unset] [(.long v4)])) _
    refine XS.lstoreN X2.here hx rfl (hb hby at_6) rfl (l' := #[.val (.long q0), .second, .val (.long v4), .second, .unset, .unset, .unset, .unset]) rfl ?_
    show Steps p.tables e below (T2.setTop (mkF m 7 #[.val (.long q0), .second, .val (.long v4), .second, .unset, .unset, .unset, .unset] [])) _
    refine X2.ldc2Long hx hown (mvT hZ (hw _ (List.mem_of_getElem? (i := 6) rfl))) (g := (mkF m 7 #[.val (.long q0), .second, .val (.long v4), .second, .unset, .unset, .unset, .unset] [])) rfl (hb hby at_7) _ ?_
    exact k)
  obtain ⟨_, _, ⟨T7, L7, k7, n7⟩, -, X7, ⟨Lc7, hQ7, l7, y7, z7⟩, st7⟩ := Jvm.LawKit.callS X2 hx (y := (⟨"com/example/adjacent_moments/adjacentmoments/store/GrowingBloomFilterMixPinLaw", "inverse", "(J)J"⟩ : MethodName)) hown (mvT hZ (hw _ (List.mem_of_getElem? (i := 1) rfl))) (mvT hZ (hw _ (List.mem_of_getElem? (i := 2) rfl))) (mvT hZ (hw _ (List.mem_of_getElem? (i := 3) rfl))) (mvT hZ (hw _ (List.mem_of_getElem? (i := 4) rfl))) (by decide) (backOf (W := 0) (rm1 l Z aw hw [] (-4265267296055464877 : Int64) h0 n0 Z0) hZ (hw _ (List.mem_of_getElem? (i := 4) rfl)) (hw _ (List.mem_of_getElem? (i := 3) rfl)) (by decide) (by decide)) (g := (mkF m 10 #[.val (.long q0), .second, .val (.long v4), .second, .unset, .unset, .unset, .unset] [(.long (-4265267296055464877 : Int64))])) rfl (by rw [hml]; rfl) (argsL := [(.long (-4265267296055464877 : Int64))]) (rest := []) (lenOf pd_0 rfl) rfl (by show 2 * 0 + _ ≤ _; exact Nat.le_of_eq rfl) (hb hby at_10) (fun _ _ => ⟨rfl, e2, (by decide : 0 + 0 ≤ _), (by decide : 0 + 0 ≤ _)⟩)
  dsimp only [Pt.U, Pt.locs, Pt.cells, Pt.slots] at X7 l7 y7 z7 st7 hQ7
  subst l7 y7 z7
  obtain ⟨rfl, N7q, e7⟩ := hQ7
  have N7 := Fr.app N2 N7q
  have pre8 : ∀ t, Steps p.tables e below (T7.setTop (mkF m 13 #[.val (.long q0), .second, .val (.long v4), .second, .unset, .unset, .unset, .unset] [(.long (f1 (-4265267296055464877 : Int64)))])) t → Steps p.tables e below (s₁.setTop (entryFrame m #[(.long q0)] maxLocals)) t := fun t k => pre6 t (by
    show Steps p.tables e below (T2.setTop (mkF m 10 #[.val (.long q0), .second, .val (.long v4), .second, .unset, .unset, .unset, .unset] [(.long (-4265267296055464877 : Int64))])) _
    refine st7 _ ?_
    exact k)
  obtain ⟨v9, hv9⟩ : ∃ z : Int64, z = (f1 (-4265267296055464877 : Int64)) := ⟨_, rfl⟩
  have pre10 : ∀ t, Steps p.tables e below (T7.setTop (mkF m 13 #[.val (.long q0), .second, .val (.long v4), .second, .unset, .unset, .unset, .unset] [(.long v9)])) t → Steps p.tables e below (s₁.setTop (entryFrame m #[(.long q0)] maxLocals)) t := fun t k => pre8 t (by rw [hv9] at k; exact k)
  have pre11 : ∀ t, Steps p.tables e below (T7.setTop (mkF m 22 #[.val (.long q0), .second, .val (.long v4), .second, .val (.long v9), .second, .unset, .unset] [(.int (lcmpW (v4 * (-49064778989728563 : Int64)) (1 : Int64)))])) t → Steps p.tables e below (s₁.setTop (entryFrame m #[(.long q0)] maxLocals)) t := fun t k => pre10 t (by
    show Steps p.tables e below (T7.setTop (mkF m 13 #[.val (.long q0), .second, .val (.long v4), .second, .unset, .unset, .unset, .unset] [(.long v9)])) _
    refine XS.lstore X7.here hx rfl (hb hby at_13) rfl (l' := #[.val (.long q0), .second, .val (.long v4), .second, .val (.long v9), .second, .unset, .unset]) rfl ?_
    show Steps p.tables e below (T7.setTop (mkF m 15 #[.val (.long q0), .second, .val (.long v4), .second, .val (.long v9), .second, .unset, .unset] [])) _
    refine XS.lloadN X7.here hx rfl (hb hby at_15) rfl ?_
    show Steps p.tables e below (T7.setTop (mkF m 16 #[.val (.long q0), .second, .val (.long v4), .second, .val (.long v9), .second, .unset, .unset] [(.long v4)])) _
    refine X7.ldc2Long hx hown (mvT hZ (hw _ (List.mem_of_getElem? (i := 0) rfl))) (g := (mkF m 16 #[.val (.long q0), .second, .val (.long v4), .second, .val (.long v9), .second, .unset, .unset] [(.long v4)])) rfl (hb hby at_16) _ ?_
    show Steps p.tables e below (T7.setTop (mkF m 19 #[.val (.long q0), .second, .val (.long v4), .second, .val (.long v9), .second, .unset, .unset] [(.long (-49064778989728563 : Int64)), (.long v4)])) _
    refine XS.lmul X7.here hx rfl (hb hby at_19) rfl ?_
    show Steps p.tables e below (T7.setTop (mkF m 20 #[.val (.long q0), .second, .val (.long v4), .second, .val (.long v9), .second, .unset, .unset] [(.long (v4 * (-49064778989728563 : Int64)))])) _
    refine XS.lconst X7.here hx rfl (hb hby at_20) ?_
    show Steps p.tables e below (T7.setTop (mkF m 21 #[.val (.long q0), .second, .val (.long v4), .second, .val (.long v9), .second, .unset, .unset] [(.long (1 : Int64)), (.long (v4 * (-49064778989728563 : Int64)))])) _
    refine XS.lcmp X7.here hx rfl (hb hby at_21) rfl ?_
    exact k)
  by_cases hc12 : (v4 * (-49064778989728563 : Int64)) = (1 : Int64)
  · have pre13 : ∀ t, Steps p.tables e below (T7.setTop (mkF m 33 #[.val (.long q0), .second, .val (.long v4), .second, .val (.long v9), .second, .unset, .unset] [(.int (lcmpW (v9 * (-4265267296055464877 : Int64)) (1 : Int64)))])) t → Steps p.tables e below (s₁.setTop (entryFrame m #[(.long q0)] maxLocals)) t := fun t k => pre11 t (by
      show Steps p.tables e below (T7.setTop (mkF m 22 #[.val (.long q0), .second, .val (.long v4), .second, .val (.long v9), .second, .unset, .unset] [(.int (lcmpW (v4 * (-49064778989728563 : Int64)) (1 : Int64)))])) _
      refine XS.ifNo X7.here hx rfl (hb hby at_22) rfl ((if0 _ _).trans (teq ((lw_eq (v4 * (-49064778989728563 : Int64)) (1 : Int64)).mpr hc12)).2) ?_
      show Steps p.tables e below (T7.setTop (mkF m 25 #[.val (.long q0), .second, .val (.long v4), .second, .val (.long v9), .second, .unset, .unset] [])) _
      refine XS.lload X7.here hx rfl (hb hby at_25) rfl ?_
      show Steps p.tables e below (T7.setTop (mkF m 27 #[.val (.long q0), .second, .val (.long v4), .second, .val (.long v9), .second, .unset, .unset] [(.long v9)])) _
      refine X7.ldc2Long hx hown (mvT hZ (hw _ (List.mem_of_getElem? (i := 6) rfl))) (g := (mkF m 27 #[.val (.long q0), .second, .val (.long v4), .second, .val (.long v9), .second, .unset, .unset] [(.long v9)])) rfl (hb hby at_27) _ ?_
      show Steps p.tables e below (T7.setTop (mkF m 30 #[.val (.long q0), .second, .val (.long v4), .second, .val (.long v9), .second, .unset, .unset] [(.long (-4265267296055464877 : Int64)), (.long v9)])) _
      refine XS.lmul X7.here hx rfl (hb hby at_30) rfl ?_
      show Steps p.tables e below (T7.setTop (mkF m 31 #[.val (.long q0), .second, .val (.long v4), .second, .val (.long v9), .second, .unset, .unset] [(.long (v9 * (-4265267296055464877 : Int64)))])) _
      refine XS.lconst X7.here hx rfl (hb hby at_31) ?_
      show Steps p.tables e below (T7.setTop (mkF m 32 #[.val (.long q0), .second, .val (.long v4), .second, .val (.long v9), .second, .unset, .unset] [(.long (1 : Int64)), (.long (v9 * (-4265267296055464877 : Int64)))])) _
      refine XS.lcmp X7.here hx rfl (hb hby at_32) rfl ?_
      exact k)
    by_cases hc14 : (v9 * (-4265267296055464877 : Int64)) = (1 : Int64)
    · have pre15 : ∀ t, Steps p.tables e below (T7.setTop (mkF m 39 #[.val (.long q0), .second, .val (.long v4), .second, .val (.long v9), .second, .unset, .unset] [(.long q0)])) t → Steps p.tables e below (s₁.setTop (entryFrame m #[(.long q0)] maxLocals)) t := fun t k => pre13 t (by
        show Steps p.tables e below (T7.setTop (mkF m 33 #[.val (.long q0), .second, .val (.long v4), .second, .val (.long v9), .second, .unset, .unset] [(.int (lcmpW (v9 * (-4265267296055464877 : Int64)) (1 : Int64)))])) _
        refine XS.ifYes X7.here hx rfl (pc0 := 33) (pc' := 38) rfl (hb hby at_33) rfl ((if0 _ _).trans (teq ((lw_eq (v9 * (-4265267296055464877 : Int64)) (1 : Int64)).mpr hc14)).1) (by decide) (by decide) ?_
        show Steps p.tables e below (T7.setTop (mkF m 38 #[.val (.long q0), .second, .val (.long v4), .second, .val (.long v9), .second, .unset, .unset] [])) _
        refine XS.lloadN X7.here hx rfl (hb hby at_38) rfl ?_
        exact k)
      obtain ⟨_, _, ⟨T16, L16, k16, n16⟩, -, X16, ⟨Lc16, hQ16, l16, y16, z16⟩, st16⟩ := Jvm.LawKit.callS X7 hx (y := (⟨"com/example/adjacent_moments/adjacentmoments/store/GrowingBloomFilter", "mix", "(J)J"⟩ : MethodName)) hown (mvT hZ (hw _ (List.mem_of_getElem? (i := 7) rfl))) (mvT hZ (hw _ (List.mem_of_getElem? (i := 8) rfl))) (mvT hZ (hw _ (List.mem_of_getElem? (i := 9) rfl))) (mvT hZ (hw _ (List.mem_of_getElem? (i := 10) rfl))) (by decide) (backOf (W := 0) (rm2 l Z aw hw [] q0 h0 n0 Z0) hZ (hw _ (List.mem_of_getElem? (i := 10) rfl)) (hw _ (List.mem_of_getElem? (i := 9) rfl)) (by decide) (by decide)) (g := (mkF m 39 #[.val (.long q0), .second, .val (.long v4), .second, .val (.long v9), .second, .unset, .unset] [(.long q0)])) rfl (by rw [hml]; rfl) (argsL := [(.long q0)]) (rest := []) (lenOf pd_0 rfl) rfl (by show 2 * 0 + _ ≤ _; exact Nat.le_of_eq rfl) (hb hby at_39) (fun _ _ => ⟨rfl, e7, (by decide : 0 + 0 ≤ _), (by decide : 0 + 0 ≤ _)⟩)
      dsimp only [Pt.U, Pt.locs, Pt.cells, Pt.slots] at X16 l16 y16 z16 st16 hQ16
      subst l16 y16 z16
      obtain ⟨rfl, N16q, e16⟩ := hQ16
      have N16 := Fr.app N7 N16q
      have pre17 : ∀ t, Steps p.tables e below (T16.setTop (mkF m 42 #[.val (.long q0), .second, .val (.long v4), .second, .val (.long v9), .second, .unset, .unset] [(.long (f2 q0))])) t → Steps p.tables e below (s₁.setTop (entryFrame m #[(.long q0)] maxLocals)) t := fun t k => pre15 t (by
        show Steps p.tables e below (T7.setTop (mkF m 39 #[.val (.long q0), .second, .val (.long v4), .second, .val (.long v9), .second, .unset, .unset] [(.long q0)])) _
        refine st16 _ ?_
        exact k)
      obtain ⟨v18, hv18⟩ : ∃ z : Int64, z = (f2 q0) := ⟨_, rfl⟩
      have pre19 : ∀ t, Steps p.tables e below (T16.setTop (mkF m 42 #[.val (.long q0), .second, .val (.long v4), .second, .val (.long v9), .second, .unset, .unset] [(.long v18)])) t → Steps p.tables e below (s₁.setTop (entryFrame m #[(.long q0)] maxLocals)) t := fun t k => pre17 t (by rw [hv18] at k; exact k)
      have pre20 : ∀ t, Steps p.tables e below (T16.setTop (mkF m 49 #[.val (.long q0), .second, .val (.long v4), .second, .val (.long v9), .second, .val (.long v18), .second] [(.long v9), (.long v4), (.long v18)])) t → Steps p.tables e below (s₁.setTop (entryFrame m #[(.long q0)] maxLocals)) t := fun t k => pre19 t (by
        show Steps p.tables e below (T16.setTop (mkF m 42 #[.val (.long q0), .second, .val (.long v4), .second, .val (.long v9), .second, .unset, .unset] [(.long v18)])) _
        refine XS.lstore X16.here hx rfl (hb hby at_42) rfl (l' := #[.val (.long q0), .second, .val (.long v4), .second, .val (.long v9), .second, .val (.long v18), .second]) rfl ?_
        show Steps p.tables e below (T16.setTop (mkF m 44 #[.val (.long q0), .second, .val (.long v4), .second, .val (.long v9), .second, .val (.long v18), .second] [])) _
        refine XS.lload X16.here hx rfl (hb hby at_44) rfl ?_
        show Steps p.tables e below (T16.setTop (mkF m 46 #[.val (.long q0), .second, .val (.long v4), .second, .val (.long v9), .second, .val (.long v18), .second] [(.long v18)])) _
        refine XS.lloadN X16.here hx rfl (hb hby at_46) rfl ?_
        show Steps p.tables e below (T16.setTop (mkF m 47 #[.val (.long q0), .second, .val (.long v4), .second, .val (.long v9), .second, .val (.long v18), .second] [(.long v4), (.long v18)])) _
        refine XS.lload X16.here hx rfl (hb hby at_47) rfl ?_
        exact k)
      obtain ⟨_, _, ⟨T21, L21, k21, n21⟩, -, X21, ⟨Lc21, hQ21, l21, y21, z21⟩, st21⟩ := Jvm.LawKit.callS X16 hx (y := (⟨"com/example/adjacent_moments/adjacentmoments/store/GrowingBloomFilterMixPinLaw", "unmix", "(JJJ)J"⟩ : MethodName)) hown (mvT hZ (hw _ (List.mem_of_getElem? (i := 13) rfl))) (mvT hZ (hw _ (List.mem_of_getElem? (i := 14) rfl))) (mvT hZ (hw _ (List.mem_of_getElem? (i := 3) rfl))) (mvT hZ (hw _ (List.mem_of_getElem? (i := 15) rfl))) (by decide) (backOf (W := 0) (rm3 l Z aw hw [] v18 v4 v9 h0 n0 Z0) hZ (hw _ (List.mem_of_getElem? (i := 15) rfl)) (hw _ (List.mem_of_getElem? (i := 3) rfl)) (by decide) (by decide)) (g := (mkF m 49 #[.val (.long q0), .second, .val (.long v4), .second, .val (.long v9), .second, .val (.long v18), .second] [(.long v9), (.long v4), (.long v18)])) rfl (by rw [hml]; rfl) (argsL := [(.long v18), (.long v4), (.long v9)]) (rest := []) (lenOf pd_1 rfl) rfl (by show 2 * 0 + _ ≤ _; exact Nat.le_of_eq rfl) (hb hby at_49) (fun _ _ => ⟨rfl, e16, (by decide : 0 + 0 ≤ _), (by decide : 0 + 0 ≤ _)⟩)
      dsimp only [Pt.U, Pt.locs, Pt.cells, Pt.slots] at X21 l21 y21 z21 st21 hQ21
      subst l21 y21 z21
      obtain ⟨rfl, N21q, e21⟩ := hQ21
      have N21 := Fr.app N16 N21q
      have pre22 : ∀ t, Steps p.tables e below (T21.setTop (mkF m 54 #[.val (.long q0), .second, .val (.long v4), .second, .val (.long v9), .second, .val (.long v18), .second] [(.int (lcmpW (f3 v18 v4 v9) q0))])) t → Steps p.tables e below (s₁.setTop (entryFrame m #[(.long q0)] maxLocals)) t := fun t k => pre20 t (by
        show Steps p.tables e below (T16.setTop (mkF m 49 #[.val (.long q0), .second, .val (.long v4), .second, .val (.long v9), .second, .val (.long v18), .second] [(.long v9), (.long v4), (.long v18)])) _
        refine st21 _ ?_
        show Steps p.tables e below (T21.setTop (mkF m 52 #[.val (.long q0), .second, .val (.long v4), .second, .val (.long v9), .second, .val (.long v18), .second] [(.long (f3 v18 v4 v9))])) _
        refine XS.lloadN X21.here hx rfl (hb hby at_52) rfl ?_
        show Steps p.tables e below (T21.setTop (mkF m 53 #[.val (.long q0), .second, .val (.long v4), .second, .val (.long v9), .second, .val (.long v18), .second] [(.long q0), (.long (f3 v18 v4 v9))])) _
        refine XS.lcmp X21.here hx rfl (hb hby at_53) rfl ?_
        exact k)
      obtain ⟨j24, hj24, pre25⟩ : ∃ (j24 : Int32), j24 = (if (f3 v18 v4 v9) = q0 then (1 : Int32) else (0 : Int32)) ∧ ∀ t, Steps p.tables e below (T21.setTop (mkF m 62 #[.val (.long q0), .second, .val (.long v4), .second, .val (.long v9), .second, .val (.long v18), .second] [(.int j24)])) t → Steps p.tables e below (s₁.setTop (entryFrame m #[(.long q0)] maxLocals)) t := by
        by_cases hc23 : (f3 v18 v4 v9) = q0
        · exact ⟨(1 : Int32), (by rw [if_pos hc23]), fun t k => pre22 t (by
            show Steps p.tables e below (T21.setTop (mkF m 54 #[.val (.long q0), .second, .val (.long v4), .second, .val (.long v9), .second, .val (.long v18), .second] [(.int (lcmpW (f3 v18 v4 v9) q0))])) _
            refine XS.ifNo X21.here hx rfl (hb hby at_54) rfl ((if0 _ _).trans (teq ((lw_eq (f3 v18 v4 v9) q0).mpr hc23)).2) ?_
            show Steps p.tables e below (T21.setTop (mkF m 57 #[.val (.long q0), .second, .val (.long v4), .second, .val (.long v9), .second, .val (.long v18), .second] [])) _
            refine XS.iconst X21.here hx rfl (hb hby at_57) ?_
            show Steps p.tables e below (T21.setTop (mkF m 58 #[.val (.long q0), .second, .val (.long v4), .second, .val (.long v9), .second, .val (.long v18), .second] [(.int (1 : Int32))])) _
            refine XS.goto X21.here hx rfl (pc0 := 58) (pc' := 62) rfl (hb hby at_58) (by decide) (by decide) ?_
            exact k)⟩
        · exact ⟨(0 : Int32), (by rw [if_neg hc23]), fun t k => pre22 t (by
            show Steps p.tables e below (T21.setTop (mkF m 54 #[.val (.long q0), .second, .val (.long v4), .second, .val (.long v9), .second, .val (.long v18), .second] [(.int (lcmpW (f3 v18 v4 v9) q0))])) _
            refine XS.ifYes X21.here hx rfl (pc0 := 54) (pc' := 61) rfl (hb hby at_54) rfl ((if0 _ _).trans (feq (fun q => hc23 ((lw_eq (f3 v18 v4 v9) q0).mp q))).2) (by decide) (by decide) ?_
            show Steps p.tables e below (T21.setTop (mkF m 61 #[.val (.long q0), .second, .val (.long v4), .second, .val (.long v9), .second, .val (.long v18), .second] [])) _
            refine XS.iconst X21.here hx rfl (hb hby at_61) ?_
            exact k)⟩
      obtain ⟨fs, hr, hrun, hended, hW, hsame⟩ := X21.leave (v := some (.int (nar .boolean j24))) (fun h => by rw [Bd.returns] at h; cases h)
      refine ⟨_, _, pre25 _ ?_, hrun, hended, _, _, rfl, ?_, ⟨_, rfl⟩, hW, hsame.mono (by decide) (by decide)⟩
      · show Steps p.tables e below (T21.setTop (mkF m 62 #[.val (.long q0), .second, .val (.long v4), .second, .val (.long v9), .second, .val (.long v18), .second] [(.int j24)])) _
        exact retN X21 hx (t := .boolean) Bd.returns (by simp) (hb hby at_62) hr
      · show Q0 Z q0 h0 n0 _ T21.heap _
        rw [e21]
        have hv : (nar .boolean j24) = f0 q0 := (by subst hj24 hv18 hv9 hv4; simp only [f0, if_pos hc12, if_pos hc14])
        exact ⟨congrArg (fun z => some (Value.int z)) (hv.trans hlaw), N21⟩
    · obtain ⟨fs, hr, hrun, hended, hW, hsame⟩ := X7.leave (v := some (.int (0 : Int32))) (fun h => by rw [Bd.returns] at h; cases h)
      refine ⟨_, _, pre13 _ ?_, hrun, hended, _, _, rfl, ?_, ⟨_, rfl⟩, hW, hsame.mono (by decide) (by decide)⟩
      · show Steps p.tables e below (T7.setTop (mkF m 33 #[.val (.long q0), .second, .val (.long v4), .second, .val (.long v9), .second, .unset, .unset] [(.int (lcmpW (v9 * (-4265267296055464877 : Int64)) (1 : Int64)))])) _
        refine XS.ifNo X7.here hx rfl (hb hby at_33) rfl ((if0 _ _).trans (feq (fun q => hc14 ((lw_eq (v9 * (-4265267296055464877 : Int64)) (1 : Int64)).mp q))).1) ?_
        show Steps p.tables e below (T7.setTop (mkF m 36 #[.val (.long q0), .second, .val (.long v4), .second, .val (.long v9), .second, .unset, .unset] [])) _
        refine XS.iconst X7.here hx rfl (hb hby at_36) ?_
        show Steps p.tables e below (T7.setTop (mkF m 37 #[.val (.long q0), .second, .val (.long v4), .second, .val (.long v9), .second, .unset, .unset] [(.int (0 : Int32))])) _
        exact retN X7 hx (t := .boolean) Bd.returns (by simp) (hb hby at_37) hr
      · show Q0 Z q0 h0 n0 _ T7.heap _
        rw [e7]
        have hv : (0 : Int32) = f0 q0 := (by subst hv9 hv4; simp only [f0, if_pos hc12, if_neg hc14])
        exact ⟨congrArg (fun z => some (Value.int z)) (hv.trans hlaw), N7⟩
  · obtain ⟨fs, hr, hrun, hended, hW, hsame⟩ := X7.leave (v := some (.int (0 : Int32))) (fun h => by rw [Bd.returns] at h; cases h)
    refine ⟨_, _, pre11 _ ?_, hrun, hended, _, _, rfl, ?_, ⟨_, rfl⟩, hW, hsame.mono (by decide) (by decide)⟩
    · show Steps p.tables e below (T7.setTop (mkF m 22 #[.val (.long q0), .second, .val (.long v4), .second, .val (.long v9), .second, .unset, .unset] [(.int (lcmpW (v4 * (-49064778989728563 : Int64)) (1 : Int64)))])) _
      refine XS.ifYes X7.here hx rfl (pc0 := 22) (pc' := 36) rfl (hb hby at_22) rfl ((if0 _ _).trans (feq (fun q => hc12 ((lw_eq (v4 * (-49064778989728563 : Int64)) (1 : Int64)).mp q))).2) (by decide) (by decide) ?_
      show Steps p.tables e below (T7.setTop (mkF m 36 #[.val (.long q0), .second, .val (.long v4), .second, .val (.long v9), .second, .unset, .unset] [])) _
      refine XS.iconst X7.here hx rfl (hb hby at_36) ?_
      show Steps p.tables e below (T7.setTop (mkF m 37 #[.val (.long q0), .second, .val (.long v4), .second, .val (.long v9), .second, .unset, .unset] [(.int (0 : Int32))])) _
      exact retN X7 hx (t := .boolean) Bd.returns (by simp) (hb hby at_37) hr
    · show Q0 Z q0 h0 n0 _ T7.heap _
      rw [e7]
      have hv : (0 : Int32) = f0 q0 := (by subst hv9 hv4; simp only [f0, if_neg hc12])
      exact ⟨congrArg (fun z => some (Value.int z)) (hv.trans hlaw), N7⟩
theorem own_xs (y : BitVec 64) : (y ^^^ (y >>> 33)) ^^^ ((y ^^^ (y >>> 33)) >>> 33) = y := by
  rw [BitVec.ushiftRight_xor_distrib, ← BitVec.shiftRight_add]
  have z : y >>> (33 + 33) = 0#64 := BitVec.ushiftRight_eq_zero (by decide)
  rw [z, BitVec.xor_zero, BitVec.xor_assoc, BitVec.xor_self, BitVec.xor_zero]
def own_sh (y : Int64) : Int64 := (y ^^^ ((y.toUInt64 >>> ((33 : Int32) &&& 0x3f).toInt64.toUInt64).toInt64))
theorem own_sh_bv (y : Int64) : (own_sh y).toBitVec = y.toBitVec ^^^ (y.toBitVec >>> 33) := by
  unfold own_sh
  have e : ((33 : Int32) &&& 0x3f).toInt64.toUInt64 = 33 := by decide
  rw [e]
  rfl
theorem own_sh_sh (y : Int64) : own_sh (own_sh y) = y := by
  apply Int64.toBitVec_inj.mp
  rw [own_sh_bv, own_sh_bv, own_xs]
theorem own_i1 : f1 (-49064778989728563 : Int64) * (-49064778989728563 : Int64) = 1 := by decide +kernel
theorem own_i2 : f1 (-4265267296055464877 : Int64) * (-4265267296055464877 : Int64) = 1 := by decide +kernel
theorem own_mul {c i : Int64} (h : i * c = 1) (x : Int64) : x * c * i = x := by
  rw [Int64.mul_assoc, Int64.mul_comm c i, h, Int64.mul_one]
theorem own_un (q : Int64) : f3 (f2 q) (f1 (-49064778989728563 : Int64)) (f1 (-4265267296055464877 : Int64)) = q := by
  show own_sh (own_sh (own_sh (own_sh (own_sh (own_sh q * (-49064778989728563 : Int64)) * (-4265267296055464877 : Int64))) * f1 (-4265267296055464877 : Int64)) * f1 (-49064778989728563 : Int64)) = q
  rw [own_sh_sh, own_mul own_i2, own_sh_sh, own_mul own_i1, own_sh_sh]
theorem own_law (q0 : Int64) : f0 q0 = 1 := by
  unfold f0
  dsimp only
  rw [if_pos own_i1, if_pos own_i2, if_pos (own_un q0)]
  decide

set_option maxRecDepth 65536 in
set_option maxHeartbeats 40000000 in
theorem comes_1 {Post : Tables → Env → Array Value → State → Outcome → State → Prop} (hpost : ∀ tb e args s v u, (limb_1_1.after args s (.returned v) u = true ∧ limb_1_2.after args s (.returned v) u = true ∧ True) → FrameEnd s (.returned v) u (Jvm.fieldLocs frame_1_writes args s ++ Jvm.arrayLocs frame_1_arrays args s ++ Jvm.staticLocs frame_1_statics s) 0 0 → Post tb e args s (.returned v) u) :
    ArmFor flags0 classFile x code maxLocals ret World_1 tables_1 room_1 Calls_1 rest_1 Pre_1 Post := by
  intro l hfl _ _ p e ha hc hk s m args below hf hA hF happ hP
  obtain ⟨hcalls, hrest, hpre⟩ := hP
  obtain ⟨-, -, -, hnamed, -, -, -, hat⟩ := (Spec.applies_iff hf).mp happ
  obtain ⟨hg, hn⟩ := and_e (Cond.before_iff.mp (show (Jvm.Cond.and given_1 narrow_1).before args s = true from hpre))
  obtain ⟨g1, g2⟩ := and_e hg
  obtain ⟨w0, rfl⟩ : ∃ w0 : Value, args = #[w0] := by
    have hs : args.size = 1 := by simpa [Cond.value, given_1] using g1
    obtain ⟨L⟩ := args
    match L, hs with
    | [w0], _ => exact ⟨w0, rfl⟩
  have hw := fun d (hd : d ∈ tables_1) => atoms_spec (ws := Jvm.Cond.code x code maxLocals ret :: tables_1) hat d (List.mem_cons_of_mem _ hd)
  have hfit : Fit s := fun {y c} hc i hi => by
    obtain ⟨ha, rfl⟩ := Array.getElem?_eq_some_iff.mp hc
    have q := List.all_eq_true.mp ((Array.all_eq_true_iff_forall_mem.mp hF) _ (Array.getElem_mem ha)) i (List.mem_range.mpr hi)
    simpa [Array.getElem?_eq_getElem hi] using q
  obtain ⟨i0, ei0⟩ := isL_v g2
  obtain rfl : w0 = (.long i0) := Option.some.inj ei0
  obtain ⟨n, o, h1, h2, h3, _, L, rfl, ⟨rfl, N⟩, hq⟩ := rm0 l s _ hw tables_1 i0 s.heap s.heap.size (Nat.le_refl _) (own_law i0) p e ha hc hk s m _ below hf ((Spec.applies_iff_loose hf).mp happ).1 ⟨rfl, State.Warmed39.refl s, rfl⟩ trivial
  refine ⟨n, _, h1, h2, h3, hpost _ _ _ _ _ _ ⟨Cond.after_iff.mpr rfl, Cond.after_iff.mpr (eq_i res_at (Term.int_eval (1)) rfl), trivial⟩ ⟨hq.1, hq.2.1, (hq.2.2.sift fun y hy => Or.inr (N y hy)).mono (by decide) (by decide)⟩⟩
theorem main_1_1 : Claimed_1_1 := comes_1 fun _ _ _ _ _ _ h hF => ⟨h.1, hF⟩
theorem main_1_2 : Claimed_1_2 := comes_1 fun _ _ _ _ _ _ h hF => ⟨h.2.1, hF⟩
end Jvm.Pilot.@@N@@
namespace Jvm.Pilot.@@N@@
open Jvm Jvm.ClassFile Sem Op Lib Jvm.Free Jvm.Stand Jvm.Pilot.@@N@@.Jvm.D
/-! MADE BY PROGRAM (witnessworld.py) out of the Statement's table words and the real class files: 9 classes; the members and pool entries that the words name. The judged class is class 1, her method 3. -/
namespace start1
open Jvm.ClassFile
def u (s : String) : CpInfo := .utf8 (stringToUtf16 s)
/-- a pool by its gaps: so many unusable entries, then the entry; so many at the end -/
def gap : Nat → List CpInfo → List CpInfo
  | 0, r => r
  | n + 1, r => .unusable :: gap n r
def poolList (es : List (Nat × CpInfo)) (last : Nat) : List CpInfo := es.foldr (fun e r => gap e.1 (e.2 :: r)) (gap last [])
def pool (es : List (Nat × CpInfo)) (last : Nat) : Array CpInfo := ⟨poolList es last⟩
def fileOf (pool : Array CpInfo) (this : Nat) (attrs : Array Attribute := #[]) (ms : Array MethodInfo := #[]) (fl : Nat := 33) (sup : Nat := 0) (ifs : Array Nat := #[]) (fds : Array FieldInfo := #[]) : ClassFile where
  minorVersion := 0
  majorVersion := 65
  constantPool := pool
  accessFlags := fl
  thisClass := this
  superClass := sup
  interfaces := ifs
  fields := fds
  methods := ms
  attributes := attrs
def plain (name : String) (sup : Option ClassId) : Class where
  name := name
  kind := .ordinary
  loader := none
  accessFlags := 33
  super := sup
  interfaces := #[]
  cf := none
  fields := #[]
  methods := #[]
  instanceTypes := #[]
  staticTypes := #[]
  resolved := #[]
  callSites := []
  init := .initialized
  statics := none
  mirror := none

def pool0 : Array CpInfo := pool [(5, u "<init>"), (0, u "()V"), (1, .class_ 10), (1, u "java/lang/Object")] 113

def k0m0 : Method := { name := "<init>", desc := "()V", sig := { parameters := [], returnType := none }, accessFlags := 1, code := none }
/-- java/lang/Object -/
def k0 : Class := { plain "java/lang/Object" none with
  accessFlags := 33
  interfaces := #[]
  cf := some (fileOf pool0 8 #[] #[{ accessFlags := 1, nameIndex := 5, descriptorIndex := 6, attributes := #[] }] 33 0 #[] #[])
  fields := #[]
  methods := #[k0m0]
  instanceTypes := #[]
  staticTypes := #[]
  resolved := Array.replicate 124 none
  statics := none }

def pool1 : Array CpInfo := pool [(2, .class_ 4), (1, u "java/lang/Object"), (0, u "<init>"), (0, u "()V"), (0, .long 2), (1, .class_ 10), (0, u "com/example/adjacent_moments/adjacentmoments/store/GrowingBloomFilterMixPinLaw"), (0, .long 18397679294719823053), (1, .methodref 9 14), (0, .nameAndType 15 16), (0, u "inverse"), (0, u "(J)J"), (0, .long 14181476777654086739), (1, .methodref 20 21), (0, .class_ 22), (0, .nameAndType 23 16), (0, u "com/example/adjacent_moments/adjacentmoments/store/GrowingBloomFilter"), (0, u "mix"), (0, .methodref 9 25), (0, .nameAndType 26 27), (0, u "unmix"), (0, u "(JJJ)J"), (0, u "C1"), (0, u "J"), (1, u "C2"), (2, u "law"), (0, u "(J)Z")] 3

def k1m0 : Method := { name := "<init>", desc := "()V", sig := { parameters := [], returnType := none }, accessFlags := 2, code := none }
def k1c1 : Code := { maxStack := 8, maxLocals := 4, code := method_2_code, exceptionTable := #[], attributes := #[] }
def k1m1 : Method := { name := "inverse", desc := "(J)J", sig := { parameters := [.long], returnType := some .long }, accessFlags := 10, code := some k1c1 }
def k1c2 : Code := { maxStack := 5, maxLocals := 8, code := method_3_code, exceptionTable := #[], attributes := #[] }
def k1m2 : Method := { name := "unmix", desc := "(JJJ)J", sig := { parameters := [.long, .long, .long], returnType := some .long }, accessFlags := 10, code := some k1c2 }
def k1c3 : Code := { maxStack := 6, maxLocals := 8, code := code, exceptionTable := #[], attributes := #[] }
def k1m3 : Method := { name := "law", desc := "(J)Z", sig := { parameters := [.long], returnType := some .boolean }, accessFlags := 9, code := some k1c3 }
/-- com/example/adjacent_moments/adjacentmoments/store/GrowingBloomFilterMixPinLaw -/
def k1 : Class := { plain "com/example/adjacent_moments/adjacentmoments/store/GrowingBloomFilterMixPinLaw" (some 0) with
  accessFlags := 49
  interfaces := #[]
  cf := some (fileOf pool1 9 #[] #[{ accessFlags := 2, nameIndex := 5, descriptorIndex := 6, attributes := #[] }, { accessFlags := 10, nameIndex := 15, descriptorIndex := 16, attributes := #[] }, { accessFlags := 10, nameIndex := 26, descriptorIndex := 27, attributes := #[] }, { accessFlags := 9, nameIndex := 34, descriptorIndex := 35, attributes := #[] }] 49 2 #[] #[{ accessFlags := 26, nameIndex := 28, descriptorIndex := 29, attributes := #[] }, { accessFlags := 26, nameIndex := 31, descriptorIndex := 29, attributes := #[] }])
  fields := #[{ name := "C1", type := .long, accessFlags := 26, slot := 0, constantValue := 0 }, { name := "C2", type := .long, accessFlags := 26, slot := 1, constantValue := 0 }]
  methods := #[k1m0, k1m1, k1m2, k1m3]
  instanceTypes := #[]
  staticTypes := #[.long, .long]
  resolved := Array.replicate 39 none
  statics := none }

def pool2 : Array CpInfo := pool [(4, .class_ 6), (1, u "com/example/adjacent_moments/adjacentmoments/store/GrowingBloomFilter"), (0, u "STAGES"), (0, u "Ljava/util/List;"), (6, .class_ 16), (0, u "com/example/adjacent_moments/adjacentmoments/store/GrowingBloomFilter$Stage"), (6, u "<init>"), (2, .class_ 28), (1, u "java/lang/Object"), (0, u "()V"), (2, u "bits"), (0, u "[[J"), (2, u "newestCount"), (0, u "I"), (9, u "MAX_STAGES"), (31, u "mix"), (0, u "(J)J"), (98, .long 18397679294719823053), (1, .long 14181476777654086739), (72, u "MAX_FALSE_POSITIVE_RATE"), (0, u "D"), (3, u "FIRST_CAPACITY"), (1, u "TIGHTENING"), (0, u "PROBE_STEP"), (0, u "J"), (0, u "MAX_STAGE_BITS"), (0, u "ARRAY_HEADER_BYTES"), (1, u "OBJECT_BYTES")] 57

def k2m0 : Method := { name := "<init>", desc := "()V", sig := { parameters := [], returnType := none }, accessFlags := 0, code := none }
def k2c1 : Code := { maxStack := 5, maxLocals := 4, code := prog_17_method_13_code, exceptionTable := #[], attributes := #[] }
def k2m1 : Method := { name := "mix", desc := "(J)J", sig := { parameters := [.long], returnType := some .long }, accessFlags := 8, code := some k2c1 }
/-- com/example/adjacent_moments/adjacentmoments/store/GrowingBloomFilter -/
def k2 : Class := { plain "com/example/adjacent_moments/adjacentmoments/store/GrowingBloomFilter" (some 0) with
  accessFlags := 48
  interfaces := #[]
  cf := some (fileOf pool2 4 #[.nestMembers #[15]] #[{ accessFlags := 0, nameIndex := 23, descriptorIndex := 29, attributes := #[] }, { accessFlags := 8, nameIndex := 79, descriptorIndex := 80, attributes := #[] }] 48 26 #[] #[{ accessFlags := 24, nameIndex := 254, descriptorIndex := 255, attributes := #[] }, { accessFlags := 26, nameIndex := 259, descriptorIndex := 37, attributes := #[] }, { accessFlags := 26, nameIndex := 261, descriptorIndex := 255, attributes := #[] }, { accessFlags := 26, nameIndex := 262, descriptorIndex := 263, attributes := #[] }, { accessFlags := 26, nameIndex := 264, descriptorIndex := 263, attributes := #[] }, { accessFlags := 26, nameIndex := 265, descriptorIndex := 37, attributes := #[] }, { accessFlags := 26, nameIndex := 267, descriptorIndex := 37, attributes := #[] }, { accessFlags := 26, nameIndex := 7, descriptorIndex := 8, attributes := #[] }, { accessFlags := 24, nameIndex := 47, descriptorIndex := 37, attributes := #[] }, { accessFlags := 2, nameIndex := 32, descriptorIndex := 33, attributes := #[] }, { accessFlags := 2, nameIndex := 36, descriptorIndex := 37, attributes := #[] }])
  fields := #[{ name := "MAX_FALSE_POSITIVE_RATE", type := .double, accessFlags := 24, slot := 0, constantValue := 0 }, { name := "FIRST_CAPACITY", type := .int, accessFlags := 26, slot := 1, constantValue := 0 }, { name := "TIGHTENING", type := .double, accessFlags := 26, slot := 2, constantValue := 0 }, { name := "PROBE_STEP", type := .long, accessFlags := 26, slot := 3, constantValue := 0 }, { name := "MAX_STAGE_BITS", type := .long, accessFlags := 26, slot := 4, constantValue := 0 }, { name := "ARRAY_HEADER_BYTES", type := .int, accessFlags := 26, slot := 5, constantValue := 0 }, { name := "OBJECT_BYTES", type := .int, accessFlags := 26, slot := 6, constantValue := 0 }, { name := "STAGES", type := (.object "java/util/List"), accessFlags := 26, slot := 7, constantValue := 0 }, { name := "MAX_STAGES", type := .int, accessFlags := 24, slot := 8, constantValue := 0 }, { name := "bits", type := (.array (.array .long)), accessFlags := 2, slot := 0, constantValue := 0 }, { name := "newestCount", type := .int, accessFlags := 2, slot := 1, constantValue := 0 }]
  methods := #[k2m0, k2m1]
  instanceTypes := #[(.array (.array .long)), .int]
  staticTypes := #[.double, .int, .double, .long, .long, .int, .int, (.object "java/util/List"), .int]
  resolved := Array.replicate 325 none
  statics := none }

def pool3 : Array CpInfo := pool [(1, u "java/lang/Cloneable"), (0, .class_ 1), (0, u "java/lang/Object"), (0, .class_ 3)] 3

/-- java/lang/Cloneable -/
def k3 : Class := { plain "java/lang/Cloneable" (some 0) with
  accessFlags := 1537
  interfaces := #[]
  cf := some (fileOf pool3 2 #[] #[] 1537 4 #[] #[])
  fields := #[]
  methods := #[]
  instanceTypes := #[]
  staticTypes := #[]
  resolved := Array.replicate 8 none
  statics := none }

def pool4 : Array CpInfo := pool [(1, u "java/io/Serializable"), (0, .class_ 1), (0, u "java/lang/Object"), (0, .class_ 3)] 3

/-- java/io/Serializable -/
def k4 : Class := { plain "java/io/Serializable" (some 0) with
  accessFlags := 1537
  interfaces := #[]
  cf := some (fileOf pool4 2 #[] #[] 1537 4 #[] #[])
  fields := #[]
  methods := #[]
  instanceTypes := #[]
  staticTypes := #[]
  resolved := Array.replicate 8 none
  statics := none }

/-- the primitive byte -/
def k5 : Class := { plain "byte" none with kind := .primitive 'B', accessFlags := 0x411 }
/-- [B -/
def k6 : Class := { plain "[B" (some 0) with kind := .array 5 .byte, interfaces := #[3, 4], accessFlags := 1041 }

/-- the primitive int -/
def k7 : Class := { plain "int" none with kind := .primitive 'I', accessFlags := 0x411 }
/-- [I -/
def k8 : Class := { plain "[I" (some 0) with kind := .array 7 .int, interfaces := #[3, 4], accessFlags := 1041 }

def heap : Heap := #[]
def classes : Array Class := #[k0, k1, k2, k3, k4, k5, k6, k7, k8]
def interned : List (Array UInt16 × Addr) := []
def slotsUsed : Nat := 0
def theMethod : MethodId := ⟨1, 3⟩
def args0 : Array Value := #[.long 5]
def aboutOver (below : List Frame) : State where
  vm := { classes := classes, interned := interned.toArray }
  heap := heap
  slotsUsed := slotsUsed
  threads := #[{ frames := .invoking theMethod args0 :: below }]
def below0 : List Frame := [.native { method := ⟨0, 0⟩, args := #[] }]
def about1 : State := aboutOver below0
def p0 : Program := .bare "" "" ""
def e0 : Env := launch0.env 0 0 0
theorem w_frames : about1.frames = Frame.invoking theMethod args0 :: below0 := rfl
set_option maxRecDepth 65536 in
theorem w_args : argsFit about1.vm theMethod args0 = true := by decide +kernel
set_option maxRecDepth 65536 in
theorem w_heap : heapFits about1 = true := by decide +kernel
set_option maxRecDepth 65536 in
theorem w_runnable : about1.curStatus? = some .runnable := by decide +kernel
set_option maxRecDepth 65536 in
theorem w_alone : about1.alone = true := by decide +kernel
set_option maxRecDepth 65536 in
theorem w_named : about1.methodNamed? x = some theMethod := by decide +kernel
set_option maxRecDepth 65536 in
theorem w_hears : about1.hears theMethod below0 = true := by decide +kernel
set_option maxRecDepth 65536 in
theorem w_ripe : about1.ripe theMethod args0 below0 = true := by decide +kernel
theorem w_running : about1.status = .running := rfl
set_option maxRecDepth 65536 in
theorem w_room : about1.hasRoom e0.platform room_1 = true :=
  launch0.hasRoom_least _ room_1 (by decide +kernel) (by decide +kernel) (by decide +kernel) (by decide +kernel) (by decide +kernel) (by decide +kernel)
theorem allAtoms_all (ts : List Jvm.Cond) (a : Array Jvm.Value) (st : Jvm.State) : (allAtoms ts).before a st = ts.all (fun c => c.before a st) := by
  induction ts with
  | nil => rfl
  | cons c t ih =>
    show (Jvm.Cond.and c (allAtoms t)).before a st = _
    rw [Jvm.Cond.before_and, ih, List.all_cons]
def words1 : List Jvm.Cond := Jvm.Cond.code x code maxLocals ret :: tables_1
/-- a 'code' word, met by the world's own term for the bytes: nothing is compared byte by byte -/
theorem code_word {y : MethodName} {bytes : ByteArray} {mx : Nat} {rt : Option FieldType} {a : Array Value} {s : State} {m : MethodId} {meth : Method} {c : Code} (h1 : s.methodNamed? y = some m) (h2 : s.vm.method? m = some meth) (h3 : meth.code = some c) (h4 : c.code = bytes)
    (h5 : (c.maxLocals == mx && c.exceptionTable.isEmpty && decide (c.maxStack ≤ mostOperands) && decide (meth.sig.returnType = rt) && !meth.locks && decide (parseMethodDescriptor y.desc = some meth.sig)) = true) : (Jvm.Cond.code y bytes mx rt).before a s = true := by
  simp only [Bool.and_eq_true, beq_iff_eq, Bool.not_eq_true', decide_eq_true_eq] at h5
  obtain ⟨⟨⟨⟨⟨g1, g2⟩, g3⟩, g4⟩, g5⟩, g6⟩ := h5
  simp [Cond.before, Cond.holds, Cond.value, h1, h2, h3, h4, g1, g2, g3, g4, g5, g6]
def isCode : Jvm.Cond → Bool
  | .code _ _ _ _ => true
  | _ => false
theorem all_split {L : List Jvm.Cond} {P : Jvm.Cond → Bool} (h1 : L.all (fun c => isCode c || P c) = true) (h2 : ∀ c ∈ L.filter isCode, P c = true) : L.all P = true := by
  refine List.all_eq_true.mpr fun c hc => ?_
  have h := List.all_eq_true.mp h1 c hc
  rcases Bool.eq_false_or_eq_true (isCode c) with hi | hi
  · exact h2 c (List.mem_filter.mpr ⟨hc, hi⟩)
  · simpa [hi] using h
set_option maxRecDepth 65536 in
theorem w_c0 : (Jvm.Cond.code x code maxLocals ret).before args0 about1 = true := code_word (m := ⟨1, 3⟩) (meth := k1m3) (c := k1c3) (by decide +kernel) rfl rfl rfl (by decide +kernel)
set_option maxRecDepth 65536 in
theorem w_c1 : (Jvm.Cond.code ({ cls := "com/example/adjacent_moments/adjacentmoments/store/GrowingBloomFilterMixPinLaw", name := "inverse", desc := "(J)J" } : Jvm.MethodName) method_2_code (4 : Nat) (Option.some Jvm.ClassFile.FieldType.long)).before args0 about1 = true := code_word (m := ⟨1, 1⟩) (meth := k1m1) (c := k1c1) (by decide +kernel) rfl rfl rfl (by decide +kernel)
set_option maxRecDepth 65536 in
theorem w_c2 : (Jvm.Cond.code ({ cls := "com/example/adjacent_moments/adjacentmoments/store/GrowingBloomFilter", name := "mix", desc := "(J)J" } : Jvm.MethodName) prog_17_method_13_code (4 : Nat) (Option.some Jvm.ClassFile.FieldType.long)).before args0 about1 = true := code_word (m := ⟨2, 1⟩) (meth := k2m1) (c := k2c1) (by decide +kernel) rfl rfl rfl (by decide +kernel)
set_option maxRecDepth 65536 in
theorem w_c3 : (Jvm.Cond.code ({ cls := "com/example/adjacent_moments/adjacentmoments/store/GrowingBloomFilterMixPinLaw", name := "unmix", desc := "(JJJ)J" } : Jvm.MethodName) method_3_code (8 : Nat) (Option.some Jvm.ClassFile.FieldType.long)).before args0 about1 = true := code_word (m := ⟨1, 2⟩) (meth := k1m2) (c := k1c2) (by decide +kernel) rfl rfl rfl (by decide +kernel)
def codes1 : List Jvm.Cond := [Jvm.Cond.code x code maxLocals ret, Jvm.Cond.code ({ cls := "com/example/adjacent_moments/adjacentmoments/store/GrowingBloomFilterMixPinLaw", name := "inverse", desc := "(J)J" } : Jvm.MethodName) method_2_code (4 : Nat) (Option.some Jvm.ClassFile.FieldType.long), Jvm.Cond.code ({ cls := "com/example/adjacent_moments/adjacentmoments/store/GrowingBloomFilter", name := "mix", desc := "(J)J" } : Jvm.MethodName) prog_17_method_13_code (4 : Nat) (Option.some Jvm.ClassFile.FieldType.long), Jvm.Cond.code ({ cls := "com/example/adjacent_moments/adjacentmoments/store/GrowingBloomFilterMixPinLaw", name := "unmix", desc := "(JJJ)J" } : Jvm.MethodName) method_3_code (8 : Nat) (Option.some Jvm.ClassFile.FieldType.long)]
set_option maxRecDepth 65536 in
theorem codes_eq : words1.filter isCode = codes1 := rfl
theorem w_codes : ∀ c ∈ words1.filter isCode, c.before args0 about1 = true := by
  rw [codes_eq]
  intro c hc
  simp only [codes1, List.mem_cons, List.not_mem_nil, or_false] at hc
  rcases hc with rfl | rfl | rfl | rfl
  · exact w_c0
  · exact w_c1
  · exact w_c2
  · exact w_c3
set_option maxRecDepth 65536 in
theorem w_t1 : words1.all (fun c => isCode c || c.before args0 about1) = true := by decide +kernel
theorem w_tables : (allAtoms (Jvm.Cond.code x code maxLocals ret :: tables_1)).before args0 about1 = true := by
  rw [allAtoms_all]
  show words1.all (fun c => c.before args0 about1) = true
  refine all_split ?_ w_codes
  rw [w_t1]
set_option maxRecDepth 65536 in
theorem w_case : (Jvm.Cond.and given_1 narrow_1).before args0 about1 = true := by decide +kernel
theorem w_applies : (headSpec (Jvm.Cond.code x code maxLocals ret :: tables_1) room_1).applies x e0.platform about1 = true :=
  (Spec.applies_iff w_frames).mpr ⟨w_running, w_runnable, w_alone, w_named, w_hears, w_ripe, w_room, w_tables⟩
theorem atStart : AtStart classFile x code maxLocals ret World_1 tables_1 room_1 Calls_1 rest_1 Pre_1 launch0 p0 e0 about1 theMethod args0 below0 :=
  ⟨lists_1, trivial, launch0.admits_env _ _ _, launch0.least_env, fairChoices_fair.cas, fairChoices_fair.clock, w_frames, w_args, w_heap, w_applies, trivial, trivial, w_case⟩
end start1
theorem witness_1 : WitnessClaimed_1 := ⟨start1.p0, start1.e0, start1.about1, start1.theMethod, start1.args0, start1.below0, start1.atStart⟩
end Jvm.Pilot.@@N@@
