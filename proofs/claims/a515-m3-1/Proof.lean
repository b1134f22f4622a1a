import JvmDerived
import JvmDerived.Pilot.@@N@@Statement
import JvmDerived.Pilot.@@N@@Code
set_option linter.unusedVariables false
set_option linter.unusedSimpArgs false
namespace Jvm.RoadKit
open Sem ClassFile Op Lib Jvm.Stand Jvm.Free Jvm.LawKit
section New
variable {p : Program} {l : Launch} {e : Env} {R : Room} {s : State} {m : MethodId} {args : Array Value} {below : List Frame} {meth : Method} {c : Code} {T : State} {locs : List Loc} {cells slots : Nat}
theorem retI (X : Stand p l e R s m args below meth c T locs cells slots) (hx : p.tables.exec = Jvm.exec) {pc : Nat} {Ls : Array Slot} {z : Int32} {rest : List Value} (hret : meth.sig.returnType = some .int) (hd : decode c.code pc = .ok (.ireturn, 1)) {fs : List Frame}
    (hl : ∀ (f : JFrame) (acts : List Action), f.method = m → f.locked = none → f.entered = [] → (doReturn e (T.setTop f) acts (some (.int z))).1 = T.setFrames fs) : Steps p.tables e below (T.setTop (mkF m pc Ls (.int z :: rest))) (T.setFrames fs) := by
  have hm' : T.vm.method? m = some meth := X.method'
  have hn : narrow .int (.int z) = .int z := rfl
  show Steps p.tables e below (T.setTop { method := m, pc := pc, locals := Ls, stack := _ :: rest, locked := none }) _
  jvm_step X.here [X.here.top, hx, hd, hm', hret, hn]
  first | (intro acts; rw [hl _ acts rfl rfl rfl]) | rw [hl _ _ rfl rfl rfl]
  exact Steps.refl _
end New
end Jvm.RoadKit
namespace Jvm.Pilot.@@N@@
open Jvm Jvm.ClassFile Sem Op Lib Jvm.Free Jvm.Stand Jvm.LawKit Jvm.RoadKit Bundle Jvm.Pilot.@@N@@.Jvm.D
def own_get (vs : List Int32) (j : Int32) : Int32 := vs.getD j.toNatClampNeg 0
theorem own_getD (vs : List Int32) (j : Int32) : (List.map Value.int vs).getD j.toNatClampNeg (.int (0 : Int32)) = .int (own_get vs j) := by
  unfold own_get
  generalize j.toNatClampNeg = n
  induction vs generalizing n with
  | nil => rfl
  | cons x t ih => cases n with
    | zero => rfl
    | succ n => exact ih n
theorem own_ltL {c : Cell} {j z : Int32} {n : Nat} (S : c.slots.size = z.toNatClampNeg) (hz : z.toNatClampNeg = n) (hin : ¬ (j < 0 ∨ c.slots.size ≤ j.toNatClampNeg)) : j.toNatClampNeg < n := by
  rw [← hz, ← S]; exact Nat.lt_of_not_le fun y => hin (Or.inr y)

theorem own_m31 (x : Int32) : ¬ (x &&& (31 : Int32)) < 0 ∧ (x &&& (31 : Int32)) < (32 : Int32) := by
  have h := c_mask x 31 5 (by decide) (by decide)
  have k : ((2 ^ 5 : Nat) : Int) = 32 := by decide
  have k0 : (0 : Int32).toInt = 0 := by decide
  have k1 : (32 : Int32).toInt = 32 := by decide
  rw [k] at h
  rw [Int32.lt_iff_toInt_lt, Int32.lt_iff_toInt_lt, h, k0, k1]
  omega
theorem pn_1 : plainName "com/example/hopwise/hopwise/node/DistanceHighestBitPinLaw" = true := by first | (simp [plainName, overriddenIn]; done) | decide +kernel
theorem d1_0 : decode method_2_code 0 = .ok (.iload_n 0, 1) := by decide +kernel
theorem d1_1 : decode method_2_code 1 = .ok (.sipush 128, 3) := by decide +kernel
theorem d1_4 : decode method_2_code 4 = .ok (.if_icmp .lt 6, 3) := by decide +kernel
theorem d1_10 : decode method_2_code 10 = .ok (.iload_n 0, 1) := by decide +kernel
theorem d1_11 : decode method_2_code 11 = .ok (.bipush 64, 2) := by decide +kernel
theorem d1_13 : decode method_2_code 13 = .ok (.if_icmp .lt 6, 3) := by decide +kernel
theorem d1_19 : decode method_2_code 19 = .ok (.iload_n 0, 1) := by decide +kernel
theorem d1_20 : decode method_2_code 20 = .ok (.bipush 32, 2) := by decide +kernel
theorem d1_22 : decode method_2_code 22 = .ok (.if_icmp .lt 5, 3) := by decide +kernel
theorem d1_27 : decode method_2_code 27 = .ok (.iload_n 0, 1) := by decide +kernel
theorem d1_28 : decode method_2_code 28 = .ok (.bipush 16, 2) := by decide +kernel
theorem d1_30 : decode method_2_code 30 = .ok (.if_icmp .lt 5, 3) := by decide +kernel
theorem d1_35 : decode method_2_code 35 = .ok (.iload_n 0, 1) := by decide +kernel
theorem d1_36 : decode method_2_code 36 = .ok (.bipush 8, 2) := by decide +kernel
theorem d1_38 : decode method_2_code 38 = .ok (.if_icmp .lt 5, 3) := by decide +kernel
theorem d1_43 : decode method_2_code 43 = .ok (.iload_n 0, 1) := by decide +kernel
theorem d1_44 : decode method_2_code 44 = .ok (.iconst 4, 1) := by decide +kernel
theorem d1_45 : decode method_2_code 45 = .ok (.if_icmp .lt 5, 3) := by decide +kernel
theorem d1_50 : decode method_2_code 50 = .ok (.iload_n 0, 1) := by decide +kernel
theorem d1_51 : decode method_2_code 51 = .ok (.iconst 2, 1) := by decide +kernel
theorem d1_52 : decode method_2_code 52 = .ok (.if_icmp .lt 5, 3) := by decide +kernel
theorem d1_57 : decode method_2_code 57 = .ok (.iconst 0, 1) := by decide +kernel
theorem d1_55 : decode method_2_code 55 = .ok (.iconst 1, 1) := by decide +kernel
theorem d1_48 : decode method_2_code 48 = .ok (.iconst 2, 1) := by decide +kernel
theorem d1_41 : decode method_2_code 41 = .ok (.iconst 3, 1) := by decide +kernel
theorem d1_33 : decode method_2_code 33 = .ok (.iconst 4, 1) := by decide +kernel
theorem d1_25 : decode method_2_code 25 = .ok (.iconst 5, 1) := by decide +kernel
theorem d1_16 : decode method_2_code 16 = .ok (.bipush 6, 2) := by decide +kernel
theorem d1_7 : decode method_2_code 7 = .ok (.bipush 7, 2) := by decide +kernel
theorem ef_1 (m : MethodId) (x0 : Int32) : entryFrame m #[(.int x0)] 1 = mkF m 0 #[.val (.int x0)] [] := by first | (simp [entryFrame, mkF, argsToLocals, Value.category]; done) | rfl
def f1 (p0 : Int32) : Int32 := (if p0 < (128 : Int32) then (if p0 < (64 : Int32) then (if p0 < (32 : Int32) then (if p0 < (16 : Int32) then (if p0 < (8 : Int32) then (if p0 < (4 : Int32) then (if p0 < (2 : Int32) then (0 : Int32) else (1 : Int32)) else (2 : Int32)) else (3 : Int32)) else (4 : Int32)) else (5 : Int32)) else (6 : Int32)) else (7 : Int32))
def Q1 (Z : State) (p0 : Int32) (h0 : Heap) (n0 : Nat) (v : Option Value) (h : Heap) (L : List Loc) : Prop := v = some (.int (f1 p0)) ∧ Fr n0 L ∧ h = h0
theorem d1_58 : decode method_2_code 58 = .ok (.ireturn, 1) := by decide +kernel
theorem d1_56 : decode method_2_code 56 = .ok (.ireturn, 1) := by decide +kernel
theorem d1_49 : decode method_2_code 49 = .ok (.ireturn, 1) := by decide +kernel
theorem d1_42 : decode method_2_code 42 = .ok (.ireturn, 1) := by decide +kernel
theorem d1_34 : decode method_2_code 34 = .ok (.ireturn, 1) := by decide +kernel
theorem d1_26 : decode method_2_code 26 = .ok (.ireturn, 1) := by decide +kernel
theorem d1_18 : decode method_2_code 18 = .ok (.ireturn, 1) := by decide +kernel
theorem d1_9 : decode method_2_code 9 = .ok (.ireturn, 1) := by decide +kernel
set_option maxRecDepth 65536 in
set_option maxHeartbeats 40000000 in
theorem rm1 (l : Launch) (Z : State) (aw : Array Value) (hw : ∀ d ∈ tables_1, d.before aw Z = true) (ws : List Jvm.Cond) (p0 : Int32) (h0 : Heap) (n0 : Nat) (Z0 : n0 ≤ h0.size) :
    MetFree l (⟨"com/example/hopwise/hopwise/node/DistanceHighestBitPinLaw", "top", "(I)I"⟩ : MethodName) (head1 (Jvm.Cond.code (⟨"com/example/hopwise/hopwise/node/DistanceHighestBitPinLaw", "top", "(I)I"⟩ : MethodName) method_2_code 1 (some .int) :: ws) ({ frames := 0, cells := 0, slots := 0, locals := 0 } : Room)) (fun a U => a = #[(.int p0)] ∧ Z.Warmed39 U.vm ∧ U.heap = h0) (fun _ _ _ _ _ => True) (fun _ U o U' => ∃ v L, o = .returned v ∧ Q1 Z p0 h0 n0 v U'.heap L ∧ FrameEnd U o U' L ({ frames := 0, cells := 0, slots := 0, locals := 0 } : Room).cells ({ frames := 0, cells := 0, slots := 0, locals := 0 } : Room).slots) := by
  refine MetFree.of_bodySF (plainFor_of_name pn_1) hisR ?_
  intro p e s m args below meth c s₁ Bd hml0 hP hK
  obtain ⟨rfl, hZ, hh⟩ := hP
  have hx := Bd.exec
  have hby := Bd.bytes
  have hml : c.maxLocals = 1 := hml0
  have hown : s.vm.findClass "com/example/hopwise/hopwise/node/DistanceHighestBitPinLaw" = some m.cls := findClass_of_methodNamed Bd.named
  have hnm := (name_of_methodNamed Bd.named Bd.method).1
  have X0 : Stand p l e ({ frames := 0, cells := 0, slots := 0, locals := 0 } : Room) s m #[(.int p0)] below meth c s₁ [] 0 0 := Stand.of_body Bd
  have e0 : s₁.heap = h0 := by rw [← hh, Bd.state]; rfl
  have N0 := Fr.nil n0
  have pre0 : ∀ t, Steps p.tables e below (s₁.setTop (mkF m 0 #[.val (.int p0)] [])) t → Steps p.tables e below (s₁.setTop (entryFrame m #[(.int p0)] 1)) t := fun t k => castTop (ef_1 m p0) k
  have pre1 : ∀ t, Steps p.tables e below (s₁.setTop (mkF m 4 #[.val (.int p0)] [(.int (128 : Int32)), (.int p0)])) t → Steps p.tables e below (s₁.setTop (entryFrame m #[(.int p0)] 1)) t := fun t k => pre0 t (by
    show Steps p.tables e below (s₁.setTop (mkF m 0 #[.val (.int p0)] [])) _
    refine XS.iloadN X0.here hx rfl (hb hby d1_0) rfl ?_
    show Steps p.tables e below (s₁.setTop (mkF m 1 #[.val (.int p0)] [(.int p0)])) _
    refine XS.sipush X0.here hx rfl (hb hby d1_1) ?_
    exact k)
  by_cases hc2 : p0 < (128 : Int32)
  · have pre3 : ∀ t, Steps p.tables e below (s₁.setTop (mkF m 13 #[.val (.int p0)] [(.int (64 : Int32)), (.int p0)])) t → Steps p.tables e below (s₁.setTop (entryFrame m #[(.int p0)] 1)) t := fun t k => pre1 t (by
      show Steps p.tables e below (s₁.setTop (mkF m 4 #[.val (.int p0)] [(.int (128 : Int32)), (.int p0)])) _
      refine XS.icmpYes X0.here hx rfl (pc0 := 4) (pc' := 10) rfl (hb hby d1_4) rfl (tlt hc2).1 (by decide) (by decide) ?_
      show Steps p.tables e below (s₁.setTop (mkF m 10 #[.val (.int p0)] [])) _
      refine XS.iloadN X0.here hx rfl (hb hby d1_10) rfl ?_
      show Steps p.tables e below (s₁.setTop (mkF m 11 #[.val (.int p0)] [(.int p0)])) _
      refine XS.bipush X0.here hx rfl (hb hby d1_11) ?_
      exact k)
    by_cases hc4 : p0 < (64 : Int32)
    · have pre5 : ∀ t, Steps p.tables e below (s₁.setTop (mkF m 22 #[.val (.int p0)] [(.int (32 : Int32)), (.int p0)])) t → Steps p.tables e below (s₁.setTop (entryFrame m #[(.int p0)] 1)) t := fun t k => pre3 t (by
        show Steps p.tables e below (s₁.setTop (mkF m 13 #[.val (.int p0)] [(.int (64 : Int32)), (.int p0)])) _
        refine XS.icmpYes X0.here hx rfl (pc0 := 13) (pc' := 19) rfl (hb hby d1_13) rfl (tlt hc4).1 (by decide) (by decide) ?_
        show Steps p.tables e below (s₁.setTop (mkF m 19 #[.val (.int p0)] [])) _
        refine XS.iloadN X0.here hx rfl (hb hby d1_19) rfl ?_
        show Steps p.tables e below (s₁.setTop (mkF m 20 #[.val (.int p0)] [(.int p0)])) _
        refine XS.bipush X0.here hx rfl (hb hby d1_20) ?_
        exact k)
      by_cases hc6 : p0 < (32 : Int32)
      · have pre7 : ∀ t, Steps p.tables e below (s₁.setTop (mkF m 30 #[.val (.int p0)] [(.int (16 : Int32)), (.int p0)])) t → Steps p.tables e below (s₁.setTop (entryFrame m #[(.int p0)] 1)) t := fun t k => pre5 t (by
          show Steps p.tables e below (s₁.setTop (mkF m 22 #[.val (.int p0)] [(.int (32 : Int32)), (.int p0)])) _
          refine XS.icmpYes X0.here hx rfl (pc0 := 22) (pc' := 27) rfl (hb hby d1_22) rfl (tlt hc6).1 (by decide) (by decide) ?_
          show Steps p.tables e below (s₁.setTop (mkF m 27 #[.val (.int p0)] [])) _
          refine XS.iloadN X0.here hx rfl (hb hby d1_27) rfl ?_
          show Steps p.tables e below (s₁.setTop (mkF m 28 #[.val (.int p0)] [(.int p0)])) _
          refine XS.bipush X0.here hx rfl (hb hby d1_28) ?_
          exact k)
        by_cases hc8 : p0 < (16 : Int32)
        · have pre9 : ∀ t, Steps p.tables e below (s₁.setTop (mkF m 38 #[.val (.int p0)] [(.int (8 : Int32)), (.int p0)])) t → Steps p.tables e below (s₁.setTop (entryFrame m #[(.int p0)] 1)) t := fun t k => pre7 t (by
            show Steps p.tables e below (s₁.setTop (mkF m 30 #[.val (.int p0)] [(.int (16 : Int32)), (.int p0)])) _
            refine XS.icmpYes X0.here hx rfl (pc0 := 30) (pc' := 35) rfl (hb hby d1_30) rfl (tlt hc8).1 (by decide) (by decide) ?_
            show Steps p.tables e below (s₁.setTop (mkF m 35 #[.val (.int p0)] [])) _
            refine XS.iloadN X0.here hx rfl (hb hby d1_35) rfl ?_
            show Steps p.tables e below (s₁.setTop (mkF m 36 #[.val (.int p0)] [(.int p0)])) _
            refine XS.bipush X0.here hx rfl (hb hby d1_36) ?_
            exact k)
          by_cases hc10 : p0 < (8 : Int32)
          · have pre11 : ∀ t, Steps p.tables e below (s₁.setTop (mkF m 45 #[.val (.int p0)] [(.int (4 : Int32)), (.int p0)])) t → Steps p.tables e below (s₁.setTop (entryFrame m #[(.int p0)] 1)) t := fun t k => pre9 t (by
              show Steps p.tables e below (s₁.setTop (mkF m 38 #[.val (.int p0)] [(.int (8 : Int32)), (.int p0)])) _
              refine XS.icmpYes X0.here hx rfl (pc0 := 38) (pc' := 43) rfl (hb hby d1_38) rfl (tlt hc10).1 (by decide) (by decide) ?_
              show Steps p.tables e below (s₁.setTop (mkF m 43 #[.val (.int p0)] [])) _
              refine XS.iloadN X0.here hx rfl (hb hby d1_43) rfl ?_
              show Steps p.tables e below (s₁.setTop (mkF m 44 #[.val (.int p0)] [(.int p0)])) _
              refine XS.iconst X0.here hx rfl (hb hby d1_44) ?_
              exact k)
            by_cases hc12 : p0 < (4 : Int32)
            · have pre13 : ∀ t, Steps p.tables e below (s₁.setTop (mkF m 52 #[.val (.int p0)] [(.int (2 : Int32)), (.int p0)])) t → Steps p.tables e below (s₁.setTop (entryFrame m #[(.int p0)] 1)) t := fun t k => pre11 t (by
                show Steps p.tables e below (s₁.setTop (mkF m 45 #[.val (.int p0)] [(.int (4 : Int32)), (.int p0)])) _
                refine XS.icmpYes X0.here hx rfl (pc0 := 45) (pc' := 50) rfl (hb hby d1_45) rfl (tlt hc12).1 (by decide) (by decide) ?_
                show Steps p.tables e below (s₁.setTop (mkF m 50 #[.val (.int p0)] [])) _
                refine XS.iloadN X0.here hx rfl (hb hby d1_50) rfl ?_
                show Steps p.tables e below (s₁.setTop (mkF m 51 #[.val (.int p0)] [(.int p0)])) _
                refine XS.iconst X0.here hx rfl (hb hby d1_51) ?_
                exact k)
              by_cases hc14 : p0 < (2 : Int32)
              · obtain ⟨fs, hr, hrun, hended, hW, hsame⟩ := X0.leave (v := some (.int (0 : Int32))) (fun h => by rw [Bd.returns] at h; cases h)
                refine ⟨_, _, pre13 _ ?_, hrun, hended, _, _, rfl, ?_, ⟨_, rfl⟩, hW, hsame.mono (by decide) (by decide)⟩
                · show Steps p.tables e below (s₁.setTop (mkF m 52 #[.val (.int p0)] [(.int (2 : Int32)), (.int p0)])) _
                  refine XS.icmpYes X0.here hx rfl (pc0 := 52) (pc' := 57) rfl (hb hby d1_52) rfl (tlt hc14).1 (by decide) (by decide) ?_
                  show Steps p.tables e below (s₁.setTop (mkF m 57 #[.val (.int p0)] [])) _
                  refine XS.iconst X0.here hx rfl (hb hby d1_57) ?_
                  show Steps p.tables e below (s₁.setTop (mkF m 58 #[.val (.int p0)] [(.int (0 : Int32))])) _
                  exact retI X0 hx Bd.returns (hb hby d1_58) hr
                · show Q1 Z p0 h0 n0 _ s₁.heap _
                  rw [e0]
                  exact ⟨congrArg (fun z => some (Value.int z)) (by simp only [f1, if_pos hc2, if_pos hc4, if_pos hc6, if_pos hc8, if_pos hc10, if_pos hc12, if_pos hc14]), N0, rfl⟩
              · obtain ⟨fs, hr, hrun, hended, hW, hsame⟩ := X0.leave (v := some (.int (1 : Int32))) (fun h => by rw [Bd.returns] at h; cases h)
                refine ⟨_, _, pre13 _ ?_, hrun, hended, _, _, rfl, ?_, ⟨_, rfl⟩, hW, hsame.mono (by decide) (by decide)⟩
                · show Steps p.tables e below (s₁.setTop (mkF m 52 #[.val (.int p0)] [(.int (2 : Int32)), (.int p0)])) _
                  refine XS.icmpNo X0.here hx rfl (hb hby d1_52) rfl (flt hc14).1 ?_
                  show Steps p.tables e below (s₁.setTop (mkF m 55 #[.val (.int p0)] [])) _
                  refine XS.iconst X0.here hx rfl (hb hby d1_55) ?_
                  show Steps p.tables e below (s₁.setTop (mkF m 56 #[.val (.int p0)] [(.int (1 : Int32))])) _
                  exact retI X0 hx Bd.returns (hb hby d1_56) hr
                · show Q1 Z p0 h0 n0 _ s₁.heap _
                  rw [e0]
                  exact ⟨congrArg (fun z => some (Value.int z)) (by simp only [f1, if_pos hc2, if_pos hc4, if_pos hc6, if_pos hc8, if_pos hc10, if_pos hc12, if_neg hc14]), N0, rfl⟩
            · obtain ⟨fs, hr, hrun, hended, hW, hsame⟩ := X0.leave (v := some (.int (2 : Int32))) (fun h => by rw [Bd.returns] at h; cases h)
              refine ⟨_, _, pre11 _ ?_, hrun, hended, _, _, rfl, ?_, ⟨_, rfl⟩, hW, hsame.mono (by decide) (by decide)⟩
              · show Steps p.tables e below (s₁.setTop (mkF m 45 #[.val (.int p0)] [(.int (4 : Int32)), (.int p0)])) _
                refine XS.icmpNo X0.here hx rfl (hb hby d1_45) rfl (flt hc12).1 ?_
                show Steps p.tables e below (s₁.setTop (mkF m 48 #[.val (.int p0)] [])) _
                refine XS.iconst X0.here hx rfl (hb hby d1_48) ?_
                show Steps p.tables e below (s₁.setTop (mkF m 49 #[.val (.int p0)] [(.int (2 : Int32))])) _
                exact retI X0 hx Bd.returns (hb hby d1_49) hr
              · show Q1 Z p0 h0 n0 _ s₁.heap _
                rw [e0]
                exact ⟨congrArg (fun z => some (Value.int z)) (by simp only [f1, if_pos hc2, if_pos hc4, if_pos hc6, if_pos hc8, if_pos hc10, if_neg hc12]), N0, rfl⟩
          · obtain ⟨fs, hr, hrun, hended, hW, hsame⟩ := X0.leave (v := some (.int (3 : Int32))) (fun h => by rw [Bd.returns] at h; cases h)
            refine ⟨_, _, pre9 _ ?_, hrun, hended, _, _, rfl, ?_, ⟨_, rfl⟩, hW, hsame.mono (by decide) (by decide)⟩
            · show Steps p.tables e below (s₁.setTop (mkF m 38 #[.val (.int p0)] [(.int (8 : Int32)), (.int p0)])) _
              refine XS.icmpNo X0.here hx rfl (hb hby d1_38) rfl (flt hc10).1 ?_
              show Steps p.tables e below (s₁.setTop (mkF m 41 #[.val (.int p0)] [])) _
              refine XS.iconst X0.here hx rfl (hb hby d1_41) ?_
              show Steps p.tables e below (s₁.setTop (mkF m 42 #[.val (.int p0)] [(.int (3 : Int32))])) _
              exact retI X0 hx Bd.returns (hb hby d1_42) hr
            · show Q1 Z p0 h0 n0 _ s₁.heap _
              rw [e0]
              exact ⟨congrArg (fun z => some (Value.int z)) (by simp only [f1, if_pos hc2, if_pos hc4, if_pos hc6, if_pos hc8, if_neg hc10]), N0, rfl⟩
        · obtain ⟨fs, hr, hrun, hended, hW, hsame⟩ := X0.leave (v := some (.int (4 : Int32))) (fun h => by rw [Bd.returns] at h; cases h)
          refine ⟨_, _, pre7 _ ?_, hrun, hended, _, _, rfl, ?_, ⟨_, rfl⟩, hW, hsame.mono (by decide) (by decide)⟩
          · show Steps p.tables e below (s₁.setTop (mkF m 30 #[.val (.int p0)] [(.int (16 : Int32)), (.int p0)])) _
            refine XS.icmpNo X0.here hx rfl (hb hby d1_30) rfl (flt hc8).1 ?_
            show Steps p.tables e below (s₁.setTop (mkF m 33 #[.val (.int p0)] [])) _
            refine XS.iconst X0.here hx rfl (hb hby d1_33) ?_
            show Steps p.tables e below (s₁.setTop (mkF m 34 #[.val (.int p0)] [(.int (4 : Int32))])) _
            exact retI X0 hx Bd.returns (hb hby d1_34) hr
          · show Q1 Z p0 h0 n0 _ s₁.heap _
            rw [e0]
            exact ⟨congrArg (fun z => some (Value.int z)) (by simp only [f1, if_pos hc2, if_pos hc4, if_pos hc6, if_neg hc8]), N0, rfl⟩
      · obtain ⟨fs, hr, hrun, hended, hW, hsame⟩ := X0.leave (v := some (.int (5 : Int32))) (fun h => by rw [Bd.returns] at h; cases h)
        refine ⟨_, _, pre5 _ ?_, hrun, hended, _, _, rfl, ?_, ⟨_, rfl⟩, hW, hsame.mono (by decide) (by decide)⟩
        · show Steps p.tables e below (s₁.setTop (mkF m 22 #[.val (.int p0)] [(.int (32 : Int32)), (.int p0)])) _
          refine XS.icmpNo X0.here hx rfl (hb hby d1_22) rfl (flt hc6).1 ?_
          show Steps p.tables e below (s₁.setTop (mkF m 25 #[.val (.int p0)] [])) _
          refine XS.iconst X0.here hx rfl (hb hby d1_25) ?_
          show Steps p.tables e below (s₁.setTop (mkF m 26 #[.val (.int p0)] [(.int (5 : Int32))])) _
          exact retI X0 hx Bd.returns (hb hby d1_26) hr
        · show Q1 Z p0 h0 n0 _ s₁.heap _
          rw [e0]
          exact ⟨congrArg (fun z => some (Value.int z)) (by simp only [f1, if_pos hc2, if_pos hc4, if_neg hc6]), N0, rfl⟩
    · obtain ⟨fs, hr, hrun, hended, hW, hsame⟩ := X0.leave (v := some (.int (6 : Int32))) (fun h => by rw [Bd.returns] at h; cases h)
      refine ⟨_, _, pre3 _ ?_, hrun, hended, _, _, rfl, ?_, ⟨_, rfl⟩, hW, hsame.mono (by decide) (by decide)⟩
      · show Steps p.tables e below (s₁.setTop (mkF m 13 #[.val (.int p0)] [(.int (64 : Int32)), (.int p0)])) _
        refine XS.icmpNo X0.here hx rfl (hb hby d1_13) rfl (flt hc4).1 ?_
        show Steps p.tables e below (s₁.setTop (mkF m 16 #[.val (.int p0)] [])) _
        refine XS.bipush X0.here hx rfl (hb hby d1_16) ?_
        show Steps p.tables e below (s₁.setTop (mkF m 18 #[.val (.int p0)] [(.int (6 : Int32))])) _
        exact retI X0 hx Bd.returns (hb hby d1_18) hr
      · show Q1 Z p0 h0 n0 _ s₁.heap _
        rw [e0]
        exact ⟨congrArg (fun z => some (Value.int z)) (by simp only [f1, if_pos hc2, if_neg hc4]), N0, rfl⟩
  · obtain ⟨fs, hr, hrun, hended, hW, hsame⟩ := X0.leave (v := some (.int (7 : Int32))) (fun h => by rw [Bd.returns] at h; cases h)
    refine ⟨_, _, pre1 _ ?_, hrun, hended, _, _, rfl, ?_, ⟨_, rfl⟩, hW, hsame.mono (by decide) (by decide)⟩
    · show Steps p.tables e below (s₁.setTop (mkF m 4 #[.val (.int p0)] [(.int (128 : Int32)), (.int p0)])) _
      refine XS.icmpNo X0.here hx rfl (hb hby d1_4) rfl (flt hc2).1 ?_
      show Steps p.tables e below (s₁.setTop (mkF m 7 #[.val (.int p0)] [])) _
      refine XS.bipush X0.here hx rfl (hb hby d1_7) ?_
      show Steps p.tables e below (s₁.setTop (mkF m 9 #[.val (.int p0)] [(.int (7 : Int32))])) _
      exact retI X0 hx Bd.returns (hb hby d1_9) hr
    · show Q1 Z p0 h0 n0 _ s₁.heap _
      rw [e0]
      exact ⟨congrArg (fun z => some (Value.int z)) (by simp only [f1, if_neg hc2]), N0, rfl⟩
theorem pn_2 : plainName "java/lang/Integer" = true := by first | (simp [plainName, overriddenIn]; done) | decide +kernel
theorem d3_0 : decode jdk_33_method_47_code 0 = .ok (.iload_n 0, 1) := by decide +kernel
theorem d3_1 : decode jdk_33_method_47_code 1 = .ok (.ifCond .gt 14, 3) := by decide +kernel
theorem d3_15 : decode jdk_33_method_47_code 15 = .ok (.bipush 31, 2) := by decide +kernel
theorem d3_17 : decode jdk_33_method_47_code 17 = .ok (.istore_n 1, 1) := by decide +kernel
theorem d3_18 : decode jdk_33_method_47_code 18 = .ok (.iload_n 0, 1) := by decide +kernel
theorem d3_19 : decode jdk_33_method_47_code 19 = .ok (.ldc_w 264, 3) := by decide +kernel
theorem d3_22 : decode jdk_33_method_47_code 22 = .ok (.if_icmp .lt 11, 3) := by decide +kernel
theorem d3_25 : decode jdk_33_method_47_code 25 = .ok (.iinc 1 (-16), 3) := by decide +kernel
theorem d3_28 : decode jdk_33_method_47_code 28 = .ok (.iload_n 0, 1) := by decide +kernel
theorem d3_29 : decode jdk_33_method_47_code 29 = .ok (.bipush 16, 2) := by decide +kernel
theorem d3_31 : decode jdk_33_method_47_code 31 = .ok (.iushr, 1) := by decide +kernel
theorem d3_32 : decode jdk_33_method_47_code 32 = .ok (.istore_n 0, 1) := by decide +kernel
theorem d3_33 : decode jdk_33_method_47_code 33 = .ok (.iload_n 0, 1) := by decide +kernel
theorem d3_34 : decode jdk_33_method_47_code 34 = .ok (.sipush 256, 3) := by decide +kernel
theorem d3_37 : decode jdk_33_method_47_code 37 = .ok (.if_icmp .lt 11, 3) := by decide +kernel
theorem d3_40 : decode jdk_33_method_47_code 40 = .ok (.iinc 1 (-8), 3) := by decide +kernel
theorem d3_43 : decode jdk_33_method_47_code 43 = .ok (.iload_n 0, 1) := by decide +kernel
theorem d3_44 : decode jdk_33_method_47_code 44 = .ok (.bipush 8, 2) := by decide +kernel
theorem d3_46 : decode jdk_33_method_47_code 46 = .ok (.iushr, 1) := by decide +kernel
theorem d3_47 : decode jdk_33_method_47_code 47 = .ok (.istore_n 0, 1) := by decide +kernel
theorem d3_48 : decode jdk_33_method_47_code 48 = .ok (.iload_n 0, 1) := by decide +kernel
theorem d3_49 : decode jdk_33_method_47_code 49 = .ok (.bipush 16, 2) := by decide +kernel
theorem d3_51 : decode jdk_33_method_47_code 51 = .ok (.if_icmp .lt 10, 3) := by decide +kernel
theorem d3_54 : decode jdk_33_method_47_code 54 = .ok (.iinc 1 (-4), 3) := by decide +kernel
theorem d3_57 : decode jdk_33_method_47_code 57 = .ok (.iload_n 0, 1) := by decide +kernel
theorem d3_58 : decode jdk_33_method_47_code 58 = .ok (.iconst 4, 1) := by decide +kernel
theorem d3_59 : decode jdk_33_method_47_code 59 = .ok (.iushr, 1) := by decide +kernel
theorem d3_60 : decode jdk_33_method_47_code 60 = .ok (.istore_n 0, 1) := by decide +kernel
theorem d3_61 : decode jdk_33_method_47_code 61 = .ok (.iload_n 0, 1) := by decide +kernel
theorem d3_62 : decode jdk_33_method_47_code 62 = .ok (.iconst 4, 1) := by decide +kernel
theorem d3_63 : decode jdk_33_method_47_code 63 = .ok (.if_icmp .lt 10, 3) := by decide +kernel
theorem d3_66 : decode jdk_33_method_47_code 66 = .ok (.iinc 1 (-2), 3) := by decide +kernel
theorem d3_69 : decode jdk_33_method_47_code 69 = .ok (.iload_n 0, 1) := by decide +kernel
theorem d3_70 : decode jdk_33_method_47_code 70 = .ok (.iconst 2, 1) := by decide +kernel
theorem d3_71 : decode jdk_33_method_47_code 71 = .ok (.iushr, 1) := by decide +kernel
theorem d3_72 : decode jdk_33_method_47_code 72 = .ok (.istore_n 0, 1) := by decide +kernel
theorem d3_73 : decode jdk_33_method_47_code 73 = .ok (.iload_n 1, 1) := by decide +kernel
theorem d3_74 : decode jdk_33_method_47_code 74 = .ok (.iload_n 0, 1) := by decide +kernel
theorem d3_75 : decode jdk_33_method_47_code 75 = .ok (.iconst 1, 1) := by decide +kernel
theorem d3_76 : decode jdk_33_method_47_code 76 = .ok (.iushr, 1) := by decide +kernel
theorem d3_77 : decode jdk_33_method_47_code 77 = .ok (.isub, 1) := by decide +kernel
theorem d3_4 : decode jdk_33_method_47_code 4 = .ok (.iload_n 0, 1) := by decide +kernel
theorem d3_5 : decode jdk_33_method_47_code 5 = .ok (.ifCond .ne 8, 3) := by decide +kernel
theorem d3_8 : decode jdk_33_method_47_code 8 = .ok (.bipush 32, 2) := by decide +kernel
theorem d3_10 : decode jdk_33_method_47_code 10 = .ok (.goto 4, 3) := by decide +kernel
theorem d3_13 : decode jdk_33_method_47_code 13 = .ok (.iconst 0, 1) := by decide +kernel
theorem ef_3 (m : MethodId) (x0 : Int32) : entryFrame m #[(.int x0)] 2 = mkF m 0 #[.val (.int x0), .unset] [] := by first | (simp [entryFrame, mkF, argsToLocals, Value.category]; done) | rfl
def f3 (p0 : Int32) : Int32 := (if (0 : Int32) < p0 then (let j5 : Int32 := (if p0 < (65536 : Int32) then p0 else ((p0.toUInt32 >>> ((16 : Int32) &&& 31).toUInt32).toInt32)); (let j6 : Int32 := (if p0 < (65536 : Int32) then (31 : Int32) else (15 : Int32)); (let j10 : Int32 := (if j5 < (256 : Int32) then j5 else ((j5.toUInt32 >>> ((8 : Int32) &&& 31).toUInt32).toInt32)); (let j11 : Int32 := (if j5 < (256 : Int32) then j6 else (j6 + (-8 : Int32))); (let j15 : Int32 := (if j10 < (16 : Int32) then j10 else ((j10.toUInt32 >>> ((4 : Int32) &&& 31).toUInt32).toInt32)); (let j16 : Int32 := (if j10 < (16 : Int32) then j11 else (j11 + (-4 : Int32))); (let j20 : Int32 := (if j15 < (4 : Int32) then j15 else ((j15.toUInt32 >>> ((2 : Int32) &&& 31).toUInt32).toInt32)); (let j21 : Int32 := (if j15 < (4 : Int32) then j16 else (j16 + (-2 : Int32))); (j21 - ((j20.toUInt32 >>> ((1 : Int32) &&& 31).toUInt32).toInt32)))))))))) else (let j25 : Int32 := (if p0 = (0 : Int32) then (32 : Int32) else (0 : Int32)); j25))
def Q3 (Z : State) (p0 : Int32) (h0 : Heap) (n0 : Nat) (v : Option Value) (h : Heap) (L : List Loc) : Prop := v = some (.int (f3 p0)) ∧ Fr n0 L ∧ h = h0
theorem d3_78 : decode jdk_33_method_47_code 78 = .ok (.ireturn, 1) := by decide +kernel
theorem d3_14 : decode jdk_33_method_47_code 14 = .ok (.ireturn, 1) := by decide +kernel
set_option maxRecDepth 65536 in
set_option maxHeartbeats 40000000 in
theorem rm3 (l : Launch) (Z : State) (aw : Array Value) (hw : ∀ d ∈ tables_1, d.before aw Z = true) (ws : List Jvm.Cond) (p0 : Int32) (h0 : Heap) (n0 : Nat) (Z0 : n0 ≤ h0.size) :
    MetFree l (⟨"java/lang/Integer", "numberOfLeadingZeros", "(I)I"⟩ : MethodName) (head1 (Jvm.Cond.code (⟨"java/lang/Integer", "numberOfLeadingZeros", "(I)I"⟩ : MethodName) jdk_33_method_47_code 2 (some .int) :: ws) ({ frames := 0, cells := 0, slots := 0, locals := 0 } : Room)) (fun a U => a = #[(.int p0)] ∧ Z.Warmed39 U.vm ∧ U.heap = h0) (fun _ _ _ _ _ => True) (fun _ U o U' => ∃ v L, o = .returned v ∧ Q3 Z p0 h0 n0 v U'.heap L ∧ FrameEnd U o U' L ({ frames := 0, cells := 0, slots := 0, locals := 0 } : Room).cells ({ frames := 0, cells := 0, slots := 0, locals := 0 } : Room).slots) := by
  refine MetFree.of_bodySF (plainFor_of_name pn_2) hisR ?_
  intro p e s m args below meth c s₁ Bd hml0 hP hK
  obtain ⟨rfl, hZ, hh⟩ := hP
  have hx := Bd.exec
  have hby := Bd.bytes
  have hml : c.maxLocals = 2 := hml0
  have hown : s.vm.findClass "java/lang/Integer" = some m.cls := findClass_of_methodNamed Bd.named
  have hnm := (name_of_methodNamed Bd.named Bd.method).1
  have X0 : Stand p l e ({ frames := 0, cells := 0, slots := 0, locals := 0 } : Room) s m #[(.int p0)] below meth c s₁ [] 0 0 := Stand.of_body Bd
  have e0 : s₁.heap = h0 := by rw [← hh, Bd.state]; rfl
  have N0 := Fr.nil n0
  have pre0 : ∀ t, Steps p.tables e below (s₁.setTop (mkF m 0 #[.val (.int p0), .unset] [])) t → Steps p.tables e below (s₁.setTop (entryFrame m #[(.int p0)] 2)) t := fun t k => castTop (ef_3 m p0) k
  have pre1 : ∀ t, Steps p.tables e below (s₁.setTop (mkF m 1 #[.val (.int p0), .unset] [(.int p0)])) t → Steps p.tables e below (s₁.setTop (entryFrame m #[(.int p0)] 2)) t := fun t k => pre0 t (by
    show Steps p.tables e below (s₁.setTop (mkF m 0 #[.val (.int p0), .unset] [])) _
    refine XS.iloadN X0.here hx rfl (hb hby d3_0) rfl ?_
    exact k)
  by_cases hc2 : (0 : Int32) < p0
  · have pre3 : ∀ t, Steps p.tables e below (s₁.setTop (mkF m 22 #[.val (.int p0), .val (.int (31 : Int32))] [(.int (65536 : Int32)), (.int p0)])) t → Steps p.tables e below (s₁.setTop (entryFrame m #[(.int p0)] 2)) t := fun t k => pre1 t (by
      show Steps p.tables e below (s₁.setTop (mkF m 1 #[.val (.int p0), .unset] [(.int p0)])) _
      refine XS.ifYes X0.here hx rfl (pc0 := 1) (pc' := 15) rfl (hb hby d3_1) rfl ((if0 _ _).trans (tlt hc2).2.2.1) (by decide) (by decide) ?_
      show Steps p.tables e below (s₁.setTop (mkF m 15 #[.val (.int p0), .unset] [])) _
      refine XS.bipush X0.here hx rfl (hb hby d3_15) ?_
      show Steps p.tables e below (s₁.setTop (mkF m 17 #[.val (.int p0), .unset] [(.int (31 : Int32))])) _
      refine XS.istoreN X0.here hx rfl (hb hby d3_17) rfl (l' := #[.val (.int p0), .val (.int (31 : Int32))]) rfl ?_
      show Steps p.tables e below (s₁.setTop (mkF m 18 #[.val (.int p0), .val (.int (31 : Int32))] [])) _
      refine XS.iloadN X0.here hx rfl (hb hby d3_18) rfl ?_
      show Steps p.tables e below (s₁.setTop (mkF m 19 #[.val (.int p0), .val (.int (31 : Int32))] [(.int p0)])) _
      refine X0.ldcwInt hx hown (mvT hZ (hw _ (List.mem_of_getElem? (i := 13) rfl))) (g := (mkF m 19 #[.val (.int p0), .val (.int (31 : Int32))] [(.int p0)])) rfl (hb hby d3_19) _ ?_
      exact k)
    obtain ⟨j5, j6, hj5, hj6, pre7⟩ : ∃ (j5 : Int32) (j6 : Int32), j5 = (if p0 < (65536 : Int32) then p0 else ((p0.toUInt32 >>> ((16 : Int32) &&& 31).toUInt32).toInt32)) ∧ j6 = (if p0 < (65536 : Int32) then (31 : Int32) else (15 : Int32)) ∧ ∀ t, Steps p.tables e below (s₁.setTop (mkF m 33 #[.val (.int j5), .val (.int j6)] [])) t → Steps p.tables e below (s₁.setTop (entryFrame m #[(.int p0)] 2)) t := by
      by_cases hc4 : p0 < (65536 : Int32)
      · exact ⟨p0, (31 : Int32), (by rw [if_pos hc4]), (by rw [if_pos hc4]), fun t k => pre3 t (by
          show Steps p.tables e below (s₁.setTop (mkF m 22 #[.val (.int p0), .val (.int (31 : Int32))] [(.int (65536 : Int32)), (.int p0)])) _
          refine XS.icmpYes X0.here hx rfl (pc0 := 22) (pc' := 33) rfl (hb hby d3_22) rfl (tlt hc4).1 (by decide) (by decide) ?_
          exact k)⟩
      · exact ⟨((p0.toUInt32 >>> ((16 : Int32) &&& 31).toUInt32).toInt32), (15 : Int32), (by rw [if_neg hc4]), (by rw [if_neg hc4]), fun t k => pre3 t (by
          show Steps p.tables e below (s₁.setTop (mkF m 22 #[.val (.int p0), .val (.int (31 : Int32))] [(.int (65536 : Int32)), (.int p0)])) _
          refine XS.icmpNo X0.here hx rfl (hb hby d3_22) rfl (flt hc4).1 ?_
          show Steps p.tables e below (s₁.setTop (mkF m 25 #[.val (.int p0), .val (.int (31 : Int32))] [])) _
          refine XS.iinc X0.here hx rfl (hb hby d3_25) rfl (l' := #[.val (.int p0), .val (.int (15 : Int32))]) rfl ?_
          show Steps p.tables e below (s₁.setTop (mkF m 28 #[.val (.int p0), .val (.int (15 : Int32))] [])) _
          refine XS.iloadN X0.here hx rfl (hb hby d3_28) rfl ?_
          show Steps p.tables e below (s₁.setTop (mkF m 29 #[.val (.int p0), .val (.int (15 : Int32))] [(.int p0)])) _
          refine XS.bipush X0.here hx rfl (hb hby d3_29) ?_
          show Steps p.tables e below (s₁.setTop (mkF m 31 #[.val (.int p0), .val (.int (15 : Int32))] [(.int (16 : Int32)), (.int p0)])) _
          refine XS.iushr X0.here hx rfl (hb hby d3_31) rfl ?_
          show Steps p.tables e below (s₁.setTop (mkF m 32 #[.val (.int p0), .val (.int (15 : Int32))] [(.int ((p0.toUInt32 >>> ((16 : Int32) &&& 31).toUInt32).toInt32))])) _
          refine XS.istoreN X0.here hx rfl (hb hby d3_32) rfl (l' := #[.val (.int ((p0.toUInt32 >>> ((16 : Int32) &&& 31).toUInt32).toInt32)), .val (.int (15 : Int32))]) rfl ?_
          exact k)⟩
    have pre8 : ∀ t, Steps p.tables e below (s₁.setTop (mkF m 37 #[.val (.int j5), .val (.int j6)] [(.int (256 : Int32)), (.int j5)])) t → Steps p.tables e below (s₁.setTop (entryFrame m #[(.int p0)] 2)) t := fun t k => pre7 t (by
      show Steps p.tables e below (s₁.setTop (mkF m 33 #[.val (.int j5), .val (.int j6)] [])) _
      refine XS.iloadN X0.here hx rfl (hb hby d3_33) rfl ?_
      show Steps p.tables e below (s₁.setTop (mkF m 34 #[.val (.int j5), .val (.int j6)] [(.int j5)])) _
      refine XS.sipush X0.here hx rfl (hb hby d3_34) ?_
      exact k)
    obtain ⟨j10, j11, hj10, hj11, pre12⟩ : ∃ (j10 : Int32) (j11 : Int32), j10 = (if j5 < (256 : Int32) then j5 else ((j5.toUInt32 >>> ((8 : Int32) &&& 31).toUInt32).toInt32)) ∧ j11 = (if j5 < (256 : Int32) then j6 else (j6 + (-8 : Int32))) ∧ ∀ t, Steps p.tables e below (s₁.setTop (mkF m 48 #[.val (.int j10), .val (.int j11)] [])) t → Steps p.tables e below (s₁.setTop (entryFrame m #[(.int p0)] 2)) t := by
      by_cases hc9 : j5 < (256 : Int32)
      · exact ⟨j5, j6, (by rw [if_pos hc9]), (by rw [if_pos hc9]), fun t k => pre8 t (by
          show Steps p.tables e below (s₁.setTop (mkF m 37 #[.val (.int j5), .val (.int j6)] [(.int (256 : Int32)), (.int j5)])) _
          refine XS.icmpYes X0.here hx rfl (pc0 := 37) (pc' := 48) rfl (hb hby d3_37) rfl (tlt hc9).1 (by decide) (by decide) ?_
          exact k)⟩
      · exact ⟨((j5.toUInt32 >>> ((8 : Int32) &&& 31).toUInt32).toInt32), (j6 + (-8 : Int32)), (by rw [if_neg hc9]), (by rw [if_neg hc9]), fun t k => pre8 t (by
          show Steps p.tables e below (s₁.setTop (mkF m 37 #[.val (.int j5), .val (.int j6)] [(.int (256 : Int32)), (.int j5)])) _
          refine XS.icmpNo X0.here hx rfl (hb hby d3_37) rfl (flt hc9).1 ?_
          show Steps p.tables e below (s₁.setTop (mkF m 40 #[.val (.int j5), .val (.int j6)] [])) _
          refine XS.iinc X0.here hx rfl (hb hby d3_40) rfl (l' := #[.val (.int j5), .val (.int (j6 + (-8 : Int32)))]) rfl ?_
          show Steps p.tables e below (s₁.setTop (mkF m 43 #[.val (.int j5), .val (.int (j6 + (-8 : Int32)))] [])) _
          refine XS.iloadN X0.here hx rfl (hb hby d3_43) rfl ?_
          show Steps p.tables e below (s₁.setTop (mkF m 44 #[.val (.int j5), .val (.int (j6 + (-8 : Int32)))] [(.int j5)])) _
          refine XS.bipush X0.here hx rfl (hb hby d3_44) ?_
          show Steps p.tables e below (s₁.setTop (mkF m 46 #[.val (.int j5), .val (.int (j6 + (-8 : Int32)))] [(.int (8 : Int32)), (.int j5)])) _
          refine XS.iushr X0.here hx rfl (hb hby d3_46) rfl ?_
          show Steps p.tables e below (s₁.setTop (mkF m 47 #[.val (.int j5), .val (.int (j6 + (-8 : Int32)))] [(.int ((j5.toUInt32 >>> ((8 : Int32) &&& 31).toUInt32).toInt32))])) _
          refine XS.istoreN X0.here hx rfl (hb hby d3_47) rfl (l' := #[.val (.int ((j5.toUInt32 >>> ((8 : Int32) &&& 31).toUInt32).toInt32)), .val (.int (j6 + (-8 : Int32)))]) rfl ?_
          exact k)⟩
    have pre13 : ∀ t, Steps p.tables e below (s₁.setTop (mkF m 51 #[.val (.int j10), .val (.int j11)] [(.int (16 : Int32)), (.int j10)])) t → Steps p.tables e below (s₁.setTop (entryFrame m #[(.int p0)] 2)) t := fun t k => pre12 t (by
      show Steps p.tables e below (s₁.setTop (mkF m 48 #[.val (.int j10), .val (.int j11)] [])) _
      refine XS.iloadN X0.here hx rfl (hb hby d3_48) rfl ?_
      show Steps p.tables e below (s₁.setTop (mkF m 49 #[.val (.int j10), .val (.int j11)] [(.int j10)])) _
      refine XS.bipush X0.here hx rfl (hb hby d3_49) ?_
      exact k)
    obtain ⟨j15, j16, hj15, hj16, pre17⟩ : ∃ (j15 : Int32) (j16 : Int32), j15 = (if j10 < (16 : Int32) then j10 else ((j10.toUInt32 >>> ((4 : Int32) &&& 31).toUInt32).toInt32)) ∧ j16 = (if j10 < (16 : Int32) then j11 else (j11 + (-4 : Int32))) ∧ ∀ t, Steps p.tables e below (s₁.setTop (mkF m 61 #[.val (.int j15), .val (.int j16)] [])) t → Steps p.tables e below (s₁.setTop (entryFrame m #[(.int p0)] 2)) t := by
      by_cases hc14 : j10 < (16 : Int32)
      · exact ⟨j10, j11, (by rw [if_pos hc14]), (by rw [if_pos hc14]), fun t k => pre13 t (by
          show Steps p.tables e below (s₁.setTop (mkF m 51 #[.val (.int j10), .val (.int j11)] [(.int (16 : Int32)), (.int j10)])) _
          refine XS.icmpYes X0.here hx rfl (pc0 := 51) (pc' := 61) rfl (hb hby d3_51) rfl (tlt hc14).1 (by decide) (by decide) ?_
          exact k)⟩
      · exact ⟨((j10.toUInt32 >>> ((4 : Int32) &&& 31).toUInt32).toInt32), (j11 + (-4 : Int32)), (by rw [if_neg hc14]), (by rw [if_neg hc14]), fun t k => pre13 t (by
          show Steps p.tables e below (s₁.setTop (mkF m 51 #[.val (.int j10), .val (.int j11)] [(.int (16 : Int32)), (.int j10)])) _
          refine XS.icmpNo X0.here hx rfl (hb hby d3_51) rfl (flt hc14).1 ?_
          show Steps p.tables e below (s₁.setTop (mkF m 54 #[.val (.int j10), .val (.int j11)] [])) _
          refine XS.iinc X0.here hx rfl (hb hby d3_54) rfl (l' := #[.val (.int j10), .val (.int (j11 + (-4 : Int32)))]) rfl ?_
          show Steps p.tables e below (s₁.setTop (mkF m 57 #[.val (.int j10), .val (.int (j11 + (-4 : Int32)))] [])) _
          refine XS.iloadN X0.here hx rfl (hb hby d3_57) rfl ?_
          show Steps p.tables e below (s₁.setTop (mkF m 58 #[.val (.int j10), .val (.int (j11 + (-4 : Int32)))] [(.int j10)])) _
          refine XS.iconst X0.here hx rfl (hb hby d3_58) ?_
          show Steps p.tables e below (s₁.setTop (mkF m 59 #[.val (.int j10), .val (.int (j11 + (-4 : Int32)))] [(.int (4 : Int32)), (.int j10)])) _
          refine XS.iushr X0.here hx rfl (hb hby d3_59) rfl ?_
          show Steps p.tables e below (s₁.setTop (mkF m 60 #[.val (.int j10), .val (.int (j11 + (-4 : Int32)))] [(.int ((j10.toUInt32 >>> ((4 : Int32) &&& 31).toUInt32).toInt32))])) _
          refine XS.istoreN X0.here hx rfl (hb hby d3_60) rfl (l' := #[.val (.int ((j10.toUInt32 >>> ((4 : Int32) &&& 31).toUInt32).toInt32)), .val (.int (j11 + (-4 : Int32)))]) rfl ?_
          exact k)⟩
    have pre18 : ∀ t, Steps p.tables e below (s₁.setTop (mkF m 63 #[.val (.int j15), .val (.int j16)] [(.int (4 : Int32)), (.int j15)])) t → Steps p.tables e below (s₁.setTop (entryFrame m #[(.int p0)] 2)) t := fun t k => pre17 t (by
      show Steps p.tables e below (s₁.setTop (mkF m 61 #[.val (.int j15), .val (.int j16)] [])) _
      refine XS.iloadN X0.here hx rfl (hb hby d3_61) rfl ?_
      show Steps p.tables e below (s₁.setTop (mkF m 62 #[.val (.int j15), .val (.int j16)] [(.int j15)])) _
      refine XS.iconst X0.here hx rfl (hb hby d3_62) ?_
      exact k)
    obtain ⟨j20, j21, hj20, hj21, pre22⟩ : ∃ (j20 : Int32) (j21 : Int32), j20 = (if j15 < (4 : Int32) then j15 else ((j15.toUInt32 >>> ((2 : Int32) &&& 31).toUInt32).toInt32)) ∧ j21 = (if j15 < (4 : Int32) then j16 else (j16 + (-2 : Int32))) ∧ ∀ t, Steps p.tables e below (s₁.setTop (mkF m 73 #[.val (.int j20), .val (.int j21)] [])) t → Steps p.tables e below (s₁.setTop (entryFrame m #[(.int p0)] 2)) t := by
      by_cases hc19 : j15 < (4 : Int32)
      · exact ⟨j15, j16, (by rw [if_pos hc19]), (by rw [if_pos hc19]), fun t k => pre18 t (by
          show Steps p.tables e below (s₁.setTop (mkF m 63 #[.val (.int j15), .val (.int j16)] [(.int (4 : Int32)), (.int j15)])) _
          refine XS.icmpYes X0.here hx rfl (pc0 := 63) (pc' := 73) rfl (hb hby d3_63) rfl (tlt hc19).1 (by decide) (by decide) ?_
          exact k)⟩
      · exact ⟨((j15.toUInt32 >>> ((2 : Int32) &&& 31).toUInt32).toInt32), (j16 + (-2 : Int32)), (by rw [if_neg hc19]), (by rw [if_neg hc19]), fun t k => pre18 t (by
          show Steps p.tables e below (s₁.setTop (mkF m 63 #[.val (.int j15), .val (.int j16)] [(.int (4 : Int32)), (.int j15)])) _
          refine XS.icmpNo X0.here hx rfl (hb hby d3_63) rfl (flt hc19).1 ?_
          show Steps p.tables e below (s₁.setTop (mkF m 66 #[.val (.int j15), .val (.int j16)] [])) _
          refine XS.iinc X0.here hx rfl (hb hby d3_66) rfl (l' := #[.val (.int j15), .val (.int (j16 + (-2 : Int32)))]) rfl ?_
          show Steps p.tables e below (s₁.setTop (mkF m 69 #[.val (.int j15), .val (.int (j16 + (-2 : Int32)))] [])) _
          refine XS.iloadN X0.here hx rfl (hb hby d3_69) rfl ?_
          show Steps p.tables e below (s₁.setTop (mkF m 70 #[.val (.int j15), .val (.int (j16 + (-2 : Int32)))] [(.int j15)])) _
          refine XS.iconst X0.here hx rfl (hb hby d3_70) ?_
          show Steps p.tables e below (s₁.setTop (mkF m 71 #[.val (.int j15), .val (.int (j16 + (-2 : Int32)))] [(.int (2 : Int32)), (.int j15)])) _
          refine XS.iushr X0.here hx rfl (hb hby d3_71) rfl ?_
          show Steps p.tables e below (s₁.setTop (mkF m 72 #[.val (.int j15), .val (.int (j16 + (-2 : Int32)))] [(.int ((j15.toUInt32 >>> ((2 : Int32) &&& 31).toUInt32).toInt32))])) _
          refine XS.istoreN X0.here hx rfl (hb hby d3_72) rfl (l' := #[.val (.int ((j15.toUInt32 >>> ((2 : Int32) &&& 31).toUInt32).toInt32)), .val (.int (j16 + (-2 : Int32)))]) rfl ?_
          exact k)⟩
    obtain ⟨fs, hr, hrun, hended, hW, hsame⟩ := X0.leave (v := some (.int (j21 - ((j20.toUInt32 >>> ((1 : Int32) &&& 31).toUInt32).toInt32)))) (fun h => by rw [Bd.returns] at h; cases h)
    refine ⟨_, _, pre22 _ ?_, hrun, hended, _, _, rfl, ?_, ⟨_, rfl⟩, hW, hsame.mono (by decide) (by decide)⟩
    · show Steps p.tables e below (s₁.setTop (mkF m 73 #[.val (.int j20), .val (.int j21)] [])) _
      refine XS.iloadN X0.here hx rfl (hb hby d3_73) rfl ?_
      show Steps p.tables e below (s₁.setTop (mkF m 74 #[.val (.int j20), .val (.int j21)] [(.int j21)])) _
      refine XS.iloadN X0.here hx rfl (hb hby d3_74) rfl ?_
      show Steps p.tables e below (s₁.setTop (mkF m 75 #[.val (.int j20), .val (.int j21)] [(.int j20), (.int j21)])) _
      refine XS.iconst X0.here hx rfl (hb hby d3_75) ?_
      show Steps p.tables e below (s₁.setTop (mkF m 76 #[.val (.int j20), .val (.int j21)] [(.int (1 : Int32)), (.int j20), (.int j21)])) _
      refine XS.iushr X0.here hx rfl (hb hby d3_76) rfl ?_
      show Steps p.tables e below (s₁.setTop (mkF m 77 #[.val (.int j20), .val (.int j21)] [(.int ((j20.toUInt32 >>> ((1 : Int32) &&& 31).toUInt32).toInt32)), (.int j21)])) _
      refine XS.isub X0.here hx rfl (hb hby d3_77) rfl ?_
      show Steps p.tables e below (s₁.setTop (mkF m 78 #[.val (.int j20), .val (.int j21)] [(.int (j21 - ((j20.toUInt32 >>> ((1 : Int32) &&& 31).toUInt32).toInt32)))])) _
      exact retI X0 hx Bd.returns (hb hby d3_78) hr
    · show Q3 Z p0 h0 n0 _ s₁.heap _
      rw [e0]
      exact ⟨congrArg (fun z => some (Value.int z)) (by subst hj21 hj20 hj16 hj15 hj11 hj10 hj6 hj5; simp only [f3, if_pos hc2]), N0, rfl⟩
  · have pre23 : ∀ t, Steps p.tables e below (s₁.setTop (mkF m 5 #[.val (.int p0), .unset] [(.int p0)])) t → Steps p.tables e below (s₁.setTop (entryFrame m #[(.int p0)] 2)) t := fun t k => pre1 t (by
      show Steps p.tables e below (s₁.setTop (mkF m 1 #[.val (.int p0), .unset] [(.int p0)])) _
      refine XS.ifNo X0.here hx rfl (hb hby d3_1) rfl ((if0 _ _).trans (flt hc2).2.2.1) ?_
      show Steps p.tables e below (s₁.setTop (mkF m 4 #[.val (.int p0), .unset] [])) _
      refine XS.iloadN X0.here hx rfl (hb hby d3_4) rfl ?_
      exact k)
    obtain ⟨j25, hj25, pre26⟩ : ∃ (j25 : Int32), j25 = (if p0 = (0 : Int32) then (32 : Int32) else (0 : Int32)) ∧ ∀ t, Steps p.tables e below (s₁.setTop (mkF m 14 #[.val (.int p0), .unset] [(.int j25)])) t → Steps p.tables e below (s₁.setTop (entryFrame m #[(.int p0)] 2)) t := by
      by_cases hc24 : p0 = (0 : Int32)
      · exact ⟨(32 : Int32), (by rw [if_pos hc24]), fun t k => pre23 t (by
          show Steps p.tables e below (s₁.setTop (mkF m 5 #[.val (.int p0), .unset] [(.int p0)])) _
          refine XS.ifNo X0.here hx rfl (hb hby d3_5) rfl ((if0 _ _).trans (teq hc24).2) ?_
          show Steps p.tables e below (s₁.setTop (mkF m 8 #[.val (.int p0), .unset] [])) _
          refine XS.bipush X0.here hx rfl (hb hby d3_8) ?_
          show Steps p.tables e below (s₁.setTop (mkF m 10 #[.val (.int p0), .unset] [(.int (32 : Int32))])) _
          refine XS.goto X0.here hx rfl (pc0 := 10) (pc' := 14) rfl (hb hby d3_10) (by decide) (by decide) ?_
          exact k)⟩
      · exact ⟨(0 : Int32), (by rw [if_neg hc24]), fun t k => pre23 t (by
          show Steps p.tables e below (s₁.setTop (mkF m 5 #[.val (.int p0), .unset] [(.int p0)])) _
          refine XS.ifYes X0.here hx rfl (pc0 := 5) (pc' := 13) rfl (hb hby d3_5) rfl ((if0 _ _).trans (feq hc24).2) (by decide) (by decide) ?_
          show Steps p.tables e below (s₁.setTop (mkF m 13 #[.val (.int p0), .unset] [])) _
          refine XS.iconst X0.here hx rfl (hb hby d3_13) ?_
          exact k)⟩
    obtain ⟨fs, hr, hrun, hended, hW, hsame⟩ := X0.leave (v := some (.int j25)) (fun h => by rw [Bd.returns] at h; cases h)
    refine ⟨_, _, pre26 _ ?_, hrun, hended, _, _, rfl, ?_, ⟨_, rfl⟩, hW, hsame.mono (by decide) (by decide)⟩
    · show Steps p.tables e below (s₁.setTop (mkF m 14 #[.val (.int p0), .unset] [(.int j25)])) _
      exact retI X0 hx Bd.returns (hb hby d3_14) hr
    · show Q3 Z p0 h0 n0 _ s₁.heap _
      rw [e0]
      exact ⟨congrArg (fun z => some (Value.int z)) (by subst hj25; simp only [f3, if_neg hc2]), N0, rfl⟩
theorem pn_0 : plainName "com/example/hopwise/hopwise/node/Distance" = true := by first | (simp [plainName, overriddenIn]; done) | decide +kernel
theorem d2_0 : decode prog_85_method_5_code 0 = .ok (.iconst 0, 1) := by decide +kernel
theorem d2_1 : decode prog_85_method_5_code 1 = .ok (.istore_n 2, 1) := by decide +kernel
theorem d2_2 : decode prog_85_method_5_code 2 = .ok (.iload_n 2, 1) := by decide +kernel
theorem d2_3 : decode prog_85_method_5_code 3 = .ok (.bipush 32, 2) := by decide +kernel
theorem d2_5 : decode prog_85_method_5_code 5 = .ok (.if_icmp .ge 41, 3) := by decide +kernel
theorem d2_8 : decode prog_85_method_5_code 8 = .ok (.aload_n 0, 1) := by decide +kernel
theorem d2_9 : decode prog_85_method_5_code 9 = .ok (.iload_n 2, 1) := by decide +kernel
theorem d2_10 : decode prog_85_method_5_code 10 = .ok (.baload, 1) := by decide +kernel
theorem d2_11 : decode prog_85_method_5_code 11 = .ok (.aload_n 1, 1) := by decide +kernel
theorem d2_12 : decode prog_85_method_5_code 12 = .ok (.iload_n 2, 1) := by decide +kernel
theorem d2_13 : decode prog_85_method_5_code 13 = .ok (.baload, 1) := by decide +kernel
theorem d2_14 : decode prog_85_method_5_code 14 = .ok (.ixor, 1) := by decide +kernel
theorem d2_15 : decode prog_85_method_5_code 15 = .ok (.sipush 255, 3) := by decide +kernel
theorem d2_18 : decode prog_85_method_5_code 18 = .ok (.iand, 1) := by decide +kernel
theorem d2_19 : decode prog_85_method_5_code 19 = .ok (.istore_n 3, 1) := by decide +kernel
theorem d2_20 : decode prog_85_method_5_code 20 = .ok (.iload_n 3, 1) := by decide +kernel
theorem d2_21 : decode prog_85_method_5_code 21 = .ok (.ifCond .eq 19, 3) := by decide +kernel
theorem d2_40 : decode prog_85_method_5_code 40 = .ok (.iinc 2 1, 3) := by decide +kernel
theorem d2_43 : decode prog_85_method_5_code 43 = .ok (.goto (-41), 3) := by decide +kernel
theorem d2_46 : decode prog_85_method_5_code 46 = .ok (.iconst (-1), 1) := by decide +kernel
theorem d2_24 : decode prog_85_method_5_code 24 = .ok (.bipush 8, 2) := by decide +kernel
theorem d2_26 : decode prog_85_method_5_code 26 = .ok (.bipush 32, 2) := by decide +kernel
theorem d2_28 : decode prog_85_method_5_code 28 = .ok (.iload_n 2, 1) := by decide +kernel
theorem d2_29 : decode prog_85_method_5_code 29 = .ok (.isub, 1) := by decide +kernel
theorem d2_30 : decode prog_85_method_5_code 30 = .ok (.imul, 1) := by decide +kernel
theorem d2_31 : decode prog_85_method_5_code 31 = .ok (.iload_n 3, 1) := by decide +kernel
theorem pd_0 : parseMethodDescriptor "(I)I" = some ⟨[.int], some .int⟩ := by decide +kernel
theorem d2_32 : decode prog_85_method_5_code 32 = .ok (.invokestatic 39, 3) := by decide +kernel
theorem d2_35 : decode prog_85_method_5_code 35 = .ok (.isub, 1) := by decide +kernel
theorem d2_36 : decode prog_85_method_5_code 36 = .ok (.bipush 23, 2) := by decide +kernel
theorem d2_38 : decode prog_85_method_5_code 38 = .ok (.iadd, 1) := by decide +kernel
theorem ef_2 (m : MethodId) (x0 : Addr) (x1 : Addr) : entryFrame m #[(.ref x0), (.ref x1)] 4 = mkF m 0 #[.val (.ref x0), .val (.ref x1), .unset, .unset] [] := by first | (simp [entryFrame, mkF, argsToLocals, Value.category]; done) | rfl
def f2 (vs_a0 : List Int32) (vs_a1 : List Int32) : Int32 := (let v6 : Int32 := (((own_get vs_a0 (0 : Int32)) ^^^ (own_get vs_a1 (0 : Int32))) &&& (255 : Int32)); (if v6 = (0 : Int32) then (let v15 : Int32 := (((own_get vs_a0 (1 : Int32)) ^^^ (own_get vs_a1 (1 : Int32))) &&& (255 : Int32)); (if v15 = (0 : Int32) then (let v24 : Int32 := (((own_get vs_a0 (2 : Int32)) ^^^ (own_get vs_a1 (2 : Int32))) &&& (255 : Int32)); (if v24 = (0 : Int32) then (let v33 : Int32 := (((own_get vs_a0 (3 : Int32)) ^^^ (own_get vs_a1 (3 : Int32))) &&& (255 : Int32)); (if v33 = (0 : Int32) then (let v42 : Int32 := (((own_get vs_a0 (4 : Int32)) ^^^ (own_get vs_a1 (4 : Int32))) &&& (255 : Int32)); (if v42 = (0 : Int32) then (let v51 : Int32 := (((own_get vs_a0 (5 : Int32)) ^^^ (own_get vs_a1 (5 : Int32))) &&& (255 : Int32)); (if v51 = (0 : Int32) then (let v60 : Int32 := (((own_get vs_a0 (6 : Int32)) ^^^ (own_get vs_a1 (6 : Int32))) &&& (255 : Int32)); (if v60 = (0 : Int32) then (let v69 : Int32 := (((own_get vs_a0 (7 : Int32)) ^^^ (own_get vs_a1 (7 : Int32))) &&& (255 : Int32)); (if v69 = (0 : Int32) then (let v78 : Int32 := (((own_get vs_a0 (8 : Int32)) ^^^ (own_get vs_a1 (8 : Int32))) &&& (255 : Int32)); (if v78 = (0 : Int32) then (let v87 : Int32 := (((own_get vs_a0 (9 : Int32)) ^^^ (own_get vs_a1 (9 : Int32))) &&& (255 : Int32)); (if v87 = (0 : Int32) then (let v96 : Int32 := (((own_get vs_a0 (10 : Int32)) ^^^ (own_get vs_a1 (10 : Int32))) &&& (255 : Int32)); (if v96 = (0 : Int32) then (let v105 : Int32 := (((own_get vs_a0 (11 : Int32)) ^^^ (own_get vs_a1 (11 : Int32))) &&& (255 : Int32)); (if v105 = (0 : Int32) then (let v114 : Int32 := (((own_get vs_a0 (12 : Int32)) ^^^ (own_get vs_a1 (12 : Int32))) &&& (255 : Int32)); (if v114 = (0 : Int32) then (let v123 : Int32 := (((own_get vs_a0 (13 : Int32)) ^^^ (own_get vs_a1 (13 : Int32))) &&& (255 : Int32)); (if v123 = (0 : Int32) then (let v132 : Int32 := (((own_get vs_a0 (14 : Int32)) ^^^ (own_get vs_a1 (14 : Int32))) &&& (255 : Int32)); (if v132 = (0 : Int32) then (let v141 : Int32 := (((own_get vs_a0 (15 : Int32)) ^^^ (own_get vs_a1 (15 : Int32))) &&& (255 : Int32)); (if v141 = (0 : Int32) then (let v150 : Int32 := (((own_get vs_a0 (16 : Int32)) ^^^ (own_get vs_a1 (16 : Int32))) &&& (255 : Int32)); (if v150 = (0 : Int32) then (let v159 : Int32 := (((own_get vs_a0 (17 : Int32)) ^^^ (own_get vs_a1 (17 : Int32))) &&& (255 : Int32)); (if v159 = (0 : Int32) then (let v168 : Int32 := (((own_get vs_a0 (18 : Int32)) ^^^ (own_get vs_a1 (18 : Int32))) &&& (255 : Int32)); (if v168 = (0 : Int32) then (let v177 : Int32 := (((own_get vs_a0 (19 : Int32)) ^^^ (own_get vs_a1 (19 : Int32))) &&& (255 : Int32)); (if v177 = (0 : Int32) then (let v186 : Int32 := (((own_get vs_a0 (20 : Int32)) ^^^ (own_get vs_a1 (20 : Int32))) &&& (255 : Int32)); (if v186 = (0 : Int32) then (let v195 : Int32 := (((own_get vs_a0 (21 : Int32)) ^^^ (own_get vs_a1 (21 : Int32))) &&& (255 : Int32)); (if v195 = (0 : Int32) then (let v204 : Int32 := (((own_get vs_a0 (22 : Int32)) ^^^ (own_get vs_a1 (22 : Int32))) &&& (255 : Int32)); (if v204 = (0 : Int32) then (let v213 : Int32 := (((own_get vs_a0 (23 : Int32)) ^^^ (own_get vs_a1 (23 : Int32))) &&& (255 : Int32)); (if v213 = (0 : Int32) then (let v222 : Int32 := (((own_get vs_a0 (24 : Int32)) ^^^ (own_get vs_a1 (24 : Int32))) &&& (255 : Int32)); (if v222 = (0 : Int32) then (let v231 : Int32 := (((own_get vs_a0 (25 : Int32)) ^^^ (own_get vs_a1 (25 : Int32))) &&& (255 : Int32)); (if v231 = (0 : Int32) then (let v240 : Int32 := (((own_get vs_a0 (26 : Int32)) ^^^ (own_get vs_a1 (26 : Int32))) &&& (255 : Int32)); (if v240 = (0 : Int32) then (let v249 : Int32 := (((own_get vs_a0 (27 : Int32)) ^^^ (own_get vs_a1 (27 : Int32))) &&& (255 : Int32)); (if v249 = (0 : Int32) then (let v258 : Int32 := (((own_get vs_a0 (28 : Int32)) ^^^ (own_get vs_a1 (28 : Int32))) &&& (255 : Int32)); (if v258 = (0 : Int32) then (let v267 : Int32 := (((own_get vs_a0 (29 : Int32)) ^^^ (own_get vs_a1 (29 : Int32))) &&& (255 : Int32)); (if v267 = (0 : Int32) then (let v276 : Int32 := (((own_get vs_a0 (30 : Int32)) ^^^ (own_get vs_a1 (30 : Int32))) &&& (255 : Int32)); (if v276 = (0 : Int32) then (let v285 : Int32 := (((own_get vs_a0 (31 : Int32)) ^^^ (own_get vs_a1 (31 : Int32))) &&& (255 : Int32)); (if v285 = (0 : Int32) then (-1 : Int32) else (((8 : Int32) - (f3 v285)) + (23 : Int32)))) else (((16 : Int32) - (f3 v276)) + (23 : Int32)))) else (((24 : Int32) - (f3 v267)) + (23 : Int32)))) else (((32 : Int32) - (f3 v258)) + (23 : Int32)))) else (((40 : Int32) - (f3 v249)) + (23 : Int32)))) else (((48 : Int32) - (f3 v240)) + (23 : Int32)))) else (((56 : Int32) - (f3 v231)) + (23 : Int32)))) else (((64 : Int32) - (f3 v222)) + (23 : Int32)))) else (((72 : Int32) - (f3 v213)) + (23 : Int32)))) else (((80 : Int32) - (f3 v204)) + (23 : Int32)))) else (((88 : Int32) - (f3 v195)) + (23 : Int32)))) else (((96 : Int32) - (f3 v186)) + (23 : Int32)))) else (((104 : Int32) - (f3 v177)) + (23 : Int32)))) else (((112 : Int32) - (f3 v168)) + (23 : Int32)))) else (((120 : Int32) - (f3 v159)) + (23 : Int32)))) else (((128 : Int32) - (f3 v150)) + (23 : Int32)))) else (((136 : Int32) - (f3 v141)) + (23 : Int32)))) else (((144 : Int32) - (f3 v132)) + (23 : Int32)))) else (((152 : Int32) - (f3 v123)) + (23 : Int32)))) else (((160 : Int32) - (f3 v114)) + (23 : Int32)))) else (((168 : Int32) - (f3 v105)) + (23 : Int32)))) else (((176 : Int32) - (f3 v96)) + (23 : Int32)))) else (((184 : Int32) - (f3 v87)) + (23 : Int32)))) else (((192 : Int32) - (f3 v78)) + (23 : Int32)))) else (((200 : Int32) - (f3 v69)) + (23 : Int32)))) else (((208 : Int32) - (f3 v60)) + (23 : Int32)))) else (((216 : Int32) - (f3 v51)) + (23 : Int32)))) else (((224 : Int32) - (f3 v42)) + (23 : Int32)))) else (((232 : Int32) - (f3 v33)) + (23 : Int32)))) else (((240 : Int32) - (f3 v24)) + (23 : Int32)))) else (((248 : Int32) - (f3 v15)) + (23 : Int32)))) else (((256 : Int32) - (f3 v6)) + (23 : Int32))))
def Q2 (Z : State) (a0 : Addr) (a1 : Addr) (ka_a0 : ClassId) (vs_a0 : List Int32) (ka_a1 : ClassId) (vs_a1 : List Int32) (h0 : Heap) (n0 : Nat) (v : Option Value) (h : Heap) (L : List Loc) : Prop := v = some (.int (f2 vs_a0 vs_a1)) ∧ Fr n0 L ∧ h = h0
theorem d2_47 : decode prog_85_method_5_code 47 = .ok (.ireturn, 1) := by decide +kernel
theorem d2_39 : decode prog_85_method_5_code 39 = .ok (.ireturn, 1) := by decide +kernel
set_option maxRecDepth 65536 in
set_option maxHeartbeats 40000000 in
theorem rm2 (l : Launch) (Z : State) (aw : Array Value) (hw : ∀ d ∈ tables_1, d.before aw Z = true) (ws : List Jvm.Cond) (a0 : Addr) (a1 : Addr) (ka_a0 : ClassId) (vs_a0 : List Int32) (ka_a1 : ClassId) (vs_a1 : List Int32) (h0 : Heap) (n0 : Nat) (Z0 : n0 ≤ h0.size) (V_a0 : Arv Z h0 a0 ka_a0 .byte (32 : Int32) (List.map Value.int vs_a0) (.int (0 : Int32))) (V_a1 : Arv Z h0 a1 ka_a1 .byte (32 : Int32) (List.map Value.int vs_a1) (.int (0 : Int32))) :
    MetFree l (⟨"com/example/hopwise/hopwise/node/Distance", "highestBit", "([B[B)I"⟩ : MethodName) (head1 (Jvm.Cond.code (⟨"com/example/hopwise/hopwise/node/Distance", "highestBit", "([B[B)I"⟩ : MethodName) prog_85_method_5_code 4 (some .int) :: ws) ({ frames := 1, cells := 0, slots := 0, locals := 14 } : Room)) (fun a U => a = #[(.ref a0), (.ref a1)] ∧ Z.Warmed39 U.vm ∧ U.heap = h0) (fun _ _ _ _ _ => True) (fun _ U o U' => ∃ v L, o = .returned v ∧ Q2 Z a0 a1 ka_a0 vs_a0 ka_a1 vs_a1 h0 n0 v U'.heap L ∧ FrameEnd U o U' L ({ frames := 1, cells := 0, slots := 0, locals := 14 } : Room).cells ({ frames := 1, cells := 0, slots := 0, locals := 14 } : Room).slots) := by
  refine MetFree.of_bodySF (plainFor_of_name pn_0) hisR ?_
  intro p e s m args below meth c s₁ Bd hml0 hP hK
  obtain ⟨rfl, hZ, hh⟩ := hP
  have hx := Bd.exec
  have hby := Bd.bytes
  have hml : c.maxLocals = 4 := hml0
  have hown : s.vm.findClass "com/example/hopwise/hopwise/node/Distance" = some m.cls := findClass_of_methodNamed Bd.named
  have hnm := (name_of_methodNamed Bd.named Bd.method).1
  have X0 : Stand p l e ({ frames := 1, cells := 0, slots := 0, locals := 14 } : Room) s m #[(.ref a0), (.ref a1)] below meth c s₁ [] 0 0 := Stand.of_body Bd
  have e0 : s₁.heap = h0 := by rw [← hh, Bd.state]; rfl
  have N0 := Fr.nil n0
  have pre0 : ∀ t, Steps p.tables e below (s₁.setTop (mkF m 0 #[.val (.ref a0), .val (.ref a1), .unset, .unset] [])) t → Steps p.tables e below (s₁.setTop (entryFrame m #[(.ref a0), (.ref a1)] 4)) t := fun t k => castTop (ef_2 m a0 a1) k
  have pre1 : ∀ t, Steps p.tables e below (s₁.setTop (mkF m 10 #[.val (.ref a0), .val (.ref a1), .val (.int (0 : Int32)), .unset] [(.int (0 : Int32)), (.ref a0)])) t → Steps p.tables e below (s₁.setTop (entryFrame m #[(.ref a0), (.ref a1)] 4)) t := fun t k => pre0 t (by
    show Steps p.tables e below (s₁.setTop (mkF m 0 #[.val (.ref a0), .val (.ref a1), .unset, .unset] [])) _
    refine XS.iconst X0.here hx rfl (hb hby d2_0) ?_
    show Steps p.tables e below (s₁.setTop (mkF m 1 #[.val (.ref a0), .val (.ref a1), .unset, .unset] [(.int (0 : Int32))])) _
    refine XS.istoreN X0.here hx rfl (hb hby d2_1) rfl (l' := #[.val (.ref a0), .val (.ref a1), .val (.int (0 : Int32)), .unset]) rfl ?_
    show Steps p.tables e below (s₁.setTop (mkF m 2 #[.val (.ref a0), .val (.ref a1), .val (.int (0 : Int32)), .unset] [])) _
    refine XS.iloadN X0.here hx rfl (hb hby d2_2) rfl ?_
    show Steps p.tables e below (s₁.setTop (mkF m 3 #[.val (.ref a0), .val (.ref a1), .val (.int (0 : Int32)), .unset] [(.int (0 : Int32))])) _
    refine XS.bipush X0.here hx rfl (hb hby d2_3) ?_
    show Steps p.tables e below (s₁.setTop (mkF m 5 #[.val (.ref a0), .val (.ref a1), .val (.int (0 : Int32)), .unset] [(.int (32 : Int32)), (.int (0 : Int32))])) _
    refine XS.icmpNo X0.here hx rfl (hb hby d2_5) rfl (tlt ((by decide) : (0 : Int32) < (32 : Int32))).2.1 ?_
    show Steps p.tables e below (s₁.setTop (mkF m 8 #[.val (.ref a0), .val (.ref a1), .val (.int (0 : Int32)), .unset] [])) _
    refine XS.aloadN X0.here hx rfl (hb hby d2_8) rfl rfl ?_
    show Steps p.tables e below (s₁.setTop (mkF m 9 #[.val (.ref a0), .val (.ref a1), .val (.int (0 : Int32)), .unset] [(.ref a0)])) _
    refine XS.iloadN X0.here hx rfl (hb hby d2_9) rfl ?_
    exact k)
  obtain ⟨cl2, Ar2, q2, S2, M2, H2, G2⟩ := id V_a0
  have hin2 : ¬ ((0 : Int32) < 0 ∨ cl2.slots.size ≤ ((0 : Int32)).toNatClampNeg) := inb_of S2 ⟨by decide, by decide⟩
  have hat2 : cl2.slots[((0 : Int32)).toNatClampNeg]? = some (.int (own_get vs_a0 (0 : Int32))) := H2.at hin2 (own_getD vs_a0 (0 : Int32))
  have pre3 : ∀ t, Steps p.tables e below (s₁.setTop (mkF m 13 #[.val (.ref a0), .val (.ref a1), .val (.int (0 : Int32)), .unset] [(.int (0 : Int32)), (.ref a1), (.int (own_get vs_a0 (0 : Int32)))])) t → Steps p.tables e below (s₁.setTop (entryFrame m #[(.ref a0), (.ref a1)] 4)) t := fun t k => pre1 t (by
    show Steps p.tables e below (s₁.setTop (mkF m 10 #[.val (.ref a0), .val (.ref a1), .val (.int (0 : Int32)), .unset] [(.int (0 : Int32)), (.ref a0)])) _
    refine X0.baloadBytes hx (j := (0 : Int32)) (v := (.int (own_get vs_a0 (0 : Int32)))) (by rw [e0]; exact Ar2.1) (State.isArrayOf_alike hZ.alike Ar2.2.1) Ar2.2.2 hin2 hat2 (g := (mkF m 10 #[.val (.ref a0), .val (.ref a1), .val (.int (0 : Int32)), .unset] [(.int (0 : Int32)), (.ref a0)])) rfl rfl (hb hby d2_10) _ ?_
    show Steps p.tables e below (s₁.setTop (mkF m 11 #[.val (.ref a0), .val (.ref a1), .val (.int (0 : Int32)), .unset] [(.int (own_get vs_a0 (0 : Int32)))])) _
    refine XS.aloadN X0.here hx rfl (hb hby d2_11) rfl rfl ?_
    show Steps p.tables e below (s₁.setTop (mkF m 12 #[.val (.ref a0), .val (.ref a1), .val (.int (0 : Int32)), .unset] [(.ref a1), (.int (own_get vs_a0 (0 : Int32)))])) _
    refine XS.iloadN X0.here hx rfl (hb hby d2_12) rfl ?_
    exact k)
  obtain ⟨cl4, Ar4, q4, S4, M4, H4, G4⟩ := id V_a1
  have hin4 : ¬ ((0 : Int32) < 0 ∨ cl4.slots.size ≤ ((0 : Int32)).toNatClampNeg) := inb_of S4 ⟨by decide, by decide⟩
  have hat4 : cl4.slots[((0 : Int32)).toNatClampNeg]? = some (.int (own_get vs_a1 (0 : Int32))) := H4.at hin4 (own_getD vs_a1 (0 : Int32))
  have pre5 : ∀ t, Steps p.tables e below (s₁.setTop (mkF m 19 #[.val (.ref a0), .val (.ref a1), .val (.int (0 : Int32)), .unset] [(.int (((own_get vs_a0 (0 : Int32)) ^^^ (own_get vs_a1 (0 : Int32))) &&& (255 : Int32)))])) t → Steps p.tables e below (s₁.setTop (entryFrame m #[(.ref a0), (.ref a1)] 4)) t := fun t k => pre3 t (by
    show Steps p.tables e below (s₁.setTop (mkF m 13 #[.val (.ref a0), .val (.ref a1), .val (.int (0 : Int32)), .unset] [(.int (0 : Int32)), (.ref a1), (.int (own_get vs_a0 (0 : Int32)))])) _
    refine X0.baloadBytes hx (j := (0 : Int32)) (v := (.int (own_get vs_a1 (0 : Int32)))) (by rw [e0]; exact Ar4.1) (State.isArrayOf_alike hZ.alike Ar4.2.1) Ar4.2.2 hin4 hat4 (g := (mkF m 13 #[.val (.ref a0), .val (.ref a1), .val (.int (0 : Int32)), .unset] [(.int (0 : Int32)), (.ref a1), (.int (own_get vs_a0 (0 : Int32)))])) rfl rfl (hb hby d2_13) _ ?_
    show Steps p.tables e below (s₁.setTop (mkF m 14 #[.val (.ref a0), .val (.ref a1), .val (.int (0 : Int32)), .unset] [(.int (own_get vs_a1 (0 : Int32))), (.int (own_get vs_a0 (0 : Int32)))])) _
    refine XS.ixor X0.here hx rfl (hb hby d2_14) rfl ?_
    show Steps p.tables e below (s₁.setTop (mkF m 15 #[.val (.ref a0), .val (.ref a1), .val (.int (0 : Int32)), .unset] [(.int ((own_get vs_a0 (0 : Int32)) ^^^ (own_get vs_a1 (0 : Int32))))])) _
    refine XS.sipush X0.here hx rfl (hb hby d2_15) ?_
    show Steps p.tables e below (s₁.setTop (mkF m 18 #[.val (.ref a0), .val (.ref a1), .val (.int (0 : Int32)), .unset] [(.int (255 : Int32)), (.int ((own_get vs_a0 (0 : Int32)) ^^^ (own_get vs_a1 (0 : Int32))))])) _
    refine XS.iand X0.here hx rfl (hb hby d2_18) rfl ?_
    exact k)
  obtain ⟨v6, hv6⟩ : ∃ z : Int32, z = (((own_get vs_a0 (0 : Int32)) ^^^ (own_get vs_a1 (0 : Int32))) &&& (255 : Int32)) := ⟨_, rfl⟩
  have pre7 : ∀ t, Steps p.tables e below (s₁.setTop (mkF m 19 #[.val (.ref a0), .val (.ref a1), .val (.int (0 : Int32)), .unset] [(.int v6)])) t → Steps p.tables e below (s₁.setTop (entryFrame m #[(.ref a0), (.ref a1)] 4)) t := fun t k => pre5 t (by rw [hv6] at k; exact k)
  have pre8 : ∀ t, Steps p.tables e below (s₁.setTop (mkF m 21 #[.val (.ref a0), .val (.ref a1), .val (.int (0 : Int32)), .val (.int v6)] [(.int v6)])) t → Steps p.tables e below (s₁.setTop (entryFrame m #[(.ref a0), (.ref a1)] 4)) t := fun t k => pre7 t (by
    show Steps p.tables e below (s₁.setTop (mkF m 19 #[.val (.ref a0), .val (.ref a1), .val (.int (0 : Int32)), .unset] [(.int v6)])) _
    refine XS.istoreN X0.here hx rfl (hb hby d2_19) rfl (l' := #[.val (.ref a0), .val (.ref a1), .val (.int (0 : Int32)), .val (.int v6)]) rfl ?_
    show Steps p.tables e below (s₁.setTop (mkF m 20 #[.val (.ref a0), .val (.ref a1), .val (.int (0 : Int32)), .val (.int v6)] [])) _
    refine XS.iloadN X0.here hx rfl (hb hby d2_20) rfl ?_
    exact k)
  by_cases hc9 : v6 = (0 : Int32)
  · have pre10 : ∀ t, Steps p.tables e below (s₁.setTop (mkF m 10 #[.val (.ref a0), .val (.ref a1), .val (.int (1 : Int32)), .val (.int v6)] [(.int (1 : Int32)), (.ref a0)])) t → Steps p.tables e below (s₁.setTop (entryFrame m #[(.ref a0), (.ref a1)] 4)) t := fun t k => pre8 t (by
      show Steps p.tables e below (s₁.setTop (mkF m 21 #[.val (.ref a0), .val (.ref a1), .val (.int (0 : Int32)), .val (.int v6)] [(.int v6)])) _
      refine XS.ifYes X0.here hx rfl (pc0 := 21) (pc' := 40) rfl (hb hby d2_21) rfl ((if0 _ _).trans (teq hc9).1) (by decide) (by decide) ?_
      show Steps p.tables e below (s₁.setTop (mkF m 40 #[.val (.ref a0), .val (.ref a1), .val (.int (0 : Int32)), .val (.int v6)] [])) _
      refine XS.iinc X0.here hx rfl (hb hby d2_40) rfl (l' := #[.val (.ref a0), .val (.ref a1), .val (.int (1 : Int32)), .val (.int v6)]) rfl ?_
      show Steps p.tables e below (s₁.setTop (mkF m 43 #[.val (.ref a0), .val (.ref a1), .val (.int (1 : Int32)), .val (.int v6)] [])) _
      refine XS.goto X0.here hx rfl (pc0 := 43) (pc' := 2) rfl (hb hby d2_43) (by decide) (by decide) ?_
      show Steps p.tables e below (s₁.setTop (mkF m 2 #[.val (.ref a0), .val (.ref a1), .val (.int (1 : Int32)), .val (.int v6)] [])) _
      refine XS.iloadN X0.here hx rfl (hb hby d2_2) rfl ?_
      show Steps p.tables e below (s₁.setTop (mkF m 3 #[.val (.ref a0), .val (.ref a1), .val (.int (1 : Int32)), .val (.int v6)] [(.int (1 : Int32))])) _
      refine XS.bipush X0.here hx rfl (hb hby d2_3) ?_
      show Steps p.tables e below (s₁.setTop (mkF m 5 #[.val (.ref a0), .val (.ref a1), .val (.int (1 : Int32)), .val (.int v6)] [(.int (32 : Int32)), (.int (1 : Int32))])) _
      refine XS.icmpNo X0.here hx rfl (hb hby d2_5) rfl (tlt ((by decide) : (1 : Int32) < (32 : Int32))).2.1 ?_
      show Steps p.tables e below (s₁.setTop (mkF m 8 #[.val (.ref a0), .val (.ref a1), .val (.int (1 : Int32)), .val (.int v6)] [])) _
      refine XS.aloadN X0.here hx rfl (hb hby d2_8) rfl rfl ?_
      show Steps p.tables e below (s₁.setTop (mkF m 9 #[.val (.ref a0), .val (.ref a1), .val (.int (1 : Int32)), .val (.int v6)] [(.ref a0)])) _
      refine XS.iloadN X0.here hx rfl (hb hby d2_9) rfl ?_
      exact k)
    obtain ⟨cl11, Ar11, q11, S11, M11, H11, G11⟩ := id V_a0
    have hin11 : ¬ ((1 : Int32) < 0 ∨ cl11.slots.size ≤ ((1 : Int32)).toNatClampNeg) := inb_of S11 ⟨by decide, by decide⟩
    have hat11 : cl11.slots[((1 : Int32)).toNatClampNeg]? = some (.int (own_get vs_a0 (1 : Int32))) := H11.at hin11 (own_getD vs_a0 (1 : Int32))
    have pre12 : ∀ t, Steps p.tables e below (s₁.setTop (mkF m 13 #[.val (.ref a0), .val (.ref a1), .val (.int (1 : Int32)), .val (.int v6)] [(.int (1 : Int32)), (.ref a1), (.int (own_get vs_a0 (1 : Int32)))])) t → Steps p.tables e below (s₁.setTop (entryFrame m #[(.ref a0), (.ref a1)] 4)) t := fun t k => pre10 t (by
      show Steps p.tables e below (s₁.setTop (mkF m 10 #[.val (.ref a0), .val (.ref a1), .val (.int (1 : Int32)), .val (.int v6)] [(.int (1 : Int32)), (.ref a0)])) _
      refine X0.baloadBytes hx (j := (1 : Int32)) (v := (.int (own_get vs_a0 (1 : Int32)))) (by rw [e0]; exact Ar11.1) (State.isArrayOf_alike hZ.alike Ar11.2.1) Ar11.2.2 hin11 hat11 (g := (mkF m 10 #[.val (.ref a0), .val (.ref a1), .val (.int (1 : Int32)), .val (.int v6)] [(.int (1 : Int32)), (.ref a0)])) rfl rfl (hb hby d2_10) _ ?_
      show Steps p.tables e below (s₁.setTop (mkF m 11 #[.val (.ref a0), .val (.ref a1), .val (.int (1 : Int32)), .val (.int v6)] [(.int (own_get vs_a0 (1 : Int32)))])) _
      refine XS.aloadN X0.here hx rfl (hb hby d2_11) rfl rfl ?_
      show Steps p.tables e below (s₁.setTop (mkF m 12 #[.val (.ref a0), .val (.ref a1), .val (.int (1 : Int32)), .val (.int v6)] [(.ref a1), (.int (own_get vs_a0 (1 : Int32)))])) _
      refine XS.iloadN X0.here hx rfl (hb hby d2_12) rfl ?_
      exact k)
    obtain ⟨cl13, Ar13, q13, S13, M13, H13, G13⟩ := id V_a1
    have hin13 : ¬ ((1 : Int32) < 0 ∨ cl13.slots.size ≤ ((1 : Int32)).toNatClampNeg) := inb_of S13 ⟨by decide, by decide⟩
    have hat13 : cl13.slots[((1 : Int32)).toNatClampNeg]? = some (.int (own_get vs_a1 (1 : Int32))) := H13.at hin13 (own_getD vs_a1 (1 : Int32))
    have pre14 : ∀ t, Steps p.tables e below (s₁.setTop (mkF m 19 #[.val (.ref a0), .val (.ref a1), .val (.int (1 : Int32)), .val (.int v6)] [(.int (((own_get vs_a0 (1 : Int32)) ^^^ (own_get vs_a1 (1 : Int32))) &&& (255 : Int32)))])) t → Steps p.tables e below (s₁.setTop (entryFrame m #[(.ref a0), (.ref a1)] 4)) t := fun t k => pre12 t (by
      show Steps p.tables e below (s₁.setTop (mkF m 13 #[.val (.ref a0), .val (.ref a1), .val (.int (1 : Int32)), .val (.int v6)] [(.int (1 : Int32)), (.ref a1), (.int (own_get vs_a0 (1 : Int32)))])) _
      refine X0.baloadBytes hx (j := (1 : Int32)) (v := (.int (own_get vs_a1 (1 : Int32)))) (by rw [e0]; exact Ar13.1) (State.isArrayOf_alike hZ.alike Ar13.2.1) Ar13.2.2 hin13 hat13 (g := (mkF m 13 #[.val (.ref a0), .val (.ref a1), .val (.int (1 : Int32)), .val (.int v6)] [(.int (1 : Int32)), (.ref a1), (.int (own_get vs_a0 (1 : Int32)))])) rfl rfl (hb hby d2_13) _ ?_
      show Steps p.tables e below (s₁.setTop (mkF m 14 #[.val (.ref a0), .val (.ref a1), .val (.int (1 : Int32)), .val (.int v6)] [(.int (own_get vs_a1 (1 : Int32))), (.int (own_get vs_a0 (1 : Int32)))])) _
      refine XS.ixor X0.here hx rfl (hb hby d2_14) rfl ?_
      show Steps p.tables e below (s₁.setTop (mkF m 15 #[.val (.ref a0), .val (.ref a1), .val (.int (1 : Int32)), .val (.int v6)] [(.int ((own_get vs_a0 (1 : Int32)) ^^^ (own_get vs_a1 (1 : Int32))))])) _
      refine XS.sipush X0.here hx rfl (hb hby d2_15) ?_
      show Steps p.tables e below (s₁.setTop (mkF m 18 #[.val (.ref a0), .val (.ref a1), .val (.int (1 : Int32)), .val (.int v6)] [(.int (255 : Int32)), (.int ((own_get vs_a0 (1 : Int32)) ^^^ (own_get vs_a1 (1 : Int32))))])) _
      refine XS.iand X0.here hx rfl (hb hby d2_18) rfl ?_
      exact k)
    obtain ⟨v15, hv15⟩ : ∃ z : Int32, z = (((own_get vs_a0 (1 : Int32)) ^^^ (own_get vs_a1 (1 : Int32))) &&& (255 : Int32)) := ⟨_, rfl⟩
    have pre16 : ∀ t, Steps p.tables e below (s₁.setTop (mkF m 19 #[.val (.ref a0), .val (.ref a1), .val (.int (1 : Int32)), .val (.int v6)] [(.int v15)])) t → Steps p.tables e below (s₁.setTop (entryFrame m #[(.ref a0), (.ref a1)] 4)) t := fun t k => pre14 t (by rw [hv15] at k; exact k)
    have pre17 : ∀ t, Steps p.tables e below (s₁.setTop (mkF m 21 #[.val (.ref a0), .val (.ref a1), .val (.int (1 : Int32)), .val (.int v15)] [(.int v15)])) t → Steps p.tables e below (s₁.setTop (entryFrame m #[(.ref a0), (.ref a1)] 4)) t := fun t k => pre16 t (by
      show Steps p.tables e below (s₁.setTop (mkF m 19 #[.val (.ref a0), .val (.ref a1), .val (.int (1 : Int32)), .val (.int v6)] [(.int v15)])) _
      refine XS.istoreN X0.here hx rfl (hb hby d2_19) rfl (l' := #[.val (.ref a0), .val (.ref a1), .val (.int (1 : Int32)), .val (.int v15)]) rfl ?_
      show Steps p.tables e below (s₁.setTop (mkF m 20 #[.val (.ref a0), .val (.ref a1), .val (.int (1 : Int32)), .val (.int v15)] [])) _
      refine XS.iloadN X0.here hx rfl (hb hby d2_20) rfl ?_
      exact k)
    by_cases hc18 : v15 = (0 : Int32)
    · have pre19 : ∀ t, Steps p.tables e below (s₁.setTop (mkF m 10 #[.val (.ref a0), .val (.ref a1), .val (.int (2 : Int32)), .val (.int v15)] [(.int (2 : Int32)), (.ref a0)])) t → Steps p.tables e below (s₁.setTop (entryFrame m #[(.ref a0), (.ref a1)] 4)) t := fun t k => pre17 t (by
        show Steps p.tables e below (s₁.setTop (mkF m 21 #[.val (.ref a0), .val (.ref a1), .val (.int (1 : Int32)), .val (.int v15)] [(.int v15)])) _
        refine XS.ifYes X0.here hx rfl (pc0 := 21) (pc' := 40) rfl (hb hby d2_21) rfl ((if0 _ _).trans (teq hc18).1) (by decide) (by decide) ?_
        show Steps p.tables e below (s₁.setTop (mkF m 40 #[.val (.ref a0), .val (.ref a1), .val (.int (1 : Int32)), .val (.int v15)] [])) _
        refine XS.iinc X0.here hx rfl (hb hby d2_40) rfl (l' := #[.val (.ref a0), .val (.ref a1), .val (.int (2 : Int32)), .val (.int v15)]) rfl ?_
        show Steps p.tables e below (s₁.setTop (mkF m 43 #[.val (.ref a0), .val (.ref a1), .val (.int (2 : Int32)), .val (.int v15)] [])) _
        refine XS.goto X0.here hx rfl (pc0 := 43) (pc' := 2) rfl (hb hby d2_43) (by decide) (by decide) ?_
        show Steps p.tables e below (s₁.setTop (mkF m 2 #[.val (.ref a0), .val (.ref a1), .val (.int (2 : Int32)), .val (.int v15)] [])) _
        refine XS.iloadN X0.here hx rfl (hb hby d2_2) rfl ?_
        show Steps p.tables e below (s₁.setTop (mkF m 3 #[.val (.ref a0), .val (.ref a1), .val (.int (2 : Int32)), .val (.int v15)] [(.int (2 : Int32))])) _
        refine XS.bipush X0.here hx rfl (hb hby d2_3) ?_
        show Steps p.tables e below (s₁.setTop (mkF m 5 #[.val (.ref a0), .val (.ref a1), .val (.int (2 : Int32)), .val (.int v15)] [(.int (32 : Int32)), (.int (2 : Int32))])) _
        refine XS.icmpNo X0.here hx rfl (hb hby d2_5) rfl (tlt ((by decide) : (2 : Int32) < (32 : Int32))).2.1 ?_
        show Steps p.tables e below (s₁.setTop (mkF m 8 #[.val (.ref a0), .val (.ref a1), .val (.int (2 : Int32)), .val (.int v15)] [])) _
        refine XS.aloadN X0.here hx rfl (hb hby d2_8) rfl rfl ?_
        show Steps p.tables e below (s₁.setTop (mkF m 9 #[.val (.ref a0), .val (.ref a1), .val (.int (2 : Int32)), .val (.int v15)] [(.ref a0)])) _
        refine XS.iloadN X0.here hx rfl (hb hby d2_9) rfl ?_
        exact k)
      obtain ⟨cl20, Ar20, q20, S20, M20, H20, G20⟩ := id V_a0
      have hin20 : ¬ ((2 : Int32) < 0 ∨ cl20.slots.size ≤ ((2 : Int32)).toNatClampNeg) := inb_of S20 ⟨by decide, by decide⟩
      have hat20 : cl20.slots[((2 : Int32)).toNatClampNeg]? = some (.int (own_get vs_a0 (2 : Int32))) := H20.at hin20 (own_getD vs_a0 (2 : Int32))
      have pre21 : ∀ t, Steps p.tables e below (s₁.setTop (mkF m 13 #[.val (.ref a0), .val (.ref a1), .val (.int (2 : Int32)), .val (.int v15)] [(.int (2 : Int32)), (.ref a1), (.int (own_get vs_a0 (2 : Int32)))])) t → Steps p.tables e below (s₁.setTop (entryFrame m #[(.ref a0), (.ref a1)] 4)) t := fun t k => pre19 t (by
        show Steps p.tables e below (s₁.setTop (mkF m 10 #[.val (.ref a0), .val (.ref a1), .val (.int (2 : Int32)), .val (.int v15)] [(.int (2 : Int32)), (.ref a0)])) _
        refine X0.baloadBytes hx (j := (2 : Int32)) (v := (.int (own_get vs_a0 (2 : Int32)))) (by rw [e0]; exact Ar20.1) (State.isArrayOf_alike hZ.alike Ar20.2.1) Ar20.2.2 hin20 hat20 (g := (mkF m 10 #[.val (.ref a0), .val (.ref a1), .val (.int (2 : Int32)), .val (.int v15)] [(.int (2 : Int32)), (.ref a0)])) rfl rfl (hb hby d2_10) _ ?_
        show Steps p.tables e below (s₁.setTop (mkF m 11 #[.val (.ref a0), .val (.ref a1), .val (.int (2 : Int32)), .val (.int v15)] [(.int (own_get vs_a0 (2 : Int32)))])) _
        refine XS.aloadN X0.here hx rfl (hb hby d2_11) rfl rfl ?_
        show Steps p.tables e below (s₁.setTop (mkF m 12 #[.val (.ref a0), .val (.ref a1), .val (.int (2 : Int32)), .val (.int v15)] [(.ref a1), (.int (own_get vs_a0 (2 : Int32)))])) _
        refine XS.iloadN X0.here hx rfl (hb hby d2_12) rfl ?_
        exact k)
      obtain ⟨cl22, Ar22, q22, S22, M22, H22, G22⟩ := id V_a1
      have hin22 : ¬ ((2 : Int32) < 0 ∨ cl22.slots.size ≤ ((2 : Int32)).toNatClampNeg) := inb_of S22 ⟨by decide, by decide⟩
      have hat22 : cl22.slots[((2 : Int32)).toNatClampNeg]? = some (.int (own_get vs_a1 (2 : Int32))) := H22.at hin22 (own_getD vs_a1 (2 : Int32))
      have pre23 : ∀ t, Steps p.tables e below (s₁.setTop (mkF m 19 #[.val (.ref a0), .val (.ref a1), .val (.int (2 : Int32)), .val (.int v15)] [(.int (((own_get vs_a0 (2 : Int32)) ^^^ (own_get vs_a1 (2 : Int32))) &&& (255 : Int32)))])) t → Steps p.tables e below (s₁.setTop (entryFrame m #[(.ref a0), (.ref a1)] 4)) t := fun t k => pre21 t (by
        show Steps p.tables e below (s₁.setTop (mkF m 13 #[.val (.ref a0), .val (.ref a1), .val (.int (2 : Int32)), .val (.int v15)] [(.int (2 : Int32)), (.ref a1), (.int (own_get vs_a0 (2 : Int32)))])) _
        refine X0.baloadBytes hx (j := (2 : Int32)) (v := (.int (own_get vs_a1 (2 : Int32)))) (by rw [e0]; exact Ar22.1) (State.isArrayOf_alike hZ.alike Ar22.2.1) Ar22.2.2 hin22 hat22 (g := (mkF m 13 #[.val (.ref a0), .val (.ref a1), .val (.int (2 : Int32)), .val (.int v15)] [(.int (2 : Int32)), (.ref a1), (.int (own_get vs_a0 (2 : Int32)))])) rfl rfl (hb hby d2_13) _ ?_
        show Steps p.tables e below (s₁.setTop (mkF m 14 #[.val (.ref a0), .val (.ref a1), .val (.int (2 : Int32)), .val (.int v15)] [(.int (own_get vs_a1 (2 : Int32))), (.int (own_get vs_a0 (2 : Int32)))])) _
        refine XS.ixor X0.here hx rfl (hb hby d2_14) rfl ?_
        show Steps p.tables e below (s₁.setTop (mkF m 15 #[.val (.ref a0), .val (.ref a1), .val (.int (2 : Int32)), .val (.int v15)] [(.int ((own_get vs_a0 (2 : Int32)) ^^^ (own_get vs_a1 (2 : Int32))))])) _
        refine XS.sipush X0.here hx rfl (hb hby d2_15) ?_
        show Steps p.tables e below (s₁.setTop (mkF m 18 #[.val (.ref a0), .val (.ref a1), .val (.int (2 : Int32)), .val (.int v15)] [(.int (255 : Int32)), (.int ((own_get vs_a0 (2 : Int32)) ^^^ (own_get vs_a1 (2 : Int32))))])) _
        refine XS.iand X0.here hx rfl (hb hby d2_18) rfl ?_
        exact k)
      obtain ⟨v24, hv24⟩ : ∃ z : Int32, z = (((own_get vs_a0 (2 : Int32)) ^^^ (own_get vs_a1 (2 : Int32))) &&& (255 : Int32)) := ⟨_, rfl⟩
      have pre25 : ∀ t, Steps p.tables e below (s₁.setTop (mkF m 19 #[.val (.ref a0), .val (.ref a1), .val (.int (2 : Int32)), .val (.int v15)] [(.int v24)])) t → Steps p.tables e below (s₁.setTop (entryFrame m #[(.ref a0), (.ref a1)] 4)) t := fun t k => pre23 t (by rw [hv24] at k; exact k)
      have pre26 : ∀ t, Steps p.tables e below (s₁.setTop (mkF m 21 #[.val (.ref a0), .val (.ref a1), .val (.int (2 : Int32)), .val (.int v24)] [(.int v24)])) t → Steps p.tables e below (s₁.setTop (entryFrame m #[(.ref a0), (.ref a1)] 4)) t := fun t k => pre25 t (by
        show Steps p.tables e below (s₁.setTop (mkF m 19 #[.val (.ref a0), .val (.ref a1), .val (.int (2 : Int32)), .val (.int v15)] [(.int v24)])) _
        refine XS.istoreN X0.here hx rfl (hb hby d2_19) rfl (l' := #[.val (.ref a0), .val (.ref a1), .val (.int (2 : Int32)), .val (.int v24)]) rfl ?_
        show Steps p.tables e below (s₁.setTop (mkF m 20 #[.val (.ref a0), .val (.ref a1), .val (.int (2 : Int32)), .val (.int v24)] [])) _
        refine XS.iloadN X0.here hx rfl (hb hby d2_20) rfl ?_
        exact k)
      by_cases hc27 : v24 = (0 : Int32)
      · have pre28 : ∀ t, Steps p.tables e below (s₁.setTop (mkF m 10 #[.val (.ref a0), .val (.ref a1), .val (.int (3 : Int32)), .val (.int v24)] [(.int (3 : Int32)), (.ref a0)])) t → Steps p.tables e below (s₁.setTop (entryFrame m #[(.ref a0), (.ref a1)] 4)) t := fun t k => pre26 t (by
          show Steps p.tables e below (s₁.setTop (mkF m 21 #[.val (.ref a0), .val (.ref a1), .val (.int (2 : Int32)), .val (.int v24)] [(.int v24)])) _
          refine XS.ifYes X0.here hx rfl (pc0 := 21) (pc' := 40) rfl (hb hby d2_21) rfl ((if0 _ _).trans (teq hc27).1) (by decide) (by decide) ?_
          show Steps p.tables e below (s₁.setTop (mkF m 40 #[.val (.ref a0), .val (.ref a1), .val (.int (2 : Int32)), .val (.int v24)] [])) _
          refine XS.iinc X0.here hx rfl (hb hby d2_40) rfl (l' := #[.val (.ref a0), .val (.ref a1), .val (.int (3 : Int32)), .val (.int v24)]) rfl ?_
          show Steps p.tables e below (s₁.setTop (mkF m 43 #[.val (.ref a0), .val (.ref a1), .val (.int (3 : Int32)), .val (.int v24)] [])) _
          refine XS.goto X0.here hx rfl (pc0 := 43) (pc' := 2) rfl (hb hby d2_43) (by decide) (by decide) ?_
          show Steps p.tables e below (s₁.setTop (mkF m 2 #[.val (.ref a0), .val (.ref a1), .val (.int (3 : Int32)), .val (.int v24)] [])) _
          refine XS.iloadN X0.here hx rfl (hb hby d2_2) rfl ?_
          show Steps p.tables e below (s₁.setTop (mkF m 3 #[.val (.ref a0), .val (.ref a1), .val (.int (3 : Int32)), .val (.int v24)] [(.int (3 : Int32))])) _
          refine XS.bipush X0.here hx rfl (hb hby d2_3) ?_
          show Steps p.tables e below (s₁.setTop (mkF m 5 #[.val (.ref a0), .val (.ref a1), .val (.int (3 : Int32)), .val (.int v24)] [(.int (32 : Int32)), (.int (3 : Int32))])) _
          refine XS.icmpNo X0.here hx rfl (hb hby d2_5) rfl (tlt ((by decide) : (3 : Int32) < (32 : Int32))).2.1 ?_
          show Steps p.tables e below (s₁.setTop (mkF m 8 #[.val (.ref a0), .val (.ref a1), .val (.int (3 : Int32)), .val (.int v24)] [])) _
          refine XS.aloadN X0.here hx rfl (hb hby d2_8) rfl rfl ?_
          show Steps p.tables e below (s₁.setTop (mkF m 9 #[.val (.ref a0), .val (.ref a1), .val (.int (3 : Int32)), .val (.int v24)] [(.ref a0)])) _
          refine XS.iloadN X0.here hx rfl (hb hby d2_9) rfl ?_
          exact k)
        obtain ⟨cl29, Ar29, q29, S29, M29, H29, G29⟩ := id V_a0
        have hin29 : ¬ ((3 : Int32) < 0 ∨ cl29.slots.size ≤ ((3 : Int32)).toNatClampNeg) := inb_of S29 ⟨by decide, by decide⟩
        have hat29 : cl29.slots[((3 : Int32)).toNatClampNeg]? = some (.int (own_get vs_a0 (3 : Int32))) := H29.at hin29 (own_getD vs_a0 (3 : Int32))
        have pre30 : ∀ t, Steps p.tables e below (s₁.setTop (mkF m 13 #[.val (.ref a0), .val (.ref a1), .val (.int (3 : Int32)), .val (.int v24)] [(.int (3 : Int32)), (.ref a1), (.int (own_get vs_a0 (3 : Int32)))])) t → Steps p.tables e below (s₁.setTop (entryFrame m #[(.ref a0), (.ref a1)] 4)) t := fun t k => pre28 t (by
          show Steps p.tables e below (s₁.setTop (mkF m 10 #[.val (.ref a0), .val (.ref a1), .val (.int (3 : Int32)), .val (.int v24)] [(.int (3 : Int32)), (.ref a0)])) _
          refine X0.baloadBytes hx (j := (3 : Int32)) (v := (.int (own_get vs_a0 (3 : Int32)))) (by rw [e0]; exact Ar29.1) (State.isArrayOf_alike hZ.alike Ar29.2.1) Ar29.2.2 hin29 hat29 (g := (mkF m 10 #[.val (.ref a0), .val (.ref a1), .val (.int (3 : Int32)), .val (.int v24)] [(.int (3 : Int32)), (.ref a0)])) rfl rfl (hb hby d2_10) _ ?_
          show Steps p.tables e below (s₁.setTop (mkF m 11 #[.val (.ref a0), .val (.ref a1), .val (.int (3 : Int32)), .val (.int v24)] [(.int (own_get vs_a0 (3 : Int32)))])) _
          refine XS.aloadN X0.here hx rfl (hb hby d2_11) rfl rfl ?_
          show Steps p.tables e below (s₁.setTop (mkF m 12 #[.val (.ref a0), .val (.ref a1), .val (.int (3 : Int32)), .val (.int v24)] [(.ref a1), (.int (own_get vs_a0 (3 : Int32)))])) _
          refine XS.iloadN X0.here hx rfl (hb hby d2_12) rfl ?_
          exact k)
        obtain ⟨cl31, Ar31, q31, S31, M31, H31, G31⟩ := id V_a1
        have hin31 : ¬ ((3 : Int32) < 0 ∨ cl31.slots.size ≤ ((3 : Int32)).toNatClampNeg) := inb_of S31 ⟨by decide, by decide⟩
        have hat31 : cl31.slots[((3 : Int32)).toNatClampNeg]? = some (.int (own_get vs_a1 (3 : Int32))) := H31.at hin31 (own_getD vs_a1 (3 : Int32))
        have pre32 : ∀ t, Steps p.tables e below (s₁.setTop (mkF m 19 #[.val (.ref a0), .val (.ref a1), .val (.int (3 : Int32)), .val (.int v24)] [(.int (((own_get vs_a0 (3 : Int32)) ^^^ (own_get vs_a1 (3 : Int32))) &&& (255 : Int32)))])) t → Steps p.tables e below (s₁.setTop (entryFrame m #[(.ref a0), (.ref a1)] 4)) t := fun t k => pre30 t (by
          show Steps p.tables e below (s₁.setTop (mkF m 13 #[.val (.ref a0), .val (.ref a1), .val (.int (3 : Int32)), .val (.int v24)] [(.int (3 : Int32)), (.ref a1), (.int (own_get vs_a0 (3 : Int32)))])) _
          refine X0.baloadBytes hx (j := (3 : Int32)) (v := (.int (own_get vs_a1 (3 : Int32)))) (by rw [e0]; exact Ar31.1) (State.isArrayOf_alike hZ.alike Ar31.2.1) Ar31.2.2 hin31 hat31 (g := (mkF m 13 #[.val (.ref a0), .val (.ref a1), .val (.int (3 : Int32)), .val (.int v24)] [(.int (3 : Int32)), (.ref a1), (.int (own_get vs_a0 (3 : Int32)))])) rfl rfl (hb hby d2_13) _ ?_
          show Steps p.tables e below (s₁.setTop (mkF m 14 #[.val (.ref a0), .val (.ref a1), .val (.int (3 : Int32)), .val (.int v24)] [(.int (own_get vs_a1 (3 : Int32))), (.int (own_get vs_a0 (3 : Int32)))])) _
          refine XS.ixor X0.here hx rfl (hb hby d2_14) rfl ?_
          show Steps p.tables e below (s₁.setTop (mkF m 15 #[.val (.ref a0), .val (.ref a1), .val (.int (3 : Int32)), .val (.int v24)] [(.int ((own_get vs_a0 (3 : Int32)) ^^^ (own_get vs_a1 (3 : Int32))))])) _
          refine XS.sipush X0.here hx rfl (hb hby d2_15) ?_
          show Steps p.tables e below (s₁.setTop (mkF m 18 #[.val (.ref a0), .val (.ref a1), .val (.int (3 : Int32)), .val (.int v24)] [(.int (255 : Int32)), (.int ((own_get vs_a0 (3 : Int32)) ^^^ (own_get vs_a1 (3 : Int32))))])) _
          refine XS.iand X0.here hx rfl (hb hby d2_18) rfl ?_
          exact k)
        obtain ⟨v33, hv33⟩ : ∃ z : Int32, z = (((own_get vs_a0 (3 : Int32)) ^^^ (own_get vs_a1 (3 : Int32))) &&& (255 : Int32)) := ⟨_, rfl⟩
        have pre34 : ∀ t, Steps p.tables e below (s₁.setTop (mkF m 19 #[.val (.ref a0), .val (.ref a1), .val (.int (3 : Int32)), .val (.int v24)] [(.int v33)])) t → Steps p.tables e below (s₁.setTop (entryFrame m #[(.ref a0), (.ref a1)] 4)) t := fun t k => pre32 t (by rw [hv33] at k; exact k)
        have pre35 : ∀ t, Steps p.tables e below (s₁.setTop (mkF m 21 #[.val (.ref a0), .val (.ref a1), .val (.int (3 : Int32)), .val (.int v33)] [(.int v33)])) t → Steps p.tables e below (s₁.setTop (entryFrame m #[(.ref a0), (.ref a1)] 4)) t := fun t k => pre34 t (by
          show Steps p.tables e below (s₁.setTop (mkF m 19 #[.val (.ref a0), .val (.ref a1), .val (.int (3 : Int32)), .val (.int v24)] [(.int v33)])) _
          refine XS.istoreN X0.here hx rfl (hb hby d2_19) rfl (l' := #[.val (.ref a0), .val (.ref a1), .val (.int (3 : Int32)), .val (.int v33)]) rfl ?_
          show Steps p.tables e below (s₁.setTop (mkF m 20 #[.val (.ref a0), .val (.ref a1), .val (.int (3 : Int32)), .val (.int v33)] [])) _
          refine XS.iloadN X0.here hx rfl (hb hby d2_20) rfl ?_
          exact k)
        by_cases hc36 : v33 = (0 : Int32)
        · have pre37 : ∀ t, Steps p.tables e below (s₁.setTop (mkF m 10 #[.val (.ref a0), .val (.ref a1), .val (.int (4 : Int32)), .val (.int v33)] [(.int (4 : Int32)), (.ref a0)])) t → Steps p.tables e below (s₁.setTop (entryFrame m #[(.ref a0), (.ref a1)] 4)) t := fun t k => pre35 t (by
            show Steps p.tables e below (s₁.setTop (mkF m 21 #[.val (.ref a0), .val (.ref a1), .val (.int (3 : Int32)), .val (.int v33)] [(.int v33)])) _
            refine XS.ifYes X0.here hx rfl (pc0 := 21) (pc' := 40) rfl (hb hby d2_21) rfl ((if0 _ _).trans (teq hc36).1) (by decide) (by decide) ?_
            show Steps p.tables e below (s₁.setTop (mkF m 40 #[.val (.ref a0), .val (.ref a1), .val (.int (3 : Int32)), .val (.int v33)] [])) _
            refine XS.iinc X0.here hx rfl (hb hby d2_40) rfl (l' := #[.val (.ref a0), .val (.ref a1), .val (.int (4 : Int32)), .val (.int v33)]) rfl ?_
            show Steps p.tables e below (s₁.setTop (mkF m 43 #[.val (.ref a0), .val (.ref a1), .val (.int (4 : Int32)), .val (.int v33)] [])) _
            refine XS.goto X0.here hx rfl (pc0 := 43) (pc' := 2) rfl (hb hby d2_43) (by decide) (by decide) ?_
            show Steps p.tables e below (s₁.setTop (mkF m 2 #[.val (.ref a0), .val (.ref a1), .val (.int (4 : Int32)), .val (.int v33)] [])) _
            refine XS.iloadN X0.here hx rfl (hb hby d2_2) rfl ?_
            show Steps p.tables e below (s₁.setTop (mkF m 3 #[.val (.ref a0), .val (.ref a1), .val (.int (4 : Int32)), .val (.int v33)] [(.int (4 : Int32))])) _
            refine XS.bipush X0.here hx rfl (hb hby d2_3) ?_
            show Steps p.tables e below (s₁.setTop (mkF m 5 #[.val (.ref a0), .val (.ref a1), .val (.int (4 : Int32)), .val (.int v33)] [(.int (32 : Int32)), (.int (4 : Int32))])) _
            refine XS.icmpNo X0.here hx rfl (hb hby d2_5) rfl (tlt ((by decide) : (4 : Int32) < (32 : Int32))).2.1 ?_
            show Steps p.tables e below (s₁.setTop (mkF m 8 #[.val (.ref a0), .val (.ref a1), .val (.int (4 : Int32)), .val (.int v33)] [])) _
            refine XS.aloadN X0.here hx rfl (hb hby d2_8) rfl rfl ?_
            show Steps p.tables e below (s₁.setTop (mkF m 9 #[.val (.ref a0), .val (.ref a1), .val (.int (4 : Int32)), .val (.int v33)] [(.ref a0)])) _
            refine XS.iloadN X0.here hx rfl (hb hby d2_9) rfl ?_
            exact k)
          obtain ⟨cl38, Ar38, q38, S38, M38, H38, G38⟩ := id V_a0
          have hin38 : ¬ ((4 : Int32) < 0 ∨ cl38.slots.size ≤ ((4 : Int32)).toNatClampNeg) := inb_of S38 ⟨by decide, by decide⟩
          have hat38 : cl38.slots[((4 : Int32)).toNatClampNeg]? = some (.int (own_get vs_a0 (4 : Int32))) := H38.at hin38 (own_getD vs_a0 (4 : Int32))
          have pre39 : ∀ t, Steps p.tables e below (s₁.setTop (mkF m 13 #[.val (.ref a0), .val (.ref a1), .val (.int (4 : Int32)), .val (.int v33)] [(.int (4 : Int32)), (.ref a1), (.int (own_get vs_a0 (4 : Int32)))])) t → Steps p.tables e below (s₁.setTop (entryFrame m #[(.ref a0), (.ref a1)] 4)) t := fun t k => pre37 t (by
            show Steps p.tables e below (s₁.setTop (mkF m 10 #[.val (.ref a0), .val (.ref a1), .val (.int (4 : Int32)), .val (.int v33)] [(.int (4 : Int32)), (.ref a0)])) _
            refine X0.baloadBytes hx (j := (4 : Int32)) (v := (.int (own_get vs_a0 (4 : Int32)))) (by rw [e0]; exact Ar38.1) (State.isArrayOf_alike hZ.alike Ar38.2.1) Ar38.2.2 hin38 hat38 (g := (mkF m 10 #[.val (.ref a0), .val (.ref a1), .val (.int (4 : Int32)), .val (.int v33)] [(.int (4 : Int32)), (.ref a0)])) rfl rfl (hb hby d2_10) _ ?_
            show Steps p.tables e below (s₁.setTop (mkF m 11 #[.val (.ref a0), .val (.ref a1), .val (.int (4 : Int32)), .val (.int v33)] [(.int (own_get vs_a0 (4 : Int32)))])) _
            refine XS.aloadN X0.here hx rfl (hb hby d2_11) rfl rfl ?_
            show Steps p.tables e below (s₁.setTop (mkF m 12 #[.val (.ref a0), .val (.ref a1), .val (.int (4 : Int32)), .val (.int v33)] [(.ref a1), (.int (own_get vs_a0 (4 : Int32)))])) _
            refine XS.iloadN X0.here hx rfl (hb hby d2_12) rfl ?_
            exact k)
          obtain ⟨cl40, Ar40, q40, S40, M40, H40, G40⟩ := id V_a1
          have hin40 : ¬ ((4 : Int32) < 0 ∨ cl40.slots.size ≤ ((4 : Int32)).toNatClampNeg) := inb_of S40 ⟨by decide, by decide⟩
          have hat40 : cl40.slots[((4 : Int32)).toNatClampNeg]? = some (.int (own_get vs_a1 (4 : Int32))) := H40.at hin40 (own_getD vs_a1 (4 : Int32))
          have pre41 : ∀ t, Steps p.tables e below (s₁.setTop (mkF m 19 #[.val (.ref a0), .val (.ref a1), .val (.int (4 : Int32)), .val (.int v33)] [(.int (((own_get vs_a0 (4 : Int32)) ^^^ (own_get vs_a1 (4 : Int32))) &&& (255 : Int32)))])) t → Steps p.tables e below (s₁.setTop (entryFrame m #[(.ref a0), (.ref a1)] 4)) t := fun t k => pre39 t (by
            show Steps p.tables e below (s₁.setTop (mkF m 13 #[.val (.ref a0), .val (.ref a1), .val (.int (4 : Int32)), .val (.int v33)] [(.int (4 : Int32)), (.ref a1), (.int (own_get vs_a0 (4 : Int32)))])) _
            refine X0.baloadBytes hx (j := (4 : Int32)) (v := (.int (own_get vs_a1 (4 : Int32)))) (by rw [e0]; exact Ar40.1) (State.isArrayOf_alike hZ.alike Ar40.2.1) Ar40.2.2 hin40 hat40 (g := (mkF m 13 #[.val (.ref a0), .val (.ref a1), .val (.int (4 : Int32)), .val (.int v33)] [(.int (4 : Int32)), (.ref a1), (.int (own_get vs_a0 (4 : Int32)))])) rfl rfl (hb hby d2_13) _ ?_
            show Steps p.tables e below (s₁.setTop (mkF m 14 #[.val (.ref a0), .val (.ref a1), .val (.int (4 : Int32)), .val (.int v33)] [(.int (own_get vs_a1 (4 : Int32))), (.int (own_get vs_a0 (4 : Int32)))])) _
            refine XS.ixor X0.here hx rfl (hb hby d2_14) rfl ?_
            show Steps p.tables e below (s₁.setTop (mkF m 15 #[.val (.ref a0), .val (.ref a1), .val (.int (4 : Int32)), .val (.int v33)] [(.int ((own_get vs_a0 (4 : Int32)) ^^^ (own_get vs_a1 (4 : Int32))))])) _
            refine XS.sipush X0.here hx rfl (hb hby d2_15) ?_
            show Steps p.tables e below (s₁.setTop (mkF m 18 #[.val (.ref a0), .val (.ref a1), .val (.int (4 : Int32)), .val (.int v33)] [(.int (255 : Int32)), (.int ((own_get vs_a0 (4 : Int32)) ^^^ (own_get vs_a1 (4 : Int32))))])) _
            refine XS.iand X0.here hx rfl (hb hby d2_18) rfl ?_
            exact k)
          obtain ⟨v42, hv42⟩ : ∃ z : Int32, z = (((own_get vs_a0 (4 : Int32)) ^^^ (own_get vs_a1 (4 : Int32))) &&& (255 : Int32)) := ⟨_, rfl⟩
          have pre43 : ∀ t, Steps p.tables e below (s₁.setTop (mkF m 19 #[.val (.ref a0), .val (.ref a1), .val (.int (4 : Int32)), .val (.int v33)] [(.int v42)])) t → Steps p.tables e below (s₁.setTop (entryFrame m #[(.ref a0), (.ref a1)] 4)) t := fun t k => pre41 t (by rw [hv42] at k; exact k)
          have pre44 : ∀ t, Steps p.tables e below (s₁.setTop (mkF m 21 #[.val (.ref a0), .val (.ref a1), .val (.int (4 : Int32)), .val (.int v42)] [(.int v42)])) t → Steps p.tables e below (s₁.setTop (entryFrame m #[(.ref a0), (.ref a1)] 4)) t := fun t k => pre43 t (by
            show Steps p.tables e below (s₁.setTop (mkF m 19 #[.val (.ref a0), .val (.ref a1), .val (.int (4 : Int32)), .val (.int v33)] [(.int v42)])) _
            refine XS.istoreN X0.here hx rfl (hb hby d2_19) rfl (l' := #[.val (.ref a0), .val (.ref a1), .val (.int (4 : Int32)), .val (.int v42)]) rfl ?_
            show Steps p.tables e below (s₁.setTop (mkF m 20 #[.val (.ref a0), .val (.ref a1), .val (.int (4 : Int32)), .val (.int v42)] [])) _
            refine XS.iloadN X0.here hx rfl (hb hby d2_20) rfl ?_
            exact k)
          by_cases hc45 : v42 = (0 : Int32)
          · have pre46 : ∀ t, Steps p.tables e below (s₁.setTop (mkF m 10 #[.val (.ref a0), .val (.ref a1), .val (.int (5 : Int32)), .val (.int v42)] [(.int (5 : Int32)), (.ref a0)])) t → Steps p.tables e below (s₁.setTop (entryFrame m #[(.ref a0), (.ref a1)] 4)) t := fun t k => pre44 t (by
              show Steps p.tables e below (s₁.setTop (mkF m 21 #[.val (.ref a0), .val (.ref a1), .val (.int (4 : Int32)), .val (.int v42)] [(.int v42)])) _
              refine XS.ifYes X0.here hx rfl (pc0 := 21) (pc' := 40) rfl (hb hby d2_21) rfl ((if0 _ _).trans (teq hc45).1) (by decide) (by decide) ?_
              show Steps p.tables e below (s₁.setTop (mkF m 40 #[.val (.ref a0), .val (.ref a1), .val (.int (4 : Int32)), .val (.int v42)] [])) _
              refine XS.iinc X0.here hx rfl (hb hby d2_40) rfl (l' := #[.val (.ref a0), .val (.ref a1), .val (.int (5 : Int32)), .val (.int v42)]) rfl ?_
              show Steps p.tables e below (s₁.setTop (mkF m 43 #[.val (.ref a0), .val (.ref a1), .val (.int (5 : Int32)), .val (.int v42)] [])) _
              refine XS.goto X0.here hx rfl (pc0 := 43) (pc' := 2) rfl (hb hby d2_43) (by decide) (by decide) ?_
              show Steps p.tables e below (s₁.setTop (mkF m 2 #[.val (.ref a0), .val (.ref a1), .val (.int (5 : Int32)), .val (.int v42)] [])) _
              refine XS.iloadN X0.here hx rfl (hb hby d2_2) rfl ?_
              show Steps p.tables e below (s₁.setTop (mkF m 3 #[.val (.ref a0), .val (.ref a1), .val (.int (5 : Int32)), .val (.int v42)] [(.int (5 : Int32))])) _
              refine XS.bipush X0.here hx rfl (hb hby d2_3) ?_
              show Steps p.tables e below (s₁.setTop (mkF m 5 #[.val (.ref a0), .val (.ref a1), .val (.int (5 : Int32)), .val (.int v42)] [(.int (32 : Int32)), (.int (5 : Int32))])) _
              refine XS.icmpNo X0.here hx rfl (hb hby d2_5) rfl (tlt ((by decide) : (5 : Int32) < (32 : Int32))).2.1 ?_
              show Steps p.tables e below (s₁.setTop (mkF m 8 #[.val (.ref a0), .val (.ref a1), .val (.int (5 : Int32)), .val (.int v42)] [])) _
              refine XS.aloadN X0.here hx rfl (hb hby d2_8) rfl rfl ?_
              show Steps p.tables e below (s₁.setTop (mkF m 9 #[.val (.ref a0), .val (.ref a1), .val (.int (5 : Int32)), .val (.int v42)] [(.ref a0)])) _
              refine XS.iloadN X0.here hx rfl (hb hby d2_9) rfl ?_
              exact k)
            obtain ⟨cl47, Ar47, q47, S47, M47, H47, G47⟩ := id V_a0
            have hin47 : ¬ ((5 : Int32) < 0 ∨ cl47.slots.size ≤ ((5 : Int32)).toNatClampNeg) := inb_of S47 ⟨by decide, by decide⟩
            have hat47 : cl47.slots[((5 : Int32)).toNatClampNeg]? = some (.int (own_get vs_a0 (5 : Int32))) := H47.at hin47 (own_getD vs_a0 (5 : Int32))
            have pre48 : ∀ t, Steps p.tables e below (s₁.setTop (mkF m 13 #[.val (.ref a0), .val (.ref a1), .val (.int (5 : Int32)), .val (.int v42)] [(.int (5 : Int32)), (.ref a1), (.int (own_get vs_a0 (5 : Int32)))])) t → Steps p.tables e below (s₁.setTop (entryFrame m #[(.ref a0), (.ref a1)] 4)) t := fun t k => pre46 t (by
              show Steps p.tables e below (s₁.setTop (mkF m 10 #[.val (.ref a0), .val (.ref a1), .val (.int (5 : Int32)), .val (.int v42)] [(.int (5 : Int32)), (.ref a0)])) _
              refine X0.baloadBytes hx (j := (5 : Int32)) (v := (.int (own_get vs_a0 (5 : Int32)))) (by rw [e0]; exact Ar47.1) (State.isArrayOf_alike hZ.alike Ar47.2.1) Ar47.2.2 hin47 hat47 (g := (mkF m 10 #[.val (.ref a0), .val (.ref a1), .val (.int (5 : Int32)), .val (.int v42)] [(.int (5 : Int32)), (.ref a0)])) rfl rfl (hb hby d2_10) _ ?_
              show Steps p.tables e below (s₁.setTop (mkF m 11 #[.val (.ref a0), .val (.ref a1), .val (.int (5 : Int32)), .val (.int v42)] [(.int (own_get vs_a0 (5 : Int32)))])) _
              refine XS.aloadN X0.here hx rfl (hb hby d2_11) rfl rfl ?_
              show Steps p.tables e below (s₁.setTop (mkF m 12 #[.val (.ref a0), .val (.ref a1), .val (.int (5 : Int32)), .val (.int v42)] [(.ref a1), (.int (own_get vs_a0 (5 : Int32)))])) _
              refine XS.iloadN X0.here hx rfl (hb hby d2_12) rfl ?_
              exact k)
            obtain ⟨cl49, Ar49, q49, S49, M49, H49, G49⟩ := id V_a1
            have hin49 : ¬ ((5 : Int32) < 0 ∨ cl49.slots.size ≤ ((5 : Int32)).toNatClampNeg) := inb_of S49 ⟨by decide, by decide⟩
            have hat49 : cl49.slots[((5 : Int32)).toNatClampNeg]? = some (.int (own_get vs_a1 (5 : Int32))) := H49.at hin49 (own_getD vs_a1 (5 : Int32))
            have pre50 : ∀ t, Steps p.tables e below (s₁.setTop (mkF m 19 #[.val (.ref a0), .val (.ref a1), .val (.int (5 : Int32)), .val (.int v42)] [(.int (((own_get vs_a0 (5 : Int32)) ^^^ (own_get vs_a1 (5 : Int32))) &&& (255 : Int32)))])) t → Steps p.tables e below (s₁.setTop (entryFrame m #[(.ref a0), (.ref a1)] 4)) t := fun t k => pre48 t (by
              show Steps p.tables e below (s₁.setTop (mkF m 13 #[.val (.ref a0), .val (.ref a1), .val (.int (5 : Int32)), .val (.int v42)] [(.int (5 : Int32)), (.ref a1), (.int (own_get vs_a0 (5 : Int32)))])) _
              refine X0.baloadBytes hx (j := (5 : Int32)) (v := (.int (own_get vs_a1 (5 : Int32)))) (by rw [e0]; exact Ar49.1) (State.isArrayOf_alike hZ.alike Ar49.2.1) Ar49.2.2 hin49 hat49 (g := (mkF m 13 #[.val (.ref a0), .val (.ref a1), .val (.int (5 : Int32)), .val (.int v42)] [(.int (5 : Int32)), (.ref a1), (.int (own_get vs_a0 (5 : Int32)))])) rfl rfl (hb hby d2_13) _ ?_
              show Steps p.tables e below (s₁.setTop (mkF m 14 #[.val (.ref a0), .val (.ref a1), .val (.int (5 : Int32)), .val (.int v42)] [(.int (own_get vs_a1 (5 : Int32))), (.int (own_get vs_a0 (5 : Int32)))])) _
              refine XS.ixor X0.here hx rfl (hb hby d2_14) rfl ?_
              show Steps p.tables e below (s₁.setTop (mkF m 15 #[.val (.ref a0), .val (.ref a1), .val (.int (5 : Int32)), .val (.int v42)] [(.int ((own_get vs_a0 (5 : Int32)) ^^^ (own_get vs_a1 (5 : Int32))))])) _
              refine XS.sipush X0.here hx rfl (hb hby d2_15) ?_
              show Steps p.tables e below (s₁.setTop (mkF m 18 #[.val (.ref a0), .val (.ref a1), .val (.int (5 : Int32)), .val (.int v42)] [(.int (255 : Int32)), (.int ((own_get vs_a0 (5 : Int32)) ^^^ (own_get vs_a1 (5 : Int32))))])) _
              refine XS.iand X0.here hx rfl (hb hby d2_18) rfl ?_
              exact k)
            obtain ⟨v51, hv51⟩ : ∃ z : Int32, z = (((own_get vs_a0 (5 : Int32)) ^^^ (own_get vs_a1 (5 : Int32))) &&& (255 : Int32)) := ⟨_, rfl⟩
            have pre52 : ∀ t, Steps p.tables e below (s₁.setTop (mkF m 19 #[.val (.ref a0), .val (.ref a1), .val (.int (5 : Int32)), .val (.int v42)] [(.int v51)])) t → Steps p.tables e below (s₁.setTop (entryFrame m #[(.ref a0), (.ref a1)] 4)) t := fun t k => pre50 t (by rw [hv51] at k; exact k)
            have pre53 : ∀ t, Steps p.tables e below (s₁.setTop (mkF m 21 #[.val (.ref a0), .val (.ref a1), .val (.int (5 : Int32)), .val (.int v51)] [(.int v51)])) t → Steps p.tables e below (s₁.setTop (entryFrame m #[(.ref a0), (.ref a1)] 4)) t := fun t k => pre52 t (by
              show Steps p.tables e below (s₁.setTop (mkF m 19 #[.val (.ref a0), .val (.ref a1), .val (.int (5 : Int32)), .val (.int v42)] [(.int v51)])) _
              refine XS.istoreN X0.here hx rfl (hb hby d2_19) rfl (l' := #[.val (.ref a0), .val (.ref a1), .val (.int (5 : Int32)), .val (.int v51)]) rfl ?_
              show Steps p.tables e below (s₁.setTop (mkF m 20 #[.val (.ref a0), .val (.ref a1), .val (.int (5 : Int32)), .val (.int v51)] [])) _
              refine XS.iloadN X0.here hx rfl (hb hby d2_20) rfl ?_
              exact k)
            by_cases hc54 : v51 = (0 : Int32)
            · have pre55 : ∀ t, Steps p.tables e below (s₁.setTop (mkF m 10 #[.val (.ref a0), .val (.ref a1), .val (.int (6 : Int32)), .val (.int v51)] [(.int (6 : Int32)), (.ref a0)])) t → Steps p.tables e below (s₁.setTop (entryFrame m #[(.ref a0), (.ref a1)] 4)) t := fun t k => pre53 t (by
                show Steps p.tables e below (s₁.setTop (mkF m 21 #[.val (.ref a0), .val (.ref a1), .val (.int (5 : Int32)), .val (.int v51)] [(.int v51)])) _
                refine XS.ifYes X0.here hx rfl (pc0 := 21) (pc' := 40) rfl (hb hby d2_21) rfl ((if0 _ _).trans (teq hc54).1) (by decide) (by decide) ?_
                show Steps p.tables e below (s₁.setTop (mkF m 40 #[.val (.ref a0), .val (.ref a1), .val (.int (5 : Int32)), .val (.int v51)] [])) _
                refine XS.iinc X0.here hx rfl (hb hby d2_40) rfl (l' := #[.val (.ref a0), .val (.ref a1), .val (.int (6 : Int32)), .val (.int v51)]) rfl ?_
                show Steps p.tables e below (s₁.setTop (mkF m 43 #[.val (.ref a0), .val (.ref a1), .val (.int (6 : Int32)), .val (.int v51)] [])) _
                refine XS.goto X0.here hx rfl (pc0 := 43) (pc' := 2) rfl (hb hby d2_43) (by decide) (by decide) ?_
                show Steps p.tables e below (s₁.setTop (mkF m 2 #[.val (.ref a0), .val (.ref a1), .val (.int (6 : Int32)), .val (.int v51)] [])) _
                refine XS.iloadN X0.here hx rfl (hb hby d2_2) rfl ?_
                show Steps p.tables e below (s₁.setTop (mkF m 3 #[.val (.ref a0), .val (.ref a1), .val (.int (6 : Int32)), .val (.int v51)] [(.int (6 : Int32))])) _
                refine XS.bipush X0.here hx rfl (hb hby d2_3) ?_
                show Steps p.tables e below (s₁.setTop (mkF m 5 #[.val (.ref a0), .val (.ref a1), .val (.int (6 : Int32)), .val (.int v51)] [(.int (32 : Int32)), (.int (6 : Int32))])) _
                refine XS.icmpNo X0.here hx rfl (hb hby d2_5) rfl (tlt ((by decide) : (6 : Int32) < (32 : Int32))).2.1 ?_
                show Steps p.tables e below (s₁.setTop (mkF m 8 #[.val (.ref a0), .val (.ref a1), .val (.int (6 : Int32)), .val (.int v51)] [])) _
                refine XS.aloadN X0.here hx rfl (hb hby d2_8) rfl rfl ?_
                show Steps p.tables e below (s₁.setTop (mkF m 9 #[.val (.ref a0), .val (.ref a1), .val (.int (6 : Int32)), .val (.int v51)] [(.ref a0)])) _
                refine XS.iloadN X0.here hx rfl (hb hby d2_9) rfl ?_
                exact k)
              obtain ⟨cl56, Ar56, q56, S56, M56, H56, G56⟩ := id V_a0
              have hin56 : ¬ ((6 : Int32) < 0 ∨ cl56.slots.size ≤ ((6 : Int32)).toNatClampNeg) := inb_of S56 ⟨by decide, by decide⟩
              have hat56 : cl56.slots[((6 : Int32)).toNatClampNeg]? = some (.int (own_get vs_a0 (6 : Int32))) := H56.at hin56 (own_getD vs_a0 (6 : Int32))
              have pre57 : ∀ t, Steps p.tables e below (s₁.setTop (mkF m 13 #[.val (.ref a0), .val (.ref a1), .val (.int (6 : Int32)), .val (.int v51)] [(.int (6 : Int32)), (.ref a1), (.int (own_get vs_a0 (6 : Int32)))])) t → Steps p.tables e below (s₁.setTop (entryFrame m #[(.ref a0), (.ref a1)] 4)) t := fun t k => pre55 t (by
                show Steps p.tables e below (s₁.setTop (mkF m 10 #[.val (.ref a0), .val (.ref a1), .val (.int (6 : Int32)), .val (.int v51)] [(.int (6 : Int32)), (.ref a0)])) _
                refine X0.baloadBytes hx (j := (6 : Int32)) (v := (.int (own_get vs_a0 (6 : Int32)))) (by rw [e0]; exact Ar56.1) (State.isArrayOf_alike hZ.alike Ar56.2.1) Ar56.2.2 hin56 hat56 (g := (mkF m 10 #[.val (.ref a0), .val (.ref a1), .val (.int (6 : Int32)), .val (.int v51)] [(.int (6 : Int32)), (.ref a0)])) rfl rfl (hb hby d2_10) _ ?_
                show Steps p.tables e below (s₁.setTop (mkF m 11 #[.val (.ref a0), .val (.ref a1), .val (.int (6 : Int32)), .val (.int v51)] [(.int (own_get vs_a0 (6 : Int32)))])) _
                refine XS.aloadN X0.here hx rfl (hb hby d2_11) rfl rfl ?_
                show Steps p.tables e below (s₁.setTop (mkF m 12 #[.val (.ref a0), .val (.ref a1), .val (.int (6 : Int32)), .val (.int v51)] [(.ref a1), (.int (own_get vs_a0 (6 : Int32)))])) _
                refine XS.iloadN X0.here hx rfl (hb hby d2_12) rfl ?_
                exact k)
              obtain ⟨cl58, Ar58, q58, S58, M58, H58, G58⟩ := id V_a1
              have hin58 : ¬ ((6 : Int32) < 0 ∨ cl58.slots.size ≤ ((6 : Int32)).toNatClampNeg) := inb_of S58 ⟨by decide, by decide⟩
              have hat58 : cl58.slots[((6 : Int32)).toNatClampNeg]? = some (.int (own_get vs_a1 (6 : Int32))) := H58.at hin58 (own_getD vs_a1 (6 : Int32))
              have pre59 : ∀ t, Steps p.tables e below (s₁.setTop (mkF m 19 #[.val (.ref a0), .val (.ref a1), .val (.int (6 : Int32)), .val (.int v51)] [(.int (((own_get vs_a0 (6 : Int32)) ^^^ (own_get vs_a1 (6 : Int32))) &&& (255 : Int32)))])) t → Steps p.tables e below (s₁.setTop (entryFrame m #[(.ref a0), (.ref a1)] 4)) t := fun t k => pre57 t (by
                show Steps p.tables e below (s₁.setTop (mkF m 13 #[.val (.ref a0), .val (.ref a1), .val (.int (6 : Int32)), .val (.int v51)] [(.int (6 : Int32)), (.ref a1), (.int (own_get vs_a0 (6 : Int32)))])) _
                refine X0.baloadBytes hx (j := (6 : Int32)) (v := (.int (own_get vs_a1 (6 : Int32)))) (by rw [e0]; exact Ar58.1) (State.isArrayOf_alike hZ.alike Ar58.2.1) Ar58.2.2 hin58 hat58 (g := (mkF m 13 #[.val (.ref a0), .val (.ref a1), .val (.int (6 : Int32)), .val (.int v51)] [(.int (6 : Int32)), (.ref a1), (.int (own_get vs_a0 (6 : Int32)))])) rfl rfl (hb hby d2_13) _ ?_
                show Steps p.tables e below (s₁.setTop (mkF m 14 #[.val (.ref a0), .val (.ref a1), .val (.int (6 : Int32)), .val (.int v51)] [(.int (own_get vs_a1 (6 : Int32))), (.int (own_get vs_a0 (6 : Int32)))])) _
                refine XS.ixor X0.here hx rfl (hb hby d2_14) rfl ?_
                show Steps p.tables e below (s₁.setTop (mkF m 15 #[.val (.ref a0), .val (.ref a1), .val (.int (6 : Int32)), .val (.int v51)] [(.int ((own_get vs_a0 (6 : Int32)) ^^^ (own_get vs_a1 (6 : Int32))))])) _
                refine XS.sipush X0.here hx rfl (hb hby d2_15) ?_
                show Steps p.tables e below (s₁.setTop (mkF m 18 #[.val (.ref a0), .val (.ref a1), .val (.int (6 : Int32)), .val (.int v51)] [(.int (255 : Int32)), (.int ((own_get vs_a0 (6 : Int32)) ^^^ (own_get vs_a1 (6 : Int32))))])) _
                refine XS.iand X0.here hx rfl (hb hby d2_18) rfl ?_
                exact k)
              obtain ⟨v60, hv60⟩ : ∃ z : Int32, z = (((own_get vs_a0 (6 : Int32)) ^^^ (own_get vs_a1 (6 : Int32))) &&& (255 : Int32)) := ⟨_, rfl⟩
              have pre61 : ∀ t, Steps p.tables e below (s₁.setTop (mkF m 19 #[.val (.ref a0), .val (.ref a1), .val (.int (6 : Int32)), .val (.int v51)] [(.int v60)])) t → Steps p.tables e below (s₁.setTop (entryFrame m #[(.ref a0), (.ref a1)] 4)) t := fun t k => pre59 t (by rw [hv60] at k; exact k)
              have pre62 : ∀ t, Steps p.tables e below (s₁.setTop (mkF m 21 #[.val (.ref a0), .val (.ref a1), .val (.int (6 : Int32)), .val (.int v60)] [(.int v60)])) t → Steps p.tables e below (s₁.setTop (entryFrame m #[(.ref a0), (.ref a1)] 4)) t := fun t k => pre61 t (by
                show Steps p.tables e below (s₁.setTop (mkF m 19 #[.val (.ref a0), .val (.ref a1), .val (.int (6 : Int32)), .val (.int v51)] [(.int v60)])) _
                refine XS.istoreN X0.here hx rfl (hb hby d2_19) rfl (l' := #[.val (.ref a0), .val (.ref a1), .val (.int (6 : Int32)), .val (.int v60)]) rfl ?_
                show Steps p.tables e below (s₁.setTop (mkF m 20 #[.val (.ref a0), .val (.ref a1), .val (.int (6 : Int32)), .val (.int v60)] [])) _
                refine XS.iloadN X0.here hx rfl (hb hby d2_20) rfl ?_
                exact k)
              by_cases hc63 : v60 = (0 : Int32)
              · have pre64 : ∀ t, Steps p.tables e below (s₁.setTop (mkF m 10 #[.val (.ref a0), .val (.ref a1), .val (.int (7 : Int32)), .val (.int v60)] [(.int (7 : Int32)), (.ref a0)])) t → Steps p.tables e below (s₁.setTop (entryFrame m #[(.ref a0), (.ref a1)] 4)) t := fun t k => pre62 t (by
                  show Steps p.tables e below (s₁.setTop (mkF m 21 #[.val (.ref a0), .val (.ref a1), .val (.int (6 : Int32)), .val (.int v60)] [(.int v60)])) _
                  refine XS.ifYes X0.here hx rfl (pc0 := 21) (pc' := 40) rfl (hb hby d2_21) rfl ((if0 _ _).trans (teq hc63).1) (by decide) (by decide) ?_
                  show Steps p.tables e below (s₁.setTop (mkF m 40 #[.val (.ref a0), .val (.ref a1), .val (.int (6 : Int32)), .val (.int v60)] [])) _
                  refine XS.iinc X0.here hx rfl (hb hby d2_40) rfl (l' := #[.val (.ref a0), .val (.ref a1), .val (.int (7 : Int32)), .val (.int v60)]) rfl ?_
                  show Steps p.tables e below (s₁.setTop (mkF m 43 #[.val (.ref a0), .val (.ref a1), .val (.int (7 : Int32)), .val (.int v60)] [])) _
                  refine XS.goto X0.here hx rfl (pc0 := 43) (pc' := 2) rfl (hb hby d2_43) (by decide) (by decide) ?_
                  show Steps p.tables e below (s₁.setTop (mkF m 2 #[.val (.ref a0), .val (.ref a1), .val (.int (7 : Int32)), .val (.int v60)] [])) _
                  refine XS.iloadN X0.here hx rfl (hb hby d2_2) rfl ?_
                  show Steps p.tables e below (s₁.setTop (mkF m 3 #[.val (.ref a0), .val (.ref a1), .val (.int (7 : Int32)), .val (.int v60)] [(.int (7 : Int32))])) _
                  refine XS.bipush X0.here hx rfl (hb hby d2_3) ?_
                  show Steps p.tables e below (s₁.setTop (mkF m 5 #[.val (.ref a0), .val (.ref a1), .val (.int (7 : Int32)), .val (.int v60)] [(.int (32 : Int32)), (.int (7 : Int32))])) _
                  refine XS.icmpNo X0.here hx rfl (hb hby d2_5) rfl (tlt ((by decide) : (7 : Int32) < (32 : Int32))).2.1 ?_
                  show Steps p.tables e below (s₁.setTop (mkF m 8 #[.val (.ref a0), .val (.ref a1), .val (.int (7 : Int32)), .val (.int v60)] [])) _
                  refine XS.aloadN X0.here hx rfl (hb hby d2_8) rfl rfl ?_
                  show Steps p.tables e below (s₁.setTop (mkF m 9 #[.val (.ref a0), .val (.ref a1), .val (.int (7 : Int32)), .val (.int v60)] [(.ref a0)])) _
                  refine XS.iloadN X0.here hx rfl (hb hby d2_9) rfl ?_
                  exact k)
                obtain ⟨cl65, Ar65, q65, S65, M65, H65, G65⟩ := id V_a0
                have hin65 : ¬ ((7 : Int32) < 0 ∨ cl65.slots.size ≤ ((7 : Int32)).toNatClampNeg) := inb_of S65 ⟨by decide, by decide⟩
                have hat65 : cl65.slots[((7 : Int32)).toNatClampNeg]? = some (.int (own_get vs_a0 (7 : Int32))) := H65.at hin65 (own_getD vs_a0 (7 : Int32))
                have pre66 : ∀ t, Steps p.tables e below (s₁.setTop (mkF m 13 #[.val (.ref a0), .val (.ref a1), .val (.int (7 : Int32)), .val (.int v60)] [(.int (7 : Int32)), (.ref a1), (.int (own_get vs_a0 (7 : Int32)))])) t → Steps p.tables e below (s₁.setTop (entryFrame m #[(.ref a0), (.ref a1)] 4)) t := fun t k => pre64 t (by
                  show Steps p.tables e below (s₁.setTop (mkF m 10 #[.val (.ref a0), .val (.ref a1), .val (.int (7 : Int32)), .val (.int v60)] [(.int (7 : Int32)), (.ref a0)])) _
                  refine X0.baloadBytes hx (j := (7 : Int32)) (v := (.int (own_get vs_a0 (7 : Int32)))) (by rw [e0]; exact Ar65.1) (State.isArrayOf_alike hZ.alike Ar65.2.1) Ar65.2.2 hin65 hat65 (g := (mkF m 10 #[.val (.ref a0), .val (.ref a1), .val (.int (7 : Int32)), .val (.int v60)] [(.int (7 : Int32)), (.ref a0)])) rfl rfl (hb hby d2_10) _ ?_
                  show Steps p.tables e below (s₁.setTop (mkF m 11 #[.val (.ref a0), .val (.ref a1), .val (.int (7 : Int32)), .val (.int v60)] [(.int (own_get vs_a0 (7 : Int32)))])) _
                  refine XS.aloadN X0.here hx rfl (hb hby d2_11) rfl rfl ?_
                  show Steps p.tables e below (s₁.setTop (mkF m 12 #[.val (.ref a0), .val (.ref a1), .val (.int (7 : Int32)), .val (.int v60)] [(.ref a1), (.int (own_get vs_a0 (7 : Int32)))])) _
                  refine XS.iloadN X0.here hx rfl (hb hby d2_12) rfl ?_
                  exact k)
                obtain ⟨cl67, Ar67, q67, S67, M67, H67, G67⟩ := id V_a1
                have hin67 : ¬ ((7 : Int32) < 0 ∨ cl67.slots.size ≤ ((7 : Int32)).toNatClampNeg) := inb_of S67 ⟨by decide, by decide⟩
                have hat67 : cl67.slots[((7 : Int32)).toNatClampNeg]? = some (.int (own_get vs_a1 (7 : Int32))) := H67.at hin67 (own_getD vs_a1 (7 : Int32))
                have pre68 : ∀ t, Steps p.tables e below (s₁.setTop (mkF m 19 #[.val (.ref a0), .val (.ref a1), .val (.int (7 : Int32)), .val (.int v60)] [(.int (((own_get vs_a0 (7 : Int32)) ^^^ (own_get vs_a1 (7 : Int32))) &&& (255 : Int32)))])) t → Steps p.tables e below (s₁.setTop (entryFrame m #[(.ref a0), (.ref a1)] 4)) t := fun t k => pre66 t (by
                  show Steps p.tables e below (s₁.setTop (mkF m 13 #[.val (.ref a0), .val (.ref a1), .val (.int (7 : Int32)), .val (.int v60)] [(.int (7 : Int32)), (.ref a1), (.int (own_get vs_a0 (7 : Int32)))])) _
                  refine X0.baloadBytes hx (j := (7 : Int32)) (v := (.int (own_get vs_a1 (7 : Int32)))) (by rw [e0]; exact Ar67.1) (State.isArrayOf_alike hZ.alike Ar67.2.1) Ar67.2.2 hin67 hat67 (g := (mkF m 13 #[.val (.ref a0), .val (.ref a1), .val (.int (7 : Int32)), .val (.int v60)] [(.int (7 : Int32)), (.ref a1), (.int (own_get vs_a0 (7 : Int32)))])) rfl rfl (hb hby d2_13) _ ?_
                  show Steps p.tables e below (s₁.setTop (mkF m 14 #[.val (.ref a0), .val (.ref a1), .val (.int (7 : Int32)), .val (.int v60)] [(.int (own_get vs_a1 (7 : Int32))), (.int (own_get vs_a0 (7 : Int32)))])) _
                  refine XS.ixor X0.here hx rfl (hb hby d2_14) rfl ?_
                  show Steps p.tables e below (s₁.setTop (mkF m 15 #[.val (.ref a0), .val (.ref a1), .val (.int (7 : Int32)), .val (.int v60)] [(.int ((own_get vs_a0 (7 : Int32)) ^^^ (own_get vs_a1 (7 : Int32))))])) _
                  refine XS.sipush X0.here hx rfl (hb hby d2_15) ?_
                  show Steps p.tables e below (s₁.setTop (mkF m 18 #[.val (.ref a0), .val (.ref a1), .val (.int (7 : Int32)), .val (.int v60)] [(.int (255 : Int32)), (.int ((own_get vs_a0 (7 : Int32)) ^^^ (own_get vs_a1 (7 : Int32))))])) _
                  refine XS.iand X0.here hx rfl (hb hby d2_18) rfl ?_
                  exact k)
                obtain ⟨v69, hv69⟩ : ∃ z : Int32, z = (((own_get vs_a0 (7 : Int32)) ^^^ (own_get vs_a1 (7 : Int32))) &&& (255 : Int32)) := ⟨_, rfl⟩
                have pre70 : ∀ t, Steps p.tables e below (s₁.setTop (mkF m 19 #[.val (.ref a0), .val (.ref a1), .val (.int (7 : Int32)), .val (.int v60)] [(.int v69)])) t → Steps p.tables e below (s₁.setTop (entryFrame m #[(.ref a0), (.ref a1)] 4)) t := fun t k => pre68 t (by rw [hv69] at k; exact k)
                have pre71 : ∀ t, Steps p.tables e below (s₁.setTop (mkF m 21 #[.val (.ref a0), .val (.ref a1), .val (.int (7 : Int32)), .val (.int v69)] [(.int v69)])) t → Steps p.tables e below (s₁.setTop (entryFrame m #[(.ref a0), (.ref a1)] 4)) t := fun t k => pre70 t (by
                  show Steps p.tables e below (s₁.setTop (mkF m 19 #[.val (.ref a0), .val (.ref a1), .val (.int (7 : Int32)), .val (.int v60)] [(.int v69)])) _
                  refine XS.istoreN X0.here hx rfl (hb hby d2_19) rfl (l' := #[.val (.ref a0), .val (.ref a1), .val (.int (7 : Int32)), .val (.int v69)]) rfl ?_
                  show Steps p.tables e below (s₁.setTop (mkF m 20 #[.val (.ref a0), .val (.ref a1), .val (.int (7 : Int32)), .val (.int v69)] [])) _
                  refine XS.iloadN X0.here hx rfl (hb hby d2_20) rfl ?_
                  exact k)
                by_cases hc72 : v69 = (0 : Int32)
                · have pre73 : ∀ t, Steps p.tables e below (s₁.setTop (mkF m 10 #[.val (.ref a0), .val (.ref a1), .val (.int (8 : Int32)), .val (.int v69)] [(.int (8 : Int32)), (.ref a0)])) t → Steps p.tables e below (s₁.setTop (entryFrame m #[(.ref a0), (.ref a1)] 4)) t := fun t k => pre71 t (by
                    show Steps p.tables e below (s₁.setTop (mkF m 21 #[.val (.ref a0), .val (.ref a1), .val (.int (7 : Int32)), .val (.int v69)] [(.int v69)])) _
                    refine XS.ifYes X0.here hx rfl (pc0 := 21) (pc' := 40) rfl (hb hby d2_21) rfl ((if0 _ _).trans (teq hc72).1) (by decide) (by decide) ?_
                    show Steps p.tables e below (s₁.setTop (mkF m 40 #[.val (.ref a0), .val (.ref a1), .val (.int (7 : Int32)), .val (.int v69)] [])) _
                    refine XS.iinc X0.here hx rfl (hb hby d2_40) rfl (l' := #[.val (.ref a0), .val (.ref a1), .val (.int (8 : Int32)), .val (.int v69)]) rfl ?_
                    show Steps p.tables e below (s₁.setTop (mkF m 43 #[.val (.ref a0), .val (.ref a1), .val (.int (8 : Int32)), .val (.int v69)] [])) _
                    refine XS.goto X0.here hx rfl (pc0 := 43) (pc' := 2) rfl (hb hby d2_43) (by decide) (by decide) ?_
                    show Steps p.tables e below (s₁.setTop (mkF m 2 #[.val (.ref a0), .val (.ref a1), .val (.int (8 : Int32)), .val (.int v69)] [])) _
                    refine XS.iloadN X0.here hx rfl (hb hby d2_2) rfl ?_
                    show Steps p.tables e below (s₁.setTop (mkF m 3 #[.val (.ref a0), .val (.ref a1), .val (.int (8 : Int32)), .val (.int v69)] [(.int (8 : Int32))])) _
                    refine XS.bipush X0.here hx rfl (hb hby d2_3) ?_
                    show Steps p.tables e below (s₁.setTop (mkF m 5 #[.val (.ref a0), .val (.ref a1), .val (.int (8 : Int32)), .val (.int v69)] [(.int (32 : Int32)), (.int (8 : Int32))])) _
                    refine XS.icmpNo X0.here hx rfl (hb hby d2_5) rfl (tlt ((by decide) : (8 : Int32) < (32 : Int32))).2.1 ?_
                    show Steps p.tables e below (s₁.setTop (mkF m 8 #[.val (.ref a0), .val (.ref a1), .val (.int (8 : Int32)), .val (.int v69)] [])) _
                    refine XS.aloadN X0.here hx rfl (hb hby d2_8) rfl rfl ?_
                    show Steps p.tables e below (s₁.setTop (mkF m 9 #[.val (.ref a0), .val (.ref a1), .val (.int (8 : Int32)), .val (.int v69)] [(.ref a0)])) _
                    refine XS.iloadN X0.here hx rfl (hb hby d2_9) rfl ?_
                    exact k)
                  obtain ⟨cl74, Ar74, q74, S74, M74, H74, G74⟩ := id V_a0
                  have hin74 : ¬ ((8 : Int32) < 0 ∨ cl74.slots.size ≤ ((8 : Int32)).toNatClampNeg) := inb_of S74 ⟨by decide, by decide⟩
                  have hat74 : cl74.slots[((8 : Int32)).toNatClampNeg]? = some (.int (own_get vs_a0 (8 : Int32))) := H74.at hin74 (own_getD vs_a0 (8 : Int32))
                  have pre75 : ∀ t, Steps p.tables e below (s₁.setTop (mkF m 13 #[.val (.ref a0), .val (.ref a1), .val (.int (8 : Int32)), .val (.int v69)] [(.int (8 : Int32)), (.ref a1), (.int (own_get vs_a0 (8 : Int32)))])) t → Steps p.tables e below (s₁.setTop (entryFrame m #[(.ref a0), (.ref a1)] 4)) t := fun t k => pre73 t (by
                    show Steps p.tables e below (s₁.setTop (mkF m 10 #[.val (.ref a0), .val (.ref a1), .val (.int (8 : Int32)), .val (.int v69)] [(.int (8 : Int32)), (.ref a0)])) _
                    refine X0.baloadBytes hx (j := (8 : Int32)) (v := (.int (own_get vs_a0 (8 : Int32)))) (by rw [e0]; exact Ar74.1) (State.isArrayOf_alike hZ.alike Ar74.2.1) Ar74.2.2 hin74 hat74 (g := (mkF m 10 #[.val (.ref a0), .val (.ref a1), .val (.int (8 : Int32)), .val (.int v69)] [(.int (8 : Int32)), (.ref a0)])) rfl rfl (hb hby d2_10) _ ?_
                    show Steps p.tables e below (s₁.setTop (mkF m 11 #[.val (.ref a0), .val (.ref a1), .val (.int (8 : Int32)), .val (.int v69)] [(.int (own_get vs_a0 (8 : Int32)))])) _
                    refine XS.aloadN X0.here hx rfl (hb hby d2_11) rfl rfl ?_
                    show Steps p.tables e below (s₁.setTop (mkF m 12 #[.val (.ref a0), .val (.ref a1), .val (.int (8 : Int32)), .val (.int v69)] [(.ref a1), (.int (own_get vs_a0 (8 : Int32)))])) _
                    refine XS.iloadN X0.here hx rfl (hb hby d2_12) rfl ?_
                    exact k)
                  obtain ⟨cl76, Ar76, q76, S76, M76, H76, G76⟩ := id V_a1
                  have hin76 : ¬ ((8 : Int32) < 0 ∨ cl76.slots.size ≤ ((8 : Int32)).toNatClampNeg) := inb_of S76 ⟨by decide, by decide⟩
                  have hat76 : cl76.slots[((8 : Int32)).toNatClampNeg]? = some (.int (own_get vs_a1 (8 : Int32))) := H76.at hin76 (own_getD vs_a1 (8 : Int32))
                  have pre77 : ∀ t, Steps p.tables e below (s₁.setTop (mkF m 19 #[.val (.ref a0), .val (.ref a1), .val (.int (8 : Int32)), .val (.int v69)] [(.int (((own_get vs_a0 (8 : Int32)) ^^^ (own_get vs_a1 (8 : Int32))) &&& (255 : Int32)))])) t → Steps p.tables e below (s₁.setTop (entryFrame m #[(.ref a0), (.ref a1)] 4)) t := fun t k => pre75 t (by
                    show Steps p.tables e below (s₁.setTop (mkF m 13 #[.val (.ref a0), .val (.ref a1), .val (.int (8 : Int32)), .val (.int v69)] [(.int (8 : Int32)), (.ref a1), (.int (own_get vs_a0 (8 : Int32)))])) _
                    refine X0.baloadBytes hx (j := (8 : Int32)) (v := (.int (own_get vs_a1 (8 : Int32)))) (by rw [e0]; exact Ar76.1) (State.isArrayOf_alike hZ.alike Ar76.2.1) Ar76.2.2 hin76 hat76 (g := (mkF m 13 #[.val (.ref a0), .val (.ref a1), .val (.int (8 : Int32)), .val (.int v69)] [(.int (8 : Int32)), (.ref a1), (.int (own_get vs_a0 (8 : Int32)))])) rfl rfl (hb hby d2_13) _ ?_
                    show Steps p.tables e below (s₁.setTop (mkF m 14 #[.val (.ref a0), .val (.ref a1), .val (.int (8 : Int32)), .val (.int v69)] [(.int (own_get vs_a1 (8 : Int32))), (.int (own_get vs_a0 (8 : Int32)))])) _
                    refine XS.ixor X0.here hx rfl (hb hby d2_14) rfl ?_
                    show Steps p.tables e below (s₁.setTop (mkF m 15 #[.val (.ref a0), .val (.ref a1), .val (.int (8 : Int32)), .val (.int v69)] [(.int ((own_get vs_a0 (8 : Int32)) ^^^ (own_get vs_a1 (8 : Int32))))])) _
                    refine XS.sipush X0.here hx rfl (hb hby d2_15) ?_
                    show Steps p.tables e below (s₁.setTop (mkF m 18 #[.val (.ref a0), .val (.ref a1), .val (.int (8 : Int32)), .val (.int v69)] [(.int (255 : Int32)), (.int ((own_get vs_a0 (8 : Int32)) ^^^ (own_get vs_a1 (8 : Int32))))])) _
                    refine XS.iand X0.here hx rfl (hb hby d2_18) rfl ?_
                    exact k)
                  obtain ⟨v78, hv78⟩ : ∃ z : Int32, z = (((own_get vs_a0 (8 : Int32)) ^^^ (own_get vs_a1 (8 : Int32))) &&& (255 : Int32)) := ⟨_, rfl⟩
                  have pre79 : ∀ t, Steps p.tables e below (s₁.setTop (mkF m 19 #[.val (.ref a0), .val (.ref a1), .val (.int (8 : Int32)), .val (.int v69)] [(.int v78)])) t → Steps p.tables e below (s₁.setTop (entryFrame m #[(.ref a0), (.ref a1)] 4)) t := fun t k => pre77 t (by rw [hv78] at k; exact k)
                  have pre80 : ∀ t, Steps p.tables e below (s₁.setTop (mkF m 21 #[.val (.ref a0), .val (.ref a1), .val (.int (8 : Int32)), .val (.int v78)] [(.int v78)])) t → Steps p.tables e below (s₁.setTop (entryFrame m #[(.ref a0), (.ref a1)] 4)) t := fun t k => pre79 t (by
                    show Steps p.tables e below (s₁.setTop (mkF m 19 #[.val (.ref a0), .val (.ref a1), .val (.int (8 : Int32)), .val (.int v69)] [(.int v78)])) _
                    refine XS.istoreN X0.here hx rfl (hb hby d2_19) rfl (l' := #[.val (.ref a0), .val (.ref a1), .val (.int (8 : Int32)), .val (.int v78)]) rfl ?_
                    show Steps p.tables e below (s₁.setTop (mkF m 20 #[.val (.ref a0), .val (.ref a1), .val (.int (8 : Int32)), .val (.int v78)] [])) _
                    refine XS.iloadN X0.here hx rfl (hb hby d2_20) rfl ?_
                    exact k)
                  by_cases hc81 : v78 = (0 : Int32)
                  · have pre82 : ∀ t, Steps p.tables e below (s₁.setTop (mkF m 10 #[.val (.ref a0), .val (.ref a1), .val (.int (9 : Int32)), .val (.int v78)] [(.int (9 : Int32)), (.ref a0)])) t → Steps p.tables e below (s₁.setTop (entryFrame m #[(.ref a0), (.ref a1)] 4)) t := fun t k => pre80 t (by
                      show Steps p.tables e below (s₁.setTop (mkF m 21 #[.val (.ref a0), .val (.ref a1), .val (.int (8 : Int32)), .val (.int v78)] [(.int v78)])) _
                      refine XS.ifYes X0.here hx rfl (pc0 := 21) (pc' := 40) rfl (hb hby d2_21) rfl ((if0 _ _).trans (teq hc81).1) (by decide) (by decide) ?_
                      show Steps p.tables e below (s₁.setTop (mkF m 40 #[.val (.ref a0), .val (.ref a1), .val (.int (8 : Int32)), .val (.int v78)] [])) _
                      refine XS.iinc X0.here hx rfl (hb hby d2_40) rfl (l' := #[.val (.ref a0), .val (.ref a1), .val (.int (9 : Int32)), .val (.int v78)]) rfl ?_
                      show Steps p.tables e below (s₁.setTop (mkF m 43 #[.val (.ref a0), .val (.ref a1), .val (.int (9 : Int32)), .val (.int v78)] [])) _
                      refine XS.goto X0.here hx rfl (pc0 := 43) (pc' := 2) rfl (hb hby d2_43) (by decide) (by decide) ?_
                      show Steps p.tables e below (s₁.setTop (mkF m 2 #[.val (.ref a0), .val (.ref a1), .val (.int (9 : Int32)), .val (.int v78)] [])) _
                      refine XS.iloadN X0.here hx rfl (hb hby d2_2) rfl ?_
                      show Steps p.tables e below (s₁.setTop (mkF m 3 #[.val (.ref a0), .val (.ref a1), .val (.int (9 : Int32)), .val (.int v78)] [(.int (9 : Int32))])) _
                      refine XS.bipush X0.here hx rfl (hb hby d2_3) ?_
                      show Steps p.tables e below (s₁.setTop (mkF m 5 #[.val (.ref a0), .val (.ref a1), .val (.int (9 : Int32)), .val (.int v78)] [(.int (32 : Int32)), (.int (9 : Int32))])) _
                      refine XS.icmpNo X0.here hx rfl (hb hby d2_5) rfl (tlt ((by decide) : (9 : Int32) < (32 : Int32))).2.1 ?_
                      show Steps p.tables e below (s₁.setTop (mkF m 8 #[.val (.ref a0), .val (.ref a1), .val (.int (9 : Int32)), .val (.int v78)] [])) _
                      refine XS.aloadN X0.here hx rfl (hb hby d2_8) rfl rfl ?_
                      show Steps p.tables e below (s₁.setTop (mkF m 9 #[.val (.ref a0), .val (.ref a1), .val (.int (9 : Int32)), .val (.int v78)] [(.ref a0)])) _
                      refine XS.iloadN X0.here hx rfl (hb hby d2_9) rfl ?_
                      exact k)
                    obtain ⟨cl83, Ar83, q83, S83, M83, H83, G83⟩ := id V_a0
                    have hin83 : ¬ ((9 : Int32) < 0 ∨ cl83.slots.size ≤ ((9 : Int32)).toNatClampNeg) := inb_of S83 ⟨by decide, by decide⟩
                    have hat83 : cl83.slots[((9 : Int32)).toNatClampNeg]? = some (.int (own_get vs_a0 (9 : Int32))) := H83.at hin83 (own_getD vs_a0 (9 : Int32))
                    have pre84 : ∀ t, Steps p.tables e below (s₁.setTop (mkF m 13 #[.val (.ref a0), .val (.ref a1), .val (.int (9 : Int32)), .val (.int v78)] [(.int (9 : Int32)), (.ref a1), (.int (own_get vs_a0 (9 : Int32)))])) t → Steps p.tables e below (s₁.setTop (entryFrame m #[(.ref a0), (.ref a1)] 4)) t := fun t k => pre82 t (by
                      show Steps p.tables e below (s₁.setTop (mkF m 10 #[.val (.ref a0), .val (.ref a1), .val (.int (9 : Int32)), .val (.int v78)] [(.int (9 : Int32)), (.ref a0)])) _
                      refine X0.baloadBytes hx (j := (9 : Int32)) (v := (.int (own_get vs_a0 (9 : Int32)))) (by rw [e0]; exact Ar83.1) (State.isArrayOf_alike hZ.alike Ar83.2.1) Ar83.2.2 hin83 hat83 (g := (mkF m 10 #[.val (.ref a0), .val (.ref a1), .val (.int (9 : Int32)), .val (.int v78)] [(.int (9 : Int32)), (.ref a0)])) rfl rfl (hb hby d2_10) _ ?_
                      show Steps p.tables e below (s₁.setTop (mkF m 11 #[.val (.ref a0), .val (.ref a1), .val (.int (9 : Int32)), .val (.int v78)] [(.int (own_get vs_a0 (9 : Int32)))])) _
                      refine XS.aloadN X0.here hx rfl (hb hby d2_11) rfl rfl ?_
                      show Steps p.tables e below (s₁.setTop (mkF m 12 #[.val (.ref a0), .val (.ref a1), .val (.int (9 : Int32)), .val (.int v78)] [(.ref a1), (.int (own_get vs_a0 (9 : Int32)))])) _
                      refine XS.iloadN X0.here hx rfl (hb hby d2_12) rfl ?_
                      exact k)
                    obtain ⟨cl85, Ar85, q85, S85, M85, H85, G85⟩ := id V_a1
                    have hin85 : ¬ ((9 : Int32) < 0 ∨ cl85.slots.size ≤ ((9 : Int32)).toNatClampNeg) := inb_of S85 ⟨by decide, by decide⟩
                    have hat85 : cl85.slots[((9 : Int32)).toNatClampNeg]? = some (.int (own_get vs_a1 (9 : Int32))) := H85.at hin85 (own_getD vs_a1 (9 : Int32))
                    have pre86 : ∀ t, Steps p.tables e below (s₁.setTop (mkF m 19 #[.val (.ref a0), .val (.ref a1), .val (.int (9 : Int32)), .val (.int v78)] [(.int (((own_get vs_a0 (9 : Int32)) ^^^ (own_get vs_a1 (9 : Int32))) &&& (255 : Int32)))])) t → Steps p.tables e below (s₁.setTop (entryFrame m #[(.ref a0), (.ref a1)] 4)) t := fun t k => pre84 t (by
                      show Steps p.tables e below (s₁.setTop (mkF m 13 #[.val (.ref a0), .val (.ref a1), .val (.int (9 : Int32)), .val (.int v78)] [(.int (9 : Int32)), (.ref a1), (.int (own_get vs_a0 (9 : Int32)))])) _
                      refine X0.baloadBytes hx (j := (9 : Int32)) (v := (.int (own_get vs_a1 (9 : Int32)))) (by rw [e0]; exact Ar85.1) (State.isArrayOf_alike hZ.alike Ar85.2.1) Ar85.2.2 hin85 hat85 (g := (mkF m 13 #[.val (.ref a0), .val (.ref a1), .val (.int (9 : Int32)), .val (.int v78)] [(.int (9 : Int32)), (.ref a1), (.int (own_get vs_a0 (9 : Int32)))])) rfl rfl (hb hby d2_13) _ ?_
                      show Steps p.tables e below (s₁.setTop (mkF m 14 #[.val (.ref a0), .val (.ref a1), .val (.int (9 : Int32)), .val (.int v78)] [(.int (own_get vs_a1 (9 : Int32))), (.int (own_get vs_a0 (9 : Int32)))])) _
                      refine XS.ixor X0.here hx rfl (hb hby d2_14) rfl ?_
                      show Steps p.tables e below (s₁.setTop (mkF m 15 #[.val (.ref a0), .val (.ref a1), .val (.int (9 : Int32)), .val (.int v78)] [(.int ((own_get vs_a0 (9 : Int32)) ^^^ (own_get vs_a1 (9 : Int32))))])) _
                      refine XS.sipush X0.here hx rfl (hb hby d2_15) ?_
                      show Steps p.tables e below (s₁.setTop (mkF m 18 #[.val (.ref a0), .val (.ref a1), .val (.int (9 : Int32)), .val (.int v78)] [(.int (255 : Int32)), (.int ((own_get vs_a0 (9 : Int32)) ^^^ (own_get vs_a1 (9 : Int32))))])) _
                      refine XS.iand X0.here hx rfl (hb hby d2_18) rfl ?_
                      exact k)
                    obtain ⟨v87, hv87⟩ : ∃ z : Int32, z = (((own_get vs_a0 (9 : Int32)) ^^^ (own_get vs_a1 (9 : Int32))) &&& (255 : Int32)) := ⟨_, rfl⟩
                    have pre88 : ∀ t, Steps p.tables e below (s₁.setTop (mkF m 19 #[.val (.ref a0), .val (.ref a1), .val (.int (9 : Int32)), .val (.int v78)] [(.int v87)])) t → Steps p.tables e below (s₁.setTop (entryFrame m #[(.ref a0), (.ref a1)] 4)) t := fun t k => pre86 t (by rw [hv87] at k; exact k)
                    have pre89 : ∀ t, Steps p.tables e below (s₁.setTop (mkF m 21 #[.val (.ref a0), .val (.ref a1), .val (.int (9 : Int32)), .val (.int v87)] [(.int v87)])) t → Steps p.tables e below (s₁.setTop (entryFrame m #[(.ref a0), (.ref a1)] 4)) t := fun t k => pre88 t (by
                      show Steps p.tables e below (s₁.setTop (mkF m 19 #[.val (.ref a0), .val (.ref a1), .val (.int (9 : Int32)), .val (.int v78)] [(.int v87)])) _
                      refine XS.istoreN X0.here hx rfl (hb hby d2_19) rfl (l' := #[.val (.ref a0), .val (.ref a1), .val (.int (9 : Int32)), .val (.int v87)]) rfl ?_
                      show Steps p.tables e below (s₁.setTop (mkF m 20 #[.val (.ref a0), .val (.ref a1), .val (.int (9 : Int32)), .val (.int v87)] [])) _
                      refine XS.iloadN X0.here hx rfl (hb hby d2_20) rfl ?_
                      exact k)
                    by_cases hc90 : v87 = (0 : Int32)
                    · have pre91 : ∀ t, Steps p.tables e below (s₁.setTop (mkF m 10 #[.val (.ref a0), .val (.ref a1), .val (.int (10 : Int32)), .val (.int v87)] [(.int (10 : Int32)), (.ref a0)])) t → Steps p.tables e below (s₁.setTop (entryFrame m #[(.ref a0), (.ref a1)] 4)) t := fun t k => pre89 t (by
                        show Steps p.tables e below (s₁.setTop (mkF m 21 #[.val (.ref a0), .val (.ref a1), .val (.int (9 : Int32)), .val (.int v87)] [(.int v87)])) _
                        refine XS.ifYes X0.here hx rfl (pc0 := 21) (pc' := 40) rfl (hb hby d2_21) rfl ((if0 _ _).trans (teq hc90).1) (by decide) (by decide) ?_
                        show Steps p.tables e below (s₁.setTop (mkF m 40 #[.val (.ref a0), .val (.ref a1), .val (.int (9 : Int32)), .val (.int v87)] [])) _
                        refine XS.iinc X0.here hx rfl (hb hby d2_40) rfl (l' := #[.val (.ref a0), .val (.ref a1), .val (.int (10 : Int32)), .val (.int v87)]) rfl ?_
                        show Steps p.tables e below (s₁.setTop (mkF m 43 #[.val (.ref a0), .val (.ref a1), .val (.int (10 : Int32)), .val (.int v87)] [])) _
                        refine XS.goto X0.here hx rfl (pc0 := 43) (pc' := 2) rfl (hb hby d2_43) (by decide) (by decide) ?_
                        show Steps p.tables e below (s₁.setTop (mkF m 2 #[.val (.ref a0), .val (.ref a1), .val (.int (10 : Int32)), .val (.int v87)] [])) _
                        refine XS.iloadN X0.here hx rfl (hb hby d2_2) rfl ?_
                        show Steps p.tables e below (s₁.setTop (mkF m 3 #[.val (.ref a0), .val (.ref a1), .val (.int (10 : Int32)), .val (.int v87)] [(.int (10 : Int32))])) _
                        refine XS.bipush X0.here hx rfl (hb hby d2_3) ?_
                        show Steps p.tables e below (s₁.setTop (mkF m 5 #[.val (.ref a0), .val (.ref a1), .val (.int (10 : Int32)), .val (.int v87)] [(.int (32 : Int32)), (.int (10 : Int32))])) _
                        refine XS.icmpNo X0.here hx rfl (hb hby d2_5) rfl (tlt ((by decide) : (10 : Int32) < (32 : Int32))).2.1 ?_
                        show Steps p.tables e below (s₁.setTop (mkF m 8 #[.val (.ref a0), .val (.ref a1), .val (.int (10 : Int32)), .val (.int v87)] [])) _
                        refine XS.aloadN X0.here hx rfl (hb hby d2_8) rfl rfl ?_
                        show Steps p.tables e below (s₁.setTop (mkF m 9 #[.val (.ref a0), .val (.ref a1), .val (.int (10 : Int32)), .val (.int v87)] [(.ref a0)])) _
                        refine XS.iloadN X0.here hx rfl (hb hby d2_9) rfl ?_
                        exact k)
                      obtain ⟨cl92, Ar92, q92, S92, M92, H92, G92⟩ := id V_a0
                      have hin92 : ¬ ((10 : Int32) < 0 ∨ cl92.slots.size ≤ ((10 : Int32)).toNatClampNeg) := inb_of S92 ⟨by decide, by decide⟩
                      have hat92 : cl92.slots[((10 : Int32)).toNatClampNeg]? = some (.int (own_get vs_a0 (10 : Int32))) := H92.at hin92 (own_getD vs_a0 (10 : Int32))
                      have pre93 : ∀ t, Steps p.tables e below (s₁.setTop (mkF m 13 #[.val (.ref a0), .val (.ref a1), .val (.int (10 : Int32)), .val (.int v87)] [(.int (10 : Int32)), (.ref a1), (.int (own_get vs_a0 (10 : Int32)))])) t → Steps p.tables e below (s₁.setTop (entryFrame m #[(.ref a0), (.ref a1)] 4)) t := fun t k => pre91 t (by
                        show Steps p.tables e below (s₁.setTop (mkF m 10 #[.val (.ref a0), .val (.ref a1), .val (.int (10 : Int32)), .val (.int v87)] [(.int (10 : Int32)), (.ref a0)])) _
                        refine X0.baloadBytes hx (j := (10 : Int32)) (v := (.int (own_get vs_a0 (10 : Int32)))) (by rw [e0]; exact Ar92.1) (State.isArrayOf_alike hZ.alike Ar92.2.1) Ar92.2.2 hin92 hat92 (g := (mkF m 10 #[.val (.ref a0), .val (.ref a1), .val (.int (10 : Int32)), .val (.int v87)] [(.int (10 : Int32)), (.ref a0)])) rfl rfl (hb hby d2_10) _ ?_
                        show Steps p.tables e below (s₁.setTop (mkF m 11 #[.val (.ref a0), .val (.ref a1), .val (.int (10 : Int32)), .val (.int v87)] [(.int (own_get vs_a0 (10 : Int32)))])) _
                        refine XS.aloadN X0.here hx rfl (hb hby d2_11) rfl rfl ?_
                        show Steps p.tables e below (s₁.setTop (mkF m 12 #[.val (.ref a0), .val (.ref a1), .val (.int (10 : Int32)), .val (.int v87)] [(.ref a1), (.int (own_get vs_a0 (10 : Int32)))])) _
                        refine XS.iloadN X0.here hx rfl (hb hby d2_12) rfl ?_
                        exact k)
                      obtain ⟨cl94, Ar94, q94, S94, M94, H94, G94⟩ := id V_a1
                      have hin94 : ¬ ((10 : Int32) < 0 ∨ cl94.slots.size ≤ ((10 : Int32)).toNatClampNeg) := inb_of S94 ⟨by decide, by decide⟩
                      have hat94 : cl94.slots[((10 : Int32)).toNatClampNeg]? = some (.int (own_get vs_a1 (10 : Int32))) := H94.at hin94 (own_getD vs_a1 (10 : Int32))
                      have pre95 : ∀ t, Steps p.tables e below (s₁.setTop (mkF m 19 #[.val (.ref a0), .val (.ref a1), .val (.int (10 : Int32)), .val (.int v87)] [(.int (((own_get vs_a0 (10 : Int32)) ^^^ (own_get vs_a1 (10 : Int32))) &&& (255 : Int32)))])) t → Steps p.tables e below (s₁.setTop (entryFrame m #[(.ref a0), (.ref a1)] 4)) t := fun t k => pre93 t (by
                        show Steps p.tables e below (s₁.setTop (mkF m 13 #[.val (.ref a0), .val (.ref a1), .val (.int (10 : Int32)), .val (.int v87)] [(.int (10 : Int32)), (.ref a1), (.int (own_get vs_a0 (10 : Int32)))])) _
                        refine X0.baloadBytes hx (j := (10 : Int32)) (v := (.int (own_get vs_a1 (10 : Int32)))) (by rw [e0]; exact Ar94.1) (State.isArrayOf_alike hZ.alike Ar94.2.1) Ar94.2.2 hin94 hat94 (g := (mkF m 13 #[.val (.ref a0), .val (.ref a1), .val (.int (10 : Int32)), .val (.int v87)] [(.int (10 : Int32)), (.ref a1), (.int (own_get vs_a0 (10 : Int32)))])) rfl rfl (hb hby d2_13) _ ?_
                        show Steps p.tables e below (s₁.setTop (mkF m 14 #[.val (.ref a0), .val (.ref a1), .val (.int (10 : Int32)), .val (.int v87)] [(.int (own_get vs_a1 (10 : Int32))), (.int (own_get vs_a0 (10 : Int32)))])) _
                        refine XS.ixor X0.here hx rfl (hb hby d2_14) rfl ?_
                        show Steps p.tables e below (s₁.setTop (mkF m 15 #[.val (.ref a0), .val (.ref a1), .val (.int (10 : Int32)), .val (.int v87)] [(.int ((own_get vs_a0 (10 : Int32)) ^^^ (own_get vs_a1 (10 : Int32))))])) _
                        refine XS.sipush X0.here hx rfl (hb hby d2_15) ?_
                        show Steps p.tables e below (s₁.setTop (mkF m 18 #[.val (.ref a0), .val (.ref a1), .val (.int (10 : Int32)), .val (.int v87)] [(.int (255 : Int32)), (.int ((own_get vs_a0 (10 : Int32)) ^^^ (own_get vs_a1 (10 : Int32))))])) _
                        refine XS.iand X0.here hx rfl (hb hby d2_18) rfl ?_
                        exact k)
                      obtain ⟨v96, hv96⟩ : ∃ z : Int32, z = (((own_get vs_a0 (10 : Int32)) ^^^ (own_get vs_a1 (10 : Int32))) &&& (255 : Int32)) := ⟨_, rfl⟩
                      have pre97 : ∀ t, Steps p.tables e below (s₁.setTop (mkF m 19 #[.val (.ref a0), .val (.ref a1), .val (.int (10 : Int32)), .val (.int v87)] [(.int v96)])) t → Steps p.tables e below (s₁.setTop (entryFrame m #[(.ref a0), (.ref a1)] 4)) t := fun t k => pre95 t (by rw [hv96] at k; exact k)
                      have pre98 : ∀ t, Steps p.tables e below (s₁.setTop (mkF m 21 #[.val (.ref a0), .val (.ref a1), .val (.int (10 : Int32)), .val (.int v96)] [(.int v96)])) t → Steps p.tables e below (s₁.setTop (entryFrame m #[(.ref a0), (.ref a1)] 4)) t := fun t k => pre97 t (by
                        show Steps p.tables e below (s₁.setTop (mkF m 19 #[.val (.ref a0), .val (.ref a1), .val (.int (10 : Int32)), .val (.int v87)] [(.int v96)])) _
                        refine XS.istoreN X0.here hx rfl (hb hby d2_19) rfl (l' := #[.val (.ref a0), .val (.ref a1), .val (.int (10 : Int32)), .val (.int v96)]) rfl ?_
                        show Steps p.tables e below (s₁.setTop (mkF m 20 #[.val (.ref a0), .val (.ref a1), .val (.int (10 : Int32)), .val (.int v96)] [])) _
                        refine XS.iloadN X0.here hx rfl (hb hby d2_20) rfl ?_
                        exact k)
                      by_cases hc99 : v96 = (0 : Int32)
                      · have pre100 : ∀ t, Steps p.tables e below (s₁.setTop (mkF m 10 #[.val (.ref a0), .val (.ref a1), .val (.int (11 : Int32)), .val (.int v96)] [(.int (11 : Int32)), (.ref a0)])) t → Steps p.tables e below (s₁.setTop (entryFrame m #[(.ref a0), (.ref a1)] 4)) t := fun t k => pre98 t (by
                          show Steps p.tables e below (s₁.setTop (mkF m 21 #[.val (.ref a0), .val (.ref a1), .val (.int (10 : Int32)), .val (.int v96)] [(.int v96)])) _
                          refine XS.ifYes X0.here hx rfl (pc0 := 21) (pc' := 40) rfl (hb hby d2_21) rfl ((if0 _ _).trans (teq hc99).1) (by decide) (by decide) ?_
                          show Steps p.tables e below (s₁.setTop (mkF m 40 #[.val (.ref a0), .val (.ref a1), .val (.int (10 : Int32)), .val (.int v96)] [])) _
                          refine XS.iinc X0.here hx rfl (hb hby d2_40) rfl (l' := #[.val (.ref a0), .val (.ref a1), .val (.int (11 : Int32)), .val (.int v96)]) rfl ?_
                          show Steps p.tables e below (s₁.setTop (mkF m 43 #[.val (.ref a0), .val (.ref a1), .val (.int (11 : Int32)), .val (.int v96)] [])) _
                          refine XS.goto X0.here hx rfl (pc0 := 43) (pc' := 2) rfl (hb hby d2_43) (by decide) (by decide) ?_
                          show Steps p.tables e below (s₁.setTop (mkF m 2 #[.val (.ref a0), .val (.ref a1), .val (.int (11 : Int32)), .val (.int v96)] [])) _
                          refine XS.iloadN X0.here hx rfl (hb hby d2_2) rfl ?_
                          show Steps p.tables e below (s₁.setTop (mkF m 3 #[.val (.ref a0), .val (.ref a1), .val (.int (11 : Int32)), .val (.int v96)] [(.int (11 : Int32))])) _
                          refine XS.bipush X0.here hx rfl (hb hby d2_3) ?_
                          show Steps p.tables e below (s₁.setTop (mkF m 5 #[.val (.ref a0), .val (.ref a1), .val (.int (11 : Int32)), .val (.int v96)] [(.int (32 : Int32)), (.int (11 : Int32))])) _
                          refine XS.icmpNo X0.here hx rfl (hb hby d2_5) rfl (tlt ((by decide) : (11 : Int32) < (32 : Int32))).2.1 ?_
                          show Steps p.tables e below (s₁.setTop (mkF m 8 #[.val (.ref a0), .val (.ref a1), .val (.int (11 : Int32)), .val (.int v96)] [])) _
                          refine XS.aloadN X0.here hx rfl (hb hby d2_8) rfl rfl ?_
                          show Steps p.tables e below (s₁.setTop (mkF m 9 #[.val (.ref a0), .val (.ref a1), .val (.int (11 : Int32)), .val (.int v96)] [(.ref a0)])) _
                          refine XS.iloadN X0.here hx rfl (hb hby d2_9) rfl ?_
                          exact k)
                        obtain ⟨cl101, Ar101, q101, S101, M101, H101, G101⟩ := id V_a0
                        have hin101 : ¬ ((11 : Int32) < 0 ∨ cl101.slots.size ≤ ((11 : Int32)).toNatClampNeg) := inb_of S101 ⟨by decide, by decide⟩
                        have hat101 : cl101.slots[((11 : Int32)).toNatClampNeg]? = some (.int (own_get vs_a0 (11 : Int32))) := H101.at hin101 (own_getD vs_a0 (11 : Int32))
                        have pre102 : ∀ t, Steps p.tables e below (s₁.setTop (mkF m 13 #[.val (.ref a0), .val (.ref a1), .val (.int (11 : Int32)), .val (.int v96)] [(.int (11 : Int32)), (.ref a1), (.int (own_get vs_a0 (11 : Int32)))])) t → Steps p.tables e below (s₁.setTop (entryFrame m #[(.ref a0), (.ref a1)] 4)) t := fun t k => pre100 t (by
                          show Steps p.tables e below (s₁.setTop (mkF m 10 #[.val (.ref a0), .val (.ref a1), .val (.int (11 : Int32)), .val (.int v96)] [(.int (11 : Int32)), (.ref a0)])) _
                          refine X0.baloadBytes hx (j := (11 : Int32)) (v := (.int (own_get vs_a0 (11 : Int32)))) (by rw [e0]; exact Ar101.1) (State.isArrayOf_alike hZ.alike Ar101.2.1) Ar101.2.2 hin101 hat101 (g := (mkF m 10 #[.val (.ref a0), .val (.ref a1), .val (.int (11 : Int32)), .val (.int v96)] [(.int (11 : Int32)), (.ref a0)])) rfl rfl (hb hby d2_10) _ ?_
                          show Steps p.tables e below (s₁.setTop (mkF m 11 #[.val (.ref a0), .val (.ref a1), .val (.int (11 : Int32)), .val (.int v96)] [(.int (own_get vs_a0 (11 : Int32)))])) _
                          refine XS.aloadN X0.here hx rfl (hb hby d2_11) rfl rfl ?_
                          show Steps p.tables e below (s₁.setTop (mkF m 12 #[.val (.ref a0), .val (.ref a1), .val (.int (11 : Int32)), .val (.int v96)] [(.ref a1), (.int (own_get vs_a0 (11 : Int32)))])) _
                          refine XS.iloadN X0.here hx rfl (hb hby d2_12) rfl ?_
                          exact k)
                        obtain ⟨cl103, Ar103, q103, S103, M103, H103, G103⟩ := id V_a1
                        have hin103 : ¬ ((11 : Int32) < 0 ∨ cl103.slots.size ≤ ((11 : Int32)).toNatClampNeg) := inb_of S103 ⟨by decide, by decide⟩
                        have hat103 : cl103.slots[((11 : Int32)).toNatClampNeg]? = some (.int (own_get vs_a1 (11 : Int32))) := H103.at hin103 (own_getD vs_a1 (11 : Int32))
                        have pre104 : ∀ t, Steps p.tables e below (s₁.setTop (mkF m 19 #[.val (.ref a0), .val (.ref a1), .val (.int (11 : Int32)), .val (.int v96)] [(.int (((own_get vs_a0 (11 : Int32)) ^^^ (own_get vs_a1 (11 : Int32))) &&& (255 : Int32)))])) t → Steps p.tables e below (s₁.setTop (entryFrame m #[(.ref a0), (.ref a1)] 4)) t := fun t k => pre102 t (by
                          show Steps p.tables e below (s₁.setTop (mkF m 13 #[.val (.ref a0), .val (.ref a1), .val (.int (11 : Int32)), .val (.int v96)] [(.int (11 : Int32)), (.ref a1), (.int (own_get vs_a0 (11 : Int32)))])) _
                          refine X0.baloadBytes hx (j := (11 : Int32)) (v := (.int (own_get vs_a1 (11 : Int32)))) (by rw [e0]; exact Ar103.1) (State.isArrayOf_alike hZ.alike Ar103.2.1) Ar103.2.2 hin103 hat103 (g := (mkF m 13 #[.val (.ref a0), .val (.ref a1), .val (.int (11 : Int32)), .val (.int v96)] [(.int (11 : Int32)), (.ref a1), (.int (own_get vs_a0 (11 : Int32)))])) rfl rfl (hb hby d2_13) _ ?_
                          show Steps p.tables e below (s₁.setTop (mkF m 14 #[.val (.ref a0), .val (.ref a1), .val (.int (11 : Int32)), .val (.int v96)] [(.int (own_get vs_a1 (11 : Int32))), (.int (own_get vs_a0 (11 : Int32)))])) _
                          refine XS.ixor X0.here hx rfl (hb hby d2_14) rfl ?_
                          show Steps p.tables e below (s₁.setTop (mkF m 15 #[.val (.ref a0), .val (.ref a1), .val (.int (11 : Int32)), .val (.int v96)] [(.int ((own_get vs_a0 (11 : Int32)) ^^^ (own_get vs_a1 (11 : Int32))))])) _
                          refine XS.sipush X0.here hx rfl (hb hby d2_15) ?_
                          show Steps p.tables e below (s₁.setTop (mkF m 18 #[.val (.ref a0), .val (.ref a1), .val (.int (11 : Int32)), .val (.int v96)] [(.int (255 : Int32)), (.int ((own_get vs_a0 (11 : Int32)) ^^^ (own_get vs_a1 (11 : Int32))))])) _
                          refine XS.iand X0.here hx rfl (hb hby d2_18) rfl ?_
                          exact k)
                        obtain ⟨v105, hv105⟩ : ∃ z : Int32, z = (((own_get vs_a0 (11 : Int32)) ^^^ (own_get vs_a1 (11 : Int32))) &&& (255 : Int32)) := ⟨_, rfl⟩
                        have pre106 : ∀ t, Steps p.tables e below (s₁.setTop (mkF m 19 #[.val (.ref a0), .val (.ref a1), .val (.int (11 : Int32)), .val (.int v96)] [(.int v105)])) t → Steps p.tables e below (s₁.setTop (entryFrame m #[(.ref a0), (.ref a1)] 4)) t := fun t k => pre104 t (by rw [hv105] at k; exact k)
                        have pre107 : ∀ t, Steps p.tables e below (s₁.setTop (mkF m 21 #[.val (.ref a0), .val (.ref a1), .val (.int (11 : Int32)), .val (.int v105)] [(.int v105)])) t → Steps p.tables e below (s₁.setTop (entryFrame m #[(.ref a0), (.ref a1)] 4)) t := fun t k => pre106 t (by
                          show Steps p.tables e below (s₁.setTop (mkF m 19 #[.val (.ref a0), .val (.ref a1), .val (.int (11 : Int32)), .val (.int v96)] [(.int v105)])) _
                          refine XS.istoreN X0.here hx rfl (hb hby d2_19) rfl (l' := #[.val (.ref a0), .val (.ref a1), .val (.int (11 : Int32)), .val (.int v105)]) rfl ?_
                          show Steps p.tables e below (s₁.setTop (mkF m 20 #[.val (.ref a0), .val (.ref a1), .val (.int (11 : Int32)), .val (.int v105)] [])) _
                          refine XS.iloadN X0.here hx rfl (hb hby d2_20) rfl ?_
                          exact k)
                        by_cases hc108 : v105 = (0 : Int32)
                        · have pre109 : ∀ t, Steps p.tables e below (s₁.setTop (mkF m 10 #[.val (.ref a0), .val (.ref a1), .val (.int (12 : Int32)), .val (.int v105)] [(.int (12 : Int32)), (.ref a0)])) t → Steps p.tables e below (s₁.setTop (entryFrame m #[(.ref a0), (.ref a1)] 4)) t := fun t k => pre107 t (by
                            show Steps p.tables e below (s₁.setTop (mkF m 21 #[.val (.ref a0), .val (.ref a1), .val (.int (11 : Int32)), .val (.int v105)] [(.int v105)])) _
                            refine XS.ifYes X0.here hx rfl (pc0 := 21) (pc' := 40) rfl (hb hby d2_21) rfl ((if0 _ _).trans (teq hc108).1) (by decide) (by decide) ?_
                            show Steps p.tables e below (s₁.setTop (mkF m 40 #[.val (.ref a0), .val (.ref a1), .val (.int (11 : Int32)), .val (.int v105)] [])) _
                            refine XS.iinc X0.here hx rfl (hb hby d2_40) rfl (l' := #[.val (.ref a0), .val (.ref a1), .val (.int (12 : Int32)), .val (.int v105)]) rfl ?_
                            show Steps p.tables e below (s₁.setTop (mkF m 43 #[.val (.ref a0), .val (.ref a1), .val (.int (12 : Int32)), .val (.int v105)] [])) _
                            refine XS.goto X0.here hx rfl (pc0 := 43) (pc' := 2) rfl (hb hby d2_43) (by decide) (by decide) ?_
                            show Steps p.tables e below (s₁.setTop (mkF m 2 #[.val (.ref a0), .val (.ref a1), .val (.int (12 : Int32)), .val (.int v105)] [])) _
                            refine XS.iloadN X0.here hx rfl (hb hby d2_2) rfl ?_
                            show Steps p.tables e below (s₁.setTop (mkF m 3 #[.val (.ref a0), .val (.ref a1), .val (.int (12 : Int32)), .val (.int v105)] [(.int (12 : Int32))])) _
                            refine XS.bipush X0.here hx rfl (hb hby d2_3) ?_
                            show Steps p.tables e below (s₁.setTop (mkF m 5 #[.val (.ref a0), .val (.ref a1), .val (.int (12 : Int32)), .val (.int v105)] [(.int (32 : Int32)), (.int (12 : Int32))])) _
                            refine XS.icmpNo X0.here hx rfl (hb hby d2_5) rfl (tlt ((by decide) : (12 : Int32) < (32 : Int32))).2.1 ?_
                            show Steps p.tables e below (s₁.setTop (mkF m 8 #[.val (.ref a0), .val (.ref a1), .val (.int (12 : Int32)), .val (.int v105)] [])) _
                            refine XS.aloadN X0.here hx rfl (hb hby d2_8) rfl rfl ?_
                            show Steps p.tables e below (s₁.setTop (mkF m 9 #[.val (.ref a0), .val (.ref a1), .val (.int (12 : Int32)), .val (.int v105)] [(.ref a0)])) _
                            refine XS.iloadN X0.here hx rfl (hb hby d2_9) rfl ?_
                            exact k)
                          obtain ⟨cl110, Ar110, q110, S110, M110, H110, G110⟩ := id V_a0
                          have hin110 : ¬ ((12 : Int32) < 0 ∨ cl110.slots.size ≤ ((12 : Int32)).toNatClampNeg) := inb_of S110 ⟨by decide, by decide⟩
                          have hat110 : cl110.slots[((12 : Int32)).toNatClampNeg]? = some (.int (own_get vs_a0 (12 : Int32))) := H110.at hin110 (own_getD vs_a0 (12 : Int32))
                          have pre111 : ∀ t, Steps p.tables e below (s₁.setTop (mkF m 13 #[.val (.ref a0), .val (.ref a1), .val (.int (12 : Int32)), .val (.int v105)] [(.int (12 : Int32)), (.ref a1), (.int (own_get vs_a0 (12 : Int32)))])) t → Steps p.tables e below (s₁.setTop (entryFrame m #[(.ref a0), (.ref a1)] 4)) t := fun t k => pre109 t (by
                            show Steps p.tables e below (s₁.setTop (mkF m 10 #[.val (.ref a0), .val (.ref a1), .val (.int (12 : Int32)), .val (.int v105)] [(.int (12 : Int32)), (.ref a0)])) _
                            refine X0.baloadBytes hx (j := (12 : Int32)) (v := (.int (own_get vs_a0 (12 : Int32)))) (by rw [e0]; exact Ar110.1) (State.isArrayOf_alike hZ.alike Ar110.2.1) Ar110.2.2 hin110 hat110 (g := (mkF m 10 #[.val (.ref a0), .val (.ref a1), .val (.int (12 : Int32)), .val (.int v105)] [(.int (12 : Int32)), (.ref a0)])) rfl rfl (hb hby d2_10) _ ?_
                            show Steps p.tables e below (s₁.setTop (mkF m 11 #[.val (.ref a0), .val (.ref a1), .val (.int (12 : Int32)), .val (.int v105)] [(.int (own_get vs_a0 (12 : Int32)))])) _
                            refine XS.aloadN X0.here hx rfl (hb hby d2_11) rfl rfl ?_
                            show Steps p.tables e below (s₁.setTop (mkF m 12 #[.val (.ref a0), .val (.ref a1), .val (.int (12 : Int32)), .val (.int v105)] [(.ref a1), (.int (own_get vs_a0 (12 : Int32)))])) _
                            refine XS.iloadN X0.here hx rfl (hb hby d2_12) rfl ?_
                            exact k)
                          obtain ⟨cl112, Ar112, q112, S112, M112, H112, G112⟩ := id V_a1
                          have hin112 : ¬ ((12 : Int32) < 0 ∨ cl112.slots.size ≤ ((12 : Int32)).toNatClampNeg) := inb_of S112 ⟨by decide, by decide⟩
                          have hat112 : cl112.slots[((12 : Int32)).toNatClampNeg]? = some (.int (own_get vs_a1 (12 : Int32))) := H112.at hin112 (own_getD vs_a1 (12 : Int32))
                          have pre113 : ∀ t, Steps p.tables e below (s₁.setTop (mkF m 19 #[.val (.ref a0), .val (.ref a1), .val (.int (12 : Int32)), .val (.int v105)] [(.int (((own_get vs_a0 (12 : Int32)) ^^^ (own_get vs_a1 (12 : Int32))) &&& (255 : Int32)))])) t → Steps p.tables e below (s₁.setTop (entryFrame m #[(.ref a0), (.ref a1)] 4)) t := fun t k => pre111 t (by
                            show Steps p.tables e below (s₁.setTop (mkF m 13 #[.val (.ref a0), .val (.ref a1), .val (.int (12 : Int32)), .val (.int v105)] [(.int (12 : Int32)), (.ref a1), (.int (own_get vs_a0 (12 : Int32)))])) _
                            refine X0.baloadBytes hx (j := (12 : Int32)) (v := (.int (own_get vs_a1 (12 : Int32)))) (by rw [e0]; exact Ar112.1) (State.isArrayOf_alike hZ.alike Ar112.2.1) Ar112.2.2 hin112 hat112 (g := (mkF m 13 #[.val (.ref a0), .val (.ref a1), .val (.int (12 : Int32)), .val (.int v105)] [(.int (12 : Int32)), (.ref a1), (.int (own_get vs_a0 (12 : Int32)))])) rfl rfl (hb hby d2_13) _ ?_
                            show Steps p.tables e below (s₁.setTop (mkF m 14 #[.val (.ref a0), .val (.ref a1), .val (.int (12 : Int32)), .val (.int v105)] [(.int (own_get vs_a1 (12 : Int32))), (.int (own_get vs_a0 (12 : Int32)))])) _
                            refine XS.ixor X0.here hx rfl (hb hby d2_14) rfl ?_
                            show Steps p.tables e below (s₁.setTop (mkF m 15 #[.val (.ref a0), .val (.ref a1), .val (.int (12 : Int32)), .val (.int v105)] [(.int ((own_get vs_a0 (12 : Int32)) ^^^ (own_get vs_a1 (12 : Int32))))])) _
                            refine XS.sipush X0.here hx rfl (hb hby d2_15) ?_
                            show Steps p.tables e below (s₁.setTop (mkF m 18 #[.val (.ref a0), .val (.ref a1), .val (.int (12 : Int32)), .val (.int v105)] [(.int (255 : Int32)), (.int ((own_get vs_a0 (12 : Int32)) ^^^ (own_get vs_a1 (12 : Int32))))])) _
                            refine XS.iand X0.here hx rfl (hb hby d2_18) rfl ?_
                            exact k)
                          obtain ⟨v114, hv114⟩ : ∃ z : Int32, z = (((own_get vs_a0 (12 : Int32)) ^^^ (own_get vs_a1 (12 : Int32))) &&& (255 : Int32)) := ⟨_, rfl⟩
                          have pre115 : ∀ t, Steps p.tables e below (s₁.setTop (mkF m 19 #[.val (.ref a0), .val (.ref a1), .val (.int (12 : Int32)), .val (.int v105)] [(.int v114)])) t → Steps p.tables e below (s₁.setTop (entryFrame m #[(.ref a0), (.ref a1)] 4)) t := fun t k => pre113 t (by rw [hv114] at k; exact k)
                          have pre116 : ∀ t, Steps p.tables e below (s₁.setTop (mkF m 21 #[.val (.ref a0), .val (.ref a1), .val (.int (12 : Int32)), .val (.int v114)] [(.int v114)])) t → Steps p.tables e below (s₁.setTop (entryFrame m #[(.ref a0), (.ref a1)] 4)) t := fun t k => pre115 t (by
                            show Steps p.tables e below (s₁.setTop (mkF m 19 #[.val (.ref a0), .val (.ref a1), .val (.int (12 : Int32)), .val (.int v105)] [(.int v114)])) _
                            refine XS.istoreN X0.here hx rfl (hb hby d2_19) rfl (l' := #[.val (.ref a0), .val (.ref a1), .val (.int (12 : Int32)), .val (.int v114)]) rfl ?_
                            show Steps p.tables e below (s₁.setTop (mkF m 20 #[.val (.ref a0), .val (.ref a1), .val (.int (12 : Int32)), .val (.int v114)] [])) _
                            refine XS.iloadN X0.here hx rfl (hb hby d2_20) rfl ?_
                            exact k)
                          by_cases hc117 : v114 = (0 : Int32)
                          · have pre118 : ∀ t, Steps p.tables e below (s₁.setTop (mkF m 10 #[.val (.ref a0), .val (.ref a1), .val (.int (13 : Int32)), .val (.int v114)] [(.int (13 : Int32)), (.ref a0)])) t → Steps p.tables e below (s₁.setTop (entryFrame m #[(.ref a0), (.ref a1)] 4)) t := fun t k => pre116 t (by
                              show Steps p.tables e below (s₁.setTop (mkF m 21 #[.val (.ref a0), .val (.ref a1), .val (.int (12 : Int32)), .val (.int v114)] [(.int v114)])) _
                              refine XS.ifYes X0.here hx rfl (pc0 := 21) (pc' := 40) rfl (hb hby d2_21) rfl ((if0 _ _).trans (teq hc117).1) (by decide) (by decide) ?_
                              show Steps p.tables e below (s₁.setTop (mkF m 40 #[.val (.ref a0), .val (.ref a1), .val (.int (12 : Int32)), .val (.int v114)] [])) _
                              refine XS.iinc X0.here hx rfl (hb hby d2_40) rfl (l' := #[.val (.ref a0), .val (.ref a1), .val (.int (13 : Int32)), .val (.int v114)]) rfl ?_
                              show Steps p.tables e below (s₁.setTop (mkF m 43 #[.val (.ref a0), .val (.ref a1), .val (.int (13 : Int32)), .val (.int v114)] [])) _
                              refine XS.goto X0.here hx rfl (pc0 := 43) (pc' := 2) rfl (hb hby d2_43) (by decide) (by decide) ?_
                              show Steps p.tables e below (s₁.setTop (mkF m 2 #[.val (.ref a0), .val (.ref a1), .val (.int (13 : Int32)), .val (.int v114)] [])) _
                              refine XS.iloadN X0.here hx rfl (hb hby d2_2) rfl ?_
                              show Steps p.tables e below (s₁.setTop (mkF m 3 #[.val (.ref a0), .val (.ref a1), .val (.int (13 : Int32)), .val (.int v114)] [(.int (13 : Int32))])) _
                              refine XS.bipush X0.here hx rfl (hb hby d2_3) ?_
                              show Steps p.tables e below (s₁.setTop (mkF m 5 #[.val (.ref a0), .val (.ref a1), .val (.int (13 : Int32)), .val (.int v114)] [(.int (32 : Int32)), (.int (13 : Int32))])) _
                              refine XS.icmpNo X0.here hx rfl (hb hby d2_5) rfl (tlt ((by decide) : (13 : Int32) < (32 : Int32))).2.1 ?_
                              show Steps p.tables e below (s₁.setTop (mkF m 8 #[.val (.ref a0), .val (.ref a1), .val (.int (13 : Int32)), .val (.int v114)] [])) _
                              refine XS.aloadN X0.here hx rfl (hb hby d2_8) rfl rfl ?_
                              show Steps p.tables e below (s₁.setTop (mkF m 9 #[.val (.ref a0), .val (.ref a1), .val (.int (13 : Int32)), .val (.int v114)] [(.ref a0)])) _
                              refine XS.iloadN X0.here hx rfl (hb hby d2_9) rfl ?_
                              exact k)
                            obtain ⟨cl119, Ar119, q119, S119, M119, H119, G119⟩ := id V_a0
                            have hin119 : ¬ ((13 : Int32) < 0 ∨ cl119.slots.size ≤ ((13 : Int32)).toNatClampNeg) := inb_of S119 ⟨by decide, by decide⟩
                            have hat119 : cl119.slots[((13 : Int32)).toNatClampNeg]? = some (.int (own_get vs_a0 (13 : Int32))) := H119.at hin119 (own_getD vs_a0 (13 : Int32))
                            have pre120 : ∀ t, Steps p.tables e below (s₁.setTop (mkF m 13 #[.val (.ref a0), .val (.ref a1), .val (.int (13 : Int32)), .val (.int v114)] [(.int (13 : Int32)), (.ref a1), (.int (own_get vs_a0 (13 : Int32)))])) t → Steps p.tables e below (s₁.setTop (entryFrame m #[(.ref a0), (.ref a1)] 4)) t := fun t k => pre118 t (by
                              show Steps p.tables e below (s₁.setTop (mkF m 10 #[.val (.ref a0), .val (.ref a1), .val (.int (13 : Int32)), .val (.int v114)] [(.int (13 : Int32)), (.ref a0)])) _
                              refine X0.baloadBytes hx (j := (13 : Int32)) (v := (.int (own_get vs_a0 (13 : Int32)))) (by rw [e0]; exact Ar119.1) (State.isArrayOf_alike hZ.alike Ar119.2.1) Ar119.2.2 hin119 hat119 (g := (mkF m 10 #[.val (.ref a0), .val (.ref a1), .val (.int (13 : Int32)), .val (.int v114)] [(.int (13 : Int32)), (.ref a0)])) rfl rfl (hb hby d2_10) _ ?_
                              show Steps p.tables e below (s₁.setTop (mkF m 11 #[.val (.ref a0), .val (.ref a1), .val (.int (13 : Int32)), .val (.int v114)] [(.int (own_get vs_a0 (13 : Int32)))])) _
                              refine XS.aloadN X0.here hx rfl (hb hby d2_11) rfl rfl ?_
                              show Steps p.tables e below (s₁.setTop (mkF m 12 #[.val (.ref a0), .val (.ref a1), .val (.int (13 : Int32)), .val (.int v114)] [(.ref a1), (.int (own_get vs_a0 (13 : Int32)))])) _
                              refine XS.iloadN X0.here hx rfl (hb hby d2_12) rfl ?_
                              exact k)
                            obtain ⟨cl121, Ar121, q121, S121, M121, H121, G121⟩ := id V_a1
                            have hin121 : ¬ ((13 : Int32) < 0 ∨ cl121.slots.size ≤ ((13 : Int32)).toNatClampNeg) := inb_of S121 ⟨by decide, by decide⟩
                            have hat121 : cl121.slots[((13 : Int32)).toNatClampNeg]? = some (.int (own_get vs_a1 (13 : Int32))) := H121.at hin121 (own_getD vs_a1 (13 : Int32))
                            have pre122 : ∀ t, Steps p.tables e below (s₁.setTop (mkF m 19 #[.val (.ref a0), .val (.ref a1), .val (.int (13 : Int32)), .val (.int v114)] [(.int (((own_get vs_a0 (13 : Int32)) ^^^ (own_get vs_a1 (13 : Int32))) &&& (255 : Int32)))])) t → Steps p.tables e below (s₁.setTop (entryFrame m #[(.ref a0), (.ref a1)] 4)) t := fun t k => pre120 t (by
                              show Steps p.tables e below (s₁.setTop (mkF m 13 #[.val (.ref a0), .val (.ref a1), .val (.int (13 : Int32)), .val (.int v114)] [(.int (13 : Int32)), (.ref a1), (.int (own_get vs_a0 (13 : Int32)))])) _
                              refine X0.baloadBytes hx (j := (13 : Int32)) (v := (.int (own_get vs_a1 (13 : Int32)))) (by rw [e0]; exact Ar121.1) (State.isArrayOf_alike hZ.alike Ar121.2.1) Ar121.2.2 hin121 hat121 (g := (mkF m 13 #[.val (.ref a0), .val (.ref a1), .val (.int (13 : Int32)), .val (.int v114)] [(.int (13 : Int32)), (.ref a1), (.int (own_get vs_a0 (13 : Int32)))])) rfl rfl (hb hby d2_13) _ ?_
                              show Steps p.tables e below (s₁.setTop (mkF m 14 #[.val (.ref a0), .val (.ref a1), .val (.int (13 : Int32)), .val (.int v114)] [(.int (own_get vs_a1 (13 : Int32))), (.int (own_get vs_a0 (13 : Int32)))])) _
                              refine XS.ixor X0.here hx rfl (hb hby d2_14) rfl ?_
                              show Steps p.tables e below (s₁.setTop (mkF m 15 #[.val (.ref a0), .val (.ref a1), .val (.int (13 : Int32)), .val (.int v114)] [(.int ((own_get vs_a0 (13 : Int32)) ^^^ (own_get vs_a1 (13 : Int32))))])) _
                              refine XS.sipush X0.here hx rfl (hb hby d2_15) ?_
                              show Steps p.tables e below (s₁.setTop (mkF m 18 #[.val (.ref a0), .val (.ref a1), .val (.int (13 : Int32)), .val (.int v114)] [(.int (255 : Int32)), (.int ((own_get vs_a0 (13 : Int32)) ^^^ (own_get vs_a1 (13 : Int32))))])) _
                              refine XS.iand X0.here hx rfl (hb hby d2_18) rfl ?_
                              exact k)
                            obtain ⟨v123, hv123⟩ : ∃ z : Int32, z = (((own_get vs_a0 (13 : Int32)) ^^^ (own_get vs_a1 (13 : Int32))) &&& (255 : Int32)) := ⟨_, rfl⟩
                            have pre124 : ∀ t, Steps p.tables e below (s₁.setTop (mkF m 19 #[.val (.ref a0), .val (.ref a1), .val (.int (13 : Int32)), .val (.int v114)] [(.int v123)])) t → Steps p.tables e below (s₁.setTop (entryFrame m #[(.ref a0), (.ref a1)] 4)) t := fun t k => pre122 t (by rw [hv123] at k; exact k)
                            have pre125 : ∀ t, Steps p.tables e below (s₁.setTop (mkF m 21 #[.val (.ref a0), .val (.ref a1), .val (.int (13 : Int32)), .val (.int v123)] [(.int v123)])) t → Steps p.tables e below (s₁.setTop (entryFrame m #[(.ref a0), (.ref a1)] 4)) t := fun t k => pre124 t (by
                              show Steps p.tables e below (s₁.setTop (mkF m 19 #[.val (.ref a0), .val (.ref a1), .val (.int (13 : Int32)), .val (.int v114)] [(.int v123)])) _
                              refine XS.istoreN X0.here hx rfl (hb hby d2_19) rfl (l' := #[.val (.ref a0), .val (.ref a1), .val (.int (13 : Int32)), .val (.int v123)]) rfl ?_
                              show Steps p.tables e below (s₁.setTop (mkF m 20 #[.val (.ref a0), .val (.ref a1), .val (.int (13 : Int32)), .val (.int v123)] [])) _
                              refine XS.iloadN X0.here hx rfl (hb hby d2_20) rfl ?_
                              exact k)
                            by_cases hc126 : v123 = (0 : Int32)
                            · have pre127 : ∀ t, Steps p.tables e below (s₁.setTop (mkF m 10 #[.val (.ref a0), .val (.ref a1), .val (.int (14 : Int32)), .val (.int v123)] [(.int (14 : Int32)), (.ref a0)])) t → Steps p.tables e below (s₁.setTop (entryFrame m #[(.ref a0), (.ref a1)] 4)) t := fun t k => pre125 t (by
                                show Steps p.tables e below (s₁.setTop (mkF m 21 #[.val (.ref a0), .val (.ref a1), .val (.int (13 : Int32)), .val (.int v123)] [(.int v123)])) _
                                refine XS.ifYes X0.here hx rfl (pc0 := 21) (pc' := 40) rfl (hb hby d2_21) rfl ((if0 _ _).trans (teq hc126).1) (by decide) (by decide) ?_
                                show Steps p.tables e below (s₁.setTop (mkF m 40 #[.val (.ref a0), .val (.ref a1), .val (.int (13 : Int32)), .val (.int v123)] [])) _
                                refine XS.iinc X0.here hx rfl (hb hby d2_40) rfl (l' := #[.val (.ref a0), .val (.ref a1), .val (.int (14 : Int32)), .val (.int v123)]) rfl ?_
                                show Steps p.tables e below (s₁.setTop (mkF m 43 #[.val (.ref a0), .val (.ref a1), .val (.int (14 : Int32)), .val (.int v123)] [])) _
                                refine XS.goto X0.here hx rfl (pc0 := 43) (pc' := 2) rfl (hb hby d2_43) (by decide) (by decide) ?_
                                show Steps p.tables e below (s₁.setTop (mkF m 2 #[.val (.ref a0), .val (.ref a1), .val (.int (14 : Int32)), .val (.int v123)] [])) _
                                refine XS.iloadN X0.here hx rfl (hb hby d2_2) rfl ?_
                                show Steps p.tables e below (s₁.setTop (mkF m 3 #[.val (.ref a0), .val (.ref a1), .val (.int (14 : Int32)), .val (.int v123)] [(.int (14 : Int32))])) _
                                refine XS.bipush X0.here hx rfl (hb hby d2_3) ?_
                                show Steps p.tables e below (s₁.setTop (mkF m 5 #[.val (.ref a0), .val (.ref a1), .val (.int (14 : Int32)), .val (.int v123)] [(.int (32 : Int32)), (.int (14 : Int32))])) _
                                refine XS.icmpNo X0.here hx rfl (hb hby d2_5) rfl (tlt ((by decide) : (14 : Int32) < (32 : Int32))).2.1 ?_
                                show Steps p.tables e below (s₁.setTop (mkF m 8 #[.val (.ref a0), .val (.ref a1), .val (.int (14 : Int32)), .val (.int v123)] [])) _
                                refine XS.aloadN X0.here hx rfl (hb hby d2_8) rfl rfl ?_
                                show Steps p.tables e below (s₁.setTop (mkF m 9 #[.val (.ref a0), .val (.ref a1), .val (.int (14 : Int32)), .val (.int v123)] [(.ref a0)])) _
                                refine XS.iloadN X0.here hx rfl (hb hby d2_9) rfl ?_
                                exact k)
                              obtain ⟨cl128, Ar128, q128, S128, M128, H128, G128⟩ := id V_a0
                              have hin128 : ¬ ((14 : Int32) < 0 ∨ cl128.slots.size ≤ ((14 : Int32)).toNatClampNeg) := inb_of S128 ⟨by decide, by decide⟩
                              have hat128 : cl128.slots[((14 : Int32)).toNatClampNeg]? = some (.int (own_get vs_a0 (14 : Int32))) := H128.at hin128 (own_getD vs_a0 (14 : Int32))
                              have pre129 : ∀ t, Steps p.tables e below (s₁.setTop (mkF m 13 #[.val (.ref a0), .val (.ref a1), .val (.int (14 : Int32)), .val (.int v123)] [(.int (14 : Int32)), (.ref a1), (.int (own_get vs_a0 (14 : Int32)))])) t → Steps p.tables e below (s₁.setTop (entryFrame m #[(.ref a0), (.ref a1)] 4)) t := fun t k => pre127 t (by
                                show Steps p.tables e below (s₁.setTop (mkF m 10 #[.val (.ref a0), .val (.ref a1), .val (.int (14 : Int32)), .val (.int v123)] [(.int (14 : Int32)), (.ref a0)])) _
                                refine X0.baloadBytes hx (j := (14 : Int32)) (v := (.int (own_get vs_a0 (14 : Int32)))) (by rw [e0]; exact Ar128.1) (State.isArrayOf_alike hZ.alike Ar128.2.1) Ar128.2.2 hin128 hat128 (g := (mkF m 10 #[.val (.ref a0), .val (.ref a1), .val (.int (14 : Int32)), .val (.int v123)] [(.int (14 : Int32)), (.ref a0)])) rfl rfl (hb hby d2_10) _ ?_
                                show Steps p.tables e below (s₁.setTop (mkF m 11 #[.val (.ref a0), .val (.ref a1), .val (.int (14 : Int32)), .val (.int v123)] [(.int (own_get vs_a0 (14 : Int32)))])) _
                                refine XS.aloadN X0.here hx rfl (hb hby d2_11) rfl rfl ?_
                                show Steps p.tables e below (s₁.setTop (mkF m 12 #[.val (.ref a0), .val (.ref a1), .val (.int (14 : Int32)), .val (.int v123)] [(.ref a1), (.int (own_get vs_a0 (14 : Int32)))])) _
                                refine XS.iloadN X0.here hx rfl (hb hby d2_12) rfl ?_
                                exact k)
                              obtain ⟨cl130, Ar130, q130, S130, M130, H130, G130⟩ := id V_a1
                              have hin130 : ¬ ((14 : Int32) < 0 ∨ cl130.slots.size ≤ ((14 : Int32)).toNatClampNeg) := inb_of S130 ⟨by decide, by decide⟩
                              have hat130 : cl130.slots[((14 : Int32)).toNatClampNeg]? = some (.int (own_get vs_a1 (14 : Int32))) := H130.at hin130 (own_getD vs_a1 (14 : Int32))
                              have pre131 : ∀ t, Steps p.tables e below (s₁.setTop (mkF m 19 #[.val (.ref a0), .val (.ref a1), .val (.int (14 : Int32)), .val (.int v123)] [(.int (((own_get vs_a0 (14 : Int32)) ^^^ (own_get vs_a1 (14 : Int32))) &&& (255 : Int32)))])) t → Steps p.tables e below (s₁.setTop (entryFrame m #[(.ref a0), (.ref a1)] 4)) t := fun t k => pre129 t (by
                                show Steps p.tables e below (s₁.setTop (mkF m 13 #[.val (.ref a0), .val (.ref a1), .val (.int (14 : Int32)), .val (.int v123)] [(.int (14 : Int32)), (.ref a1), (.int (own_get vs_a0 (14 : Int32)))])) _
                                refine X0.baloadBytes hx (j := (14 : Int32)) (v := (.int (own_get vs_a1 (14 : Int32)))) (by rw [e0]; exact Ar130.1) (State.isArrayOf_alike hZ.alike Ar130.2.1) Ar130.2.2 hin130 hat130 (g := (mkF m 13 #[.val (.ref a0), .val (.ref a1), .val (.int (14 : Int32)), .val (.int v123)] [(.int (14 : Int32)), (.ref a1), (.int (own_get vs_a0 (14 : Int32)))])) rfl rfl (hb hby d2_13) _ ?_
                                show Steps p.tables e below (s₁.setTop (mkF m 14 #[.val (.ref a0), .val (.ref a1), .val (.int (14 : Int32)), .val (.int v123)] [(.int (own_get vs_a1 (14 : Int32))), (.int (own_get vs_a0 (14 : Int32)))])) _
                                refine XS.ixor X0.here hx rfl (hb hby d2_14) rfl ?_
                                show Steps p.tables e below (s₁.setTop (mkF m 15 #[.val (.ref a0), .val (.ref a1), .val (.int (14 : Int32)), .val (.int v123)] [(.int ((own_get vs_a0 (14 : Int32)) ^^^ (own_get vs_a1 (14 : Int32))))])) _
                                refine XS.sipush X0.here hx rfl (hb hby d2_15) ?_
                                show Steps p.tables e below (s₁.setTop (mkF m 18 #[.val (.ref a0), .val (.ref a1), .val (.int (14 : Int32)), .val (.int v123)] [(.int (255 : Int32)), (.int ((own_get vs_a0 (14 : Int32)) ^^^ (own_get vs_a1 (14 : Int32))))])) _
                                refine XS.iand X0.here hx rfl (hb hby d2_18) rfl ?_
                                exact k)
                              obtain ⟨v132, hv132⟩ : ∃ z : Int32, z = (((own_get vs_a0 (14 : Int32)) ^^^ (own_get vs_a1 (14 : Int32))) &&& (255 : Int32)) := ⟨_, rfl⟩
                              have pre133 : ∀ t, Steps p.tables e below (s₁.setTop (mkF m 19 #[.val (.ref a0), .val (.ref a1), .val (.int (14 : Int32)), .val (.int v123)] [(.int v132)])) t → Steps p.tables e below (s₁.setTop (entryFrame m #[(.ref a0), (.ref a1)] 4)) t := fun t k => pre131 t (by rw [hv132] at k; exact k)
                              have pre134 : ∀ t, Steps p.tables e below (s₁.setTop (mkF m 21 #[.val (.ref a0), .val (.ref a1), .val (.int (14 : Int32)), .val (.int v132)] [(.int v132)])) t → Steps p.tables e below (s₁.setTop (entryFrame m #[(.ref a0), (.ref a1)] 4)) t := fun t k => pre133 t (by
                                show Steps p.tables e below (s₁.setTop (mkF m 19 #[.val (.ref a0), .val (.ref a1), .val (.int (14 : Int32)), .val (.int v123)] [(.int v132)])) _
                                refine XS.istoreN X0.here hx rfl (hb hby d2_19) rfl (l' := #[.val (.ref a0), .val (.ref a1), .val (.int (14 : Int32)), .val (.int v132)]) rfl ?_
                                show Steps p.tables e below (s₁.setTop (mkF m 20 #[.val (.ref a0), .val (.ref a1), .val (.int (14 : Int32)), .val (.int v132)] [])) _
                                refine XS.iloadN X0.here hx rfl (hb hby d2_20) rfl ?_
                                exact k)
                              by_cases hc135 : v132 = (0 : Int32)
                              · have pre136 : ∀ t, Steps p.tables e below (s₁.setTop (mkF m 10 #[.val (.ref a0), .val (.ref a1), .val (.int (15 : Int32)), .val (.int v132)] [(.int (15 : Int32)), (.ref a0)])) t → Steps p.tables e below (s₁.setTop (entryFrame m #[(.ref a0), (.ref a1)] 4)) t := fun t k => pre134 t (by
                                  show Steps p.tables e below (s₁.setTop (mkF m 21 #[.val (.ref a0), .val (.ref a1), .val (.int (14 : Int32)), .val (.int v132)] [(.int v132)])) _
                                  refine XS.ifYes X0.here hx rfl (pc0 := 21) (pc' := 40) rfl (hb hby d2_21) rfl ((if0 _ _).trans (teq hc135).1) (by decide) (by decide) ?_
                                  show Steps p.tables e below (s₁.setTop (mkF m 40 #[.val (.ref a0), .val (.ref a1), .val (.int (14 : Int32)), .val (.int v132)] [])) _
                                  refine XS.iinc X0.here hx rfl (hb hby d2_40) rfl (l' := #[.val (.ref a0), .val (.ref a1), .val (.int (15 : Int32)), .val (.int v132)]) rfl ?_
                                  show Steps p.tables e below (s₁.setTop (mkF m 43 #[.val (.ref a0), .val (.ref a1), .val (.int (15 : Int32)), .val (.int v132)] [])) _
                                  refine XS.goto X0.here hx rfl (pc0 := 43) (pc' := 2) rfl (hb hby d2_43) (by decide) (by decide) ?_
                                  show Steps p.tables e below (s₁.setTop (mkF m 2 #[.val (.ref a0), .val (.ref a1), .val (.int (15 : Int32)), .val (.int v132)] [])) _
                                  refine XS.iloadN X0.here hx rfl (hb hby d2_2) rfl ?_
                                  show Steps p.tables e below (s₁.setTop (mkF m 3 #[.val (.ref a0), .val (.ref a1), .val (.int (15 : Int32)), .val (.int v132)] [(.int (15 : Int32))])) _
                                  refine XS.bipush X0.here hx rfl (hb hby d2_3) ?_
                                  show Steps p.tables e below (s₁.setTop (mkF m 5 #[.val (.ref a0), .val (.ref a1), .val (.int (15 : Int32)), .val (.int v132)] [(.int (32 : Int32)), (.int (15 : Int32))])) _
                                  refine XS.icmpNo X0.here hx rfl (hb hby d2_5) rfl (tlt ((by decide) : (15 : Int32) < (32 : Int32))).2.1 ?_
                                  show Steps p.tables e below (s₁.setTop (mkF m 8 #[.val (.ref a0), .val (.ref a1), .val (.int (15 : Int32)), .val (.int v132)] [])) _
                                  refine XS.aloadN X0.here hx rfl (hb hby d2_8) rfl rfl ?_
                                  show Steps p.tables e below (s₁.setTop (mkF m 9 #[.val (.ref a0), .val (.ref a1), .val (.int (15 : Int32)), .val (.int v132)] [(.ref a0)])) _
                                  refine XS.iloadN X0.here hx rfl (hb hby d2_9) rfl ?_
                                  exact k)
                                obtain ⟨cl137, Ar137, q137, S137, M137, H137, G137⟩ := id V_a0
                                have hin137 : ¬ ((15 : Int32) < 0 ∨ cl137.slots.size ≤ ((15 : Int32)).toNatClampNeg) := inb_of S137 ⟨by decide, by decide⟩
                                have hat137 : cl137.slots[((15 : Int32)).toNatClampNeg]? = some (.int (own_get vs_a0 (15 : Int32))) := H137.at hin137 (own_getD vs_a0 (15 : Int32))
                                have pre138 : ∀ t, Steps p.tables e below (s₁.setTop (mkF m 13 #[.val (.ref a0), .val (.ref a1), .val (.int (15 : Int32)), .val (.int v132)] [(.int (15 : Int32)), (.ref a1), (.int (own_get vs_a0 (15 : Int32)))])) t → Steps p.tables e below (s₁.setTop (entryFrame m #[(.ref a0), (.ref a1)] 4)) t := fun t k => pre136 t (by
                                  show Steps p.tables e below (s₁.setTop (mkF m 10 #[.val (.ref a0), .val (.ref a1), .val (.int (15 : Int32)), .val (.int v132)] [(.int (15 : Int32)), (.ref a0)])) _
                                  refine X0.baloadBytes hx (j := (15 : Int32)) (v := (.int (own_get vs_a0 (15 : Int32)))) (by rw [e0]; exact Ar137.1) (State.isArrayOf_alike hZ.alike Ar137.2.1) Ar137.2.2 hin137 hat137 (g := (mkF m 10 #[.val (.ref a0), .val (.ref a1), .val (.int (15 : Int32)), .val (.int v132)] [(.int (15 : Int32)), (.ref a0)])) rfl rfl (hb hby d2_10) _ ?_
                                  show Steps p.tables e below (s₁.setTop (mkF m 11 #[.val (.ref a0), .val (.ref a1), .val (.int (15 : Int32)), .val (.int v132)] [(.int (own_get vs_a0 (15 : Int32)))])) _
                                  refine XS.aloadN X0.here hx rfl (hb hby d2_11) rfl rfl ?_
                                  show Steps p.tables e below (s₁.setTop (mkF m 12 #[.val (.ref a0), .val (.ref a1), .val (.int (15 : Int32)), .val (.int v132)] [(.ref a1), (.int (own_get vs_a0 (15 : Int32)))])) _
                                  refine XS.iloadN X0.here hx rfl (hb hby d2_12) rfl ?_
                                  exact k)
                                obtain ⟨cl139, Ar139, q139, S139, M139, H139, G139⟩ := id V_a1
                                have hin139 : ¬ ((15 : Int32) < 0 ∨ cl139.slots.size ≤ ((15 : Int32)).toNatClampNeg) := inb_of S139 ⟨by decide, by decide⟩
                                have hat139 : cl139.slots[((15 : Int32)).toNatClampNeg]? = some (.int (own_get vs_a1 (15 : Int32))) := H139.at hin139 (own_getD vs_a1 (15 : Int32))
                                have pre140 : ∀ t, Steps p.tables e below (s₁.setTop (mkF m 19 #[.val (.ref a0), .val (.ref a1), .val (.int (15 : Int32)), .val (.int v132)] [(.int (((own_get vs_a0 (15 : Int32)) ^^^ (own_get vs_a1 (15 : Int32))) &&& (255 : Int32)))])) t → Steps p.tables e below (s₁.setTop (entryFrame m #[(.ref a0), (.ref a1)] 4)) t := fun t k => pre138 t (by
                                  show Steps p.tables e below (s₁.setTop (mkF m 13 #[.val (.ref a0), .val (.ref a1), .val (.int (15 : Int32)), .val (.int v132)] [(.int (15 : Int32)), (.ref a1), (.int (own_get vs_a0 (15 : Int32)))])) _
                                  refine X0.baloadBytes hx (j := (15 : Int32)) (v := (.int (own_get vs_a1 (15 : Int32)))) (by rw [e0]; exact Ar139.1) (State.isArrayOf_alike hZ.alike Ar139.2.1) Ar139.2.2 hin139 hat139 (g := (mkF m 13 #[.val (.ref a0), .val (.ref a1), .val (.int (15 : Int32)), .val (.int v132)] [(.int (15 : Int32)), (.ref a1), (.int (own_get vs_a0 (15 : Int32)))])) rfl rfl (hb hby d2_13) _ ?_
                                  show Steps p.tables e below (s₁.setTop (mkF m 14 #[.val (.ref a0), .val (.ref a1), .val (.int (15 : Int32)), .val (.int v132)] [(.int (own_get vs_a1 (15 : Int32))), (.int (own_get vs_a0 (15 : Int32)))])) _
                                  refine XS.ixor X0.here hx rfl (hb hby d2_14) rfl ?_
                                  show Steps p.tables e below (s₁.setTop (mkF m 15 #[.val (.ref a0), .val (.ref a1), .val (.int (15 : Int32)), .val (.int v132)] [(.int ((own_get vs_a0 (15 : Int32)) ^^^ (own_get vs_a1 (15 : Int32))))])) _
                                  refine XS.sipush X0.here hx rfl (hb hby d2_15) ?_
                                  show Steps p.tables e below (s₁.setTop (mkF m 18 #[.val (.ref a0), .val (.ref a1), .val (.int (15 : Int32)), .val (.int v132)] [(.int (255 : Int32)), (.int ((own_get vs_a0 (15 : Int32)) ^^^ (own_get vs_a1 (15 : Int32))))])) _
                                  refine XS.iand X0.here hx rfl (hb hby d2_18) rfl ?_
                                  exact k)
                                obtain ⟨v141, hv141⟩ : ∃ z : Int32, z = (((own_get vs_a0 (15 : Int32)) ^^^ (own_get vs_a1 (15 : Int32))) &&& (255 : Int32)) := ⟨_, rfl⟩
                                have pre142 : ∀ t, Steps p.tables e below (s₁.setTop (mkF m 19 #[.val (.ref a0), .val (.ref a1), .val (.int (15 : Int32)), .val (.int v132)] [(.int v141)])) t → Steps p.tables e below (s₁.setTop (entryFrame m #[(.ref a0), (.ref a1)] 4)) t := fun t k => pre140 t (by rw [hv141] at k; exact k)
                                have pre143 : ∀ t, Steps p.tables e below (s₁.setTop (mkF m 21 #[.val (.ref a0), .val (.ref a1), .val (.int (15 : Int32)), .val (.int v141)] [(.int v141)])) t → Steps p.tables e below (s₁.setTop (entryFrame m #[(.ref a0), (.ref a1)] 4)) t := fun t k => pre142 t (by
                                  show Steps p.tables e below (s₁.setTop (mkF m 19 #[.val (.ref a0), .val (.ref a1), .val (.int (15 : Int32)), .val (.int v132)] [(.int v141)])) _
                                  refine XS.istoreN X0.here hx rfl (hb hby d2_19) rfl (l' := #[.val (.ref a0), .val (.ref a1), .val (.int (15 : Int32)), .val (.int v141)]) rfl ?_
                                  show Steps p.tables e below (s₁.setTop (mkF m 20 #[.val (.ref a0), .val (.ref a1), .val (.int (15 : Int32)), .val (.int v141)] [])) _
                                  refine XS.iloadN X0.here hx rfl (hb hby d2_20) rfl ?_
                                  exact k)
                                by_cases hc144 : v141 = (0 : Int32)
                                · have pre145 : ∀ t, Steps p.tables e below (s₁.setTop (mkF m 10 #[.val (.ref a0), .val (.ref a1), .val (.int (16 : Int32)), .val (.int v141)] [(.int (16 : Int32)), (.ref a0)])) t → Steps p.tables e below (s₁.setTop (entryFrame m #[(.ref a0), (.ref a1)] 4)) t := fun t k => pre143 t (by
                                    show Steps p.tables e below (s₁.setTop (mkF m 21 #[.val (.ref a0), .val (.ref a1), .val (.int (15 : Int32)), .val (.int v141)] [(.int v141)])) _
                                    refine XS.ifYes X0.here hx rfl (pc0 := 21) (pc' := 40) rfl (hb hby d2_21) rfl ((if0 _ _).trans (teq hc144).1) (by decide) (by decide) ?_
                                    show Steps p.tables e below (s₁.setTop (mkF m 40 #[.val (.ref a0), .val (.ref a1), .val (.int (15 : Int32)), .val (.int v141)] [])) _
                                    refine XS.iinc X0.here hx rfl (hb hby d2_40) rfl (l' := #[.val (.ref a0), .val (.ref a1), .val (.int (16 : Int32)), .val (.int v141)]) rfl ?_
                                    show Steps p.tables e below (s₁.setTop (mkF m 43 #[.val (.ref a0), .val (.ref a1), .val (.int (16 : Int32)), .val (.int v141)] [])) _
                                    refine XS.goto X0.here hx rfl (pc0 := 43) (pc' := 2) rfl (hb hby d2_43) (by decide) (by decide) ?_
                                    show Steps p.tables e below (s₁.setTop (mkF m 2 #[.val (.ref a0), .val (.ref a1), .val (.int (16 : Int32)), .val (.int v141)] [])) _
                                    refine XS.iloadN X0.here hx rfl (hb hby d2_2) rfl ?_
                                    show Steps p.tables e below (s₁.setTop (mkF m 3 #[.val (.ref a0), .val (.ref a1), .val (.int (16 : Int32)), .val (.int v141)] [(.int (16 : Int32))])) _
                                    refine XS.bipush X0.here hx rfl (hb hby d2_3) ?_
                                    show Steps p.tables e below (s₁.setTop (mkF m 5 #[.val (.ref a0), .val (.ref a1), .val (.int (16 : Int32)), .val (.int v141)] [(.int (32 : Int32)), (.int (16 : Int32))])) _
                                    refine XS.icmpNo X0.here hx rfl (hb hby d2_5) rfl (tlt ((by decide) : (16 : Int32) < (32 : Int32))).2.1 ?_
                                    show Steps p.tables e below (s₁.setTop (mkF m 8 #[.val (.ref a0), .val (.ref a1), .val (.int (16 : Int32)), .val (.int v141)] [])) _
                                    refine XS.aloadN X0.here hx rfl (hb hby d2_8) rfl rfl ?_
                                    show Steps p.tables e below (s₁.setTop (mkF m 9 #[.val (.ref a0), .val (.ref a1), .val (.int (16 : Int32)), .val (.int v141)] [(.ref a0)])) _
                                    refine XS.iloadN X0.here hx rfl (hb hby d2_9) rfl ?_
                                    exact k)
                                  obtain ⟨cl146, Ar146, q146, S146, M146, H146, G146⟩ := id V_a0
                                  have hin146 : ¬ ((16 : Int32) < 0 ∨ cl146.slots.size ≤ ((16 : Int32)).toNatClampNeg) := inb_of S146 ⟨by decide, by decide⟩
                                  have hat146 : cl146.slots[((16 : Int32)).toNatClampNeg]? = some (.int (own_get vs_a0 (16 : Int32))) := H146.at hin146 (own_getD vs_a0 (16 : Int32))
                                  have pre147 : ∀ t, Steps p.tables e below (s₁.setTop (mkF m 13 #[.val (.ref a0), .val (.ref a1), .val (.int (16 : Int32)), .val (.int v141)] [(.int (16 : Int32)), (.ref a1), (.int (own_get vs_a0 (16 : Int32)))])) t → Steps p.tables e below (s₁.setTop (entryFrame m #[(.ref a0), (.ref a1)] 4)) t := fun t k => pre145 t (by
                                    show Steps p.tables e below (s₁.setTop (mkF m 10 #[.val (.ref a0), .val (.ref a1), .val (.int (16 : Int32)), .val (.int v141)] [(.int (16 : Int32)), (.ref a0)])) _
                                    refine X0.baloadBytes hx (j := (16 : Int32)) (v := (.int (own_get vs_a0 (16 : Int32)))) (by rw [e0]; exact Ar146.1) (State.isArrayOf_alike hZ.alike Ar146.2.1) Ar146.2.2 hin146 hat146 (g := (mkF m 10 #[.val (.ref a0), .val (.ref a1), .val (.int (16 : Int32)), .val (.int v141)] [(.int (16 : Int32)), (.ref a0)])) rfl rfl (hb hby d2_10) _ ?_
                                    show Steps p.tables e below (s₁.setTop (mkF m 11 #[.val (.ref a0), .val (.ref a1), .val (.int (16 : Int32)), .val (.int v141)] [(.int (own_get vs_a0 (16 : Int32)))])) _
                                    refine XS.aloadN X0.here hx rfl (hb hby d2_11) rfl rfl ?_
                                    show Steps p.tables e below (s₁.setTop (mkF m 12 #[.val (.ref a0), .val (.ref a1), .val (.int (16 : Int32)), .val (.int v141)] [(.ref a1), (.int (own_get vs_a0 (16 : Int32)))])) _
                                    refine XS.iloadN X0.here hx rfl (hb hby d2_12) rfl ?_
                                    exact k)
                                  obtain ⟨cl148, Ar148, q148, S148, M148, H148, G148⟩ := id V_a1
                                  have hin148 : ¬ ((16 : Int32) < 0 ∨ cl148.slots.size ≤ ((16 : Int32)).toNatClampNeg) := inb_of S148 ⟨by decide, by decide⟩
                                  have hat148 : cl148.slots[((16 : Int32)).toNatClampNeg]? = some (.int (own_get vs_a1 (16 : Int32))) := H148.at hin148 (own_getD vs_a1 (16 : Int32))
                                  have pre149 : ∀ t, Steps p.tables e below (s₁.setTop (mkF m 19 #[.val (.ref a0), .val (.ref a1), .val (.int (16 : Int32)), .val (.int v141)] [(.int (((own_get vs_a0 (16 : Int32)) ^^^ (own_get vs_a1 (16 : Int32))) &&& (255 : Int32)))])) t → Steps p.tables e below (s₁.setTop (entryFrame m #[(.ref a0), (.ref a1)] 4)) t := fun t k => pre147 t (by
                                    show Steps p.tables e below (s₁.setTop (mkF m 13 #[.val (.ref a0), .val (.ref a1), .val (.int (16 : Int32)), .val (.int v141)] [(.int (16 : Int32)), (.ref a1), (.int (own_get vs_a0 (16 : Int32)))])) _
                                    refine X0.baloadBytes hx (j := (16 : Int32)) (v := (.int (own_get vs_a1 (16 : Int32)))) (by rw [e0]; exact Ar148.1) (State.isArrayOf_alike hZ.alike Ar148.2.1) Ar148.2.2 hin148 hat148 (g := (mkF m 13 #[.val (.ref a0), .val (.ref a1), .val (.int (16 : Int32)), .val (.int v141)] [(.int (16 : Int32)), (.ref a1), (.int (own_get vs_a0 (16 : Int32)))])) rfl rfl (hb hby d2_13) _ ?_
                                    show Steps p.tables e below (s₁.setTop (mkF m 14 #[.val (.ref a0), .val (.ref a1), .val (.int (16 : Int32)), .val (.int v141)] [(.int (own_get vs_a1 (16 : Int32))), (.int (own_get vs_a0 (16 : Int32)))])) _
                                    refine XS.ixor X0.here hx rfl (hb hby d2_14) rfl ?_
                                    show Steps p.tables e below (s₁.setTop (mkF m 15 #[.val (.ref a0), .val (.ref a1), .val (.int (16 : Int32)), .val (.int v141)] [(.int ((own_get vs_a0 (16 : Int32)) ^^^ (own_get vs_a1 (16 : Int32))))])) _
                                    refine XS.sipush X0.here hx rfl (hb hby d2_15) ?_
                                    show Steps p.tables e below (s₁.setTop (mkF m 18 #[.val (.ref a0), .val (.ref a1), .val (.int (16 : Int32)), .val (.int v141)] [(.int (255 : Int32)), (.int ((own_get vs_a0 (16 : Int32)) ^^^ (own_get vs_a1 (16 : Int32))))])) _
                                    refine XS.iand X0.here hx rfl (hb hby d2_18) rfl ?_
                                    exact k)
                                  obtain ⟨v150, hv150⟩ : ∃ z : Int32, z = (((own_get vs_a0 (16 : Int32)) ^^^ (own_get vs_a1 (16 : Int32))) &&& (255 : Int32)) := ⟨_, rfl⟩
                                  have pre151 : ∀ t, Steps p.tables e below (s₁.setTop (mkF m 19 #[.val (.ref a0), .val (.ref a1), .val (.int (16 : Int32)), .val (.int v141)] [(.int v150)])) t → Steps p.tables e below (s₁.setTop (entryFrame m #[(.ref a0), (.ref a1)] 4)) t := fun t k => pre149 t (by rw [hv150] at k; exact k)
                                  have pre152 : ∀ t, Steps p.tables e below (s₁.setTop (mkF m 21 #[.val (.ref a0), .val (.ref a1), .val (.int (16 : Int32)), .val (.int v150)] [(.int v150)])) t → Steps p.tables e below (s₁.setTop (entryFrame m #[(.ref a0), (.ref a1)] 4)) t := fun t k => pre151 t (by
                                    show Steps p.tables e below (s₁.setTop (mkF m 19 #[.val (.ref a0), .val (.ref a1), .val (.int (16 : Int32)), .val (.int v141)] [(.int v150)])) _
                                    refine XS.istoreN X0.here hx rfl (hb hby d2_19) rfl (l' := #[.val (.ref a0), .val (.ref a1), .val (.int (16 : Int32)), .val (.int v150)]) rfl ?_
                                    show Steps p.tables e below (s₁.setTop (mkF m 20 #[.val (.ref a0), .val (.ref a1), .val (.int (16 : Int32)), .val (.int v150)] [])) _
                                    refine XS.iloadN X0.here hx rfl (hb hby d2_20) rfl ?_
                                    exact k)
                                  by_cases hc153 : v150 = (0 : Int32)
                                  · have pre154 : ∀ t, Steps p.tables e below (s₁.setTop (mkF m 10 #[.val (.ref a0), .val (.ref a1), .val (.int (17 : Int32)), .val (.int v150)] [(.int (17 : Int32)), (.ref a0)])) t → Steps p.tables e below (s₁.setTop (entryFrame m #[(.ref a0), (.ref a1)] 4)) t := fun t k => pre152 t (by
                                      show Steps p.tables e below (s₁.setTop (mkF m 21 #[.val (.ref a0), .val (.ref a1), .val (.int (16 : Int32)), .val (.int v150)] [(.int v150)])) _
                                      refine XS.ifYes X0.here hx rfl (pc0 := 21) (pc' := 40) rfl (hb hby d2_21) rfl ((if0 _ _).trans (teq hc153).1) (by decide) (by decide) ?_
                                      show Steps p.tables e below (s₁.setTop (mkF m 40 #[.val (.ref a0), .val (.ref a1), .val (.int (16 : Int32)), .val (.int v150)] [])) _
                                      refine XS.iinc X0.here hx rfl (hb hby d2_40) rfl (l' := #[.val (.ref a0), .val (.ref a1), .val (.int (17 : Int32)), .val (.int v150)]) rfl ?_
                                      show Steps p.tables e below (s₁.setTop (mkF m 43 #[.val (.ref a0), .val (.ref a1), .val (.int (17 : Int32)), .val (.int v150)] [])) _
                                      refine XS.goto X0.here hx rfl (pc0 := 43) (pc' := 2) rfl (hb hby d2_43) (by decide) (by decide) ?_
                                      show Steps p.tables e below (s₁.setTop (mkF m 2 #[.val (.ref a0), .val (.ref a1), .val (.int (17 : Int32)), .val (.int v150)] [])) _
                                      refine XS.iloadN X0.here hx rfl (hb hby d2_2) rfl ?_
                                      show Steps p.tables e below (s₁.setTop (mkF m 3 #[.val (.ref a0), .val (.ref a1), .val (.int (17 : Int32)), .val (.int v150)] [(.int (17 : Int32))])) _
                                      refine XS.bipush X0.here hx rfl (hb hby d2_3) ?_
                                      show Steps p.tables e below (s₁.setTop (mkF m 5 #[.val (.ref a0), .val (.ref a1), .val (.int (17 : Int32)), .val (.int v150)] [(.int (32 : Int32)), (.int (17 : Int32))])) _
                                      refine XS.icmpNo X0.here hx rfl (hb hby d2_5) rfl (tlt ((by decide) : (17 : Int32) < (32 : Int32))).2.1 ?_
                                      show Steps p.tables e below (s₁.setTop (mkF m 8 #[.val (.ref a0), .val (.ref a1), .val (.int (17 : Int32)), .val (.int v150)] [])) _
                                      refine XS.aloadN X0.here hx rfl (hb hby d2_8) rfl rfl ?_
                                      show Steps p.tables e below (s₁.setTop (mkF m 9 #[.val (.ref a0), .val (.ref a1), .val (.int (17 : Int32)), .val (.int v150)] [(.ref a0)])) _
                                      refine XS.iloadN X0.here hx rfl (hb hby d2_9) rfl ?_
                                      exact k)
                                    obtain ⟨cl155, Ar155, q155, S155, M155, H155, G155⟩ := id V_a0
                                    have hin155 : ¬ ((17 : Int32) < 0 ∨ cl155.slots.size ≤ ((17 : Int32)).toNatClampNeg) := inb_of S155 ⟨by decide, by decide⟩
                                    have hat155 : cl155.slots[((17 : Int32)).toNatClampNeg]? = some (.int (own_get vs_a0 (17 : Int32))) := H155.at hin155 (own_getD vs_a0 (17 : Int32))
                                    have pre156 : ∀ t, Steps p.tables e below (s₁.setTop (mkF m 13 #[.val (.ref a0), .val (.ref a1), .val (.int (17 : Int32)), .val (.int v150)] [(.int (17 : Int32)), (.ref a1), (.int (own_get vs_a0 (17 : Int32)))])) t → Steps p.tables e below (s₁.setTop (entryFrame m #[(.ref a0), (.ref a1)] 4)) t := fun t k => pre154 t (by
                                      show Steps p.tables e below (s₁.setTop (mkF m 10 #[.val (.ref a0), .val (.ref a1), .val (.int (17 : Int32)), .val (.int v150)] [(.int (17 : Int32)), (.ref a0)])) _
                                      refine X0.baloadBytes hx (j := (17 : Int32)) (v := (.int (own_get vs_a0 (17 : Int32)))) (by rw [e0]; exact Ar155.1) (State.isArrayOf_alike hZ.alike Ar155.2.1) Ar155.2.2 hin155 hat155 (g := (mkF m 10 #[.val (.ref a0), .val (.ref a1), .val (.int (17 : Int32)), .val (.int v150)] [(.int (17 : Int32)), (.ref a0)])) rfl rfl (hb hby d2_10) _ ?_
                                      show Steps p.tables e below (s₁.setTop (mkF m 11 #[.val (.ref a0), .val (.ref a1), .val (.int (17 : Int32)), .val (.int v150)] [(.int (own_get vs_a0 (17 : Int32)))])) _
                                      refine XS.aloadN X0.here hx rfl (hb hby d2_11) rfl rfl ?_
                                      show Steps p.tables e below (s₁.setTop (mkF m 12 #[.val (.ref a0), .val (.ref a1), .val (.int (17 : Int32)), .val (.int v150)] [(.ref a1), (.int (own_get vs_a0 (17 : Int32)))])) _
                                      refine XS.iloadN X0.here hx rfl (hb hby d2_12) rfl ?_
                                      exact k)
                                    obtain ⟨cl157, Ar157, q157, S157, M157, H157, G157⟩ := id V_a1
                                    have hin157 : ¬ ((17 : Int32) < 0 ∨ cl157.slots.size ≤ ((17 : Int32)).toNatClampNeg) := inb_of S157 ⟨by decide, by decide⟩
                                    have hat157 : cl157.slots[((17 : Int32)).toNatClampNeg]? = some (.int (own_get vs_a1 (17 : Int32))) := H157.at hin157 (own_getD vs_a1 (17 : Int32))
                                    have pre158 : ∀ t, Steps p.tables e below (s₁.setTop (mkF m 19 #[.val (.ref a0), .val (.ref a1), .val (.int (17 : Int32)), .val (.int v150)] [(.int (((own_get vs_a0 (17 : Int32)) ^^^ (own_get vs_a1 (17 : Int32))) &&& (255 : Int32)))])) t → Steps p.tables e below (s₁.setTop (entryFrame m #[(.ref a0), (.ref a1)] 4)) t := fun t k => pre156 t (by
                                      show Steps p.tables e below (s₁.setTop (mkF m 13 #[.val (.ref a0), .val (.ref a1), .val (.int (17 : Int32)), .val (.int v150)] [(.int (17 : Int32)), (.ref a1), (.int (own_get vs_a0 (17 : Int32)))])) _
                                      refine X0.baloadBytes hx (j := (17 : Int32)) (v := (.int (own_get vs_a1 (17 : Int32)))) (by rw [e0]; exact Ar157.1) (State.isArrayOf_alike hZ.alike Ar157.2.1) Ar157.2.2 hin157 hat157 (g := (mkF m 13 #[.val (.ref a0), .val (.ref a1), .val (.int (17 : Int32)), .val (.int v150)] [(.int (17 : Int32)), (.ref a1), (.int (own_get vs_a0 (17 : Int32)))])) rfl rfl (hb hby d2_13) _ ?_
                                      show Steps p.tables e below (s₁.setTop (mkF m 14 #[.val (.ref a0), .val (.ref a1), .val (.int (17 : Int32)), .val (.int v150)] [(.int (own_get vs_a1 (17 : Int32))), (.int (own_get vs_a0 (17 : Int32)))])) _
                                      refine XS.ixor X0.here hx rfl (hb hby d2_14) rfl ?_
                                      show Steps p.tables e below (s₁.setTop (mkF m 15 #[.val (.ref a0), .val (.ref a1), .val (.int (17 : Int32)), .val (.int v150)] [(.int ((own_get vs_a0 (17 : Int32)) ^^^ (own_get vs_a1 (17 : Int32))))])) _
                                      refine XS.sipush X0.here hx rfl (hb hby d2_15) ?_
                                      show Steps p.tables e below (s₁.setTop (mkF m 18 #[.val (.ref a0), .val (.ref a1), .val (.int (17 : Int32)), .val (.int v150)] [(.int (255 : Int32)), (.int ((own_get vs_a0 (17 : Int32)) ^^^ (own_get vs_a1 (17 : Int32))))])) _
                                      refine XS.iand X0.here hx rfl (hb hby d2_18) rfl ?_
                                      exact k)
                                    obtain ⟨v159, hv159⟩ : ∃ z : Int32, z = (((own_get vs_a0 (17 : Int32)) ^^^ (own_get vs_a1 (17 : Int32))) &&& (255 : Int32)) := ⟨_, rfl⟩
                                    have pre160 : ∀ t, Steps p.tables e below (s₁.setTop (mkF m 19 #[.val (.ref a0), .val (.ref a1), .val (.int (17 : Int32)), .val (.int v150)] [(.int v159)])) t → Steps p.tables e below (s₁.setTop (entryFrame m #[(.ref a0), (.ref a1)] 4)) t := fun t k => pre158 t (by rw [hv159] at k; exact k)
                                    have pre161 : ∀ t, Steps p.tables e below (s₁.setTop (mkF m 21 #[.val (.ref a0), .val (.ref a1), .val (.int (17 : Int32)), .val (.int v159)] [(.int v159)])) t → Steps p.tables e below (s₁.setTop (entryFrame m #[(.ref a0), (.ref a1)] 4)) t := fun t k => pre160 t (by
                                      show Steps p.tables e below (s₁.setTop (mkF m 19 #[.val (.ref a0), .val (.ref a1), .val (.int (17 : Int32)), .val (.int v150)] [(.int v159)])) _
                                      refine XS.istoreN X0.here hx rfl (hb hby d2_19) rfl (l' := #[.val (.ref a0), .val (.ref a1), .val (.int (17 : Int32)), .val (.int v159)]) rfl ?_
                                      show Steps p.tables e below (s₁.setTop (mkF m 20 #[.val (.ref a0), .val (.ref a1), .val (.int (17 : Int32)), .val (.int v159)] [])) _
                                      refine XS.iloadN X0.here hx rfl (hb hby d2_20) rfl ?_
                                      exact k)
                                    by_cases hc162 : v159 = (0 : Int32)
                                    · have pre163 : ∀ t, Steps p.tables e below (s₁.setTop (mkF m 10 #[.val (.ref a0), .val (.ref a1), .val (.int (18 : Int32)), .val (.int v159)] [(.int (18 : Int32)), (.ref a0)])) t → Steps p.tables e below (s₁.setTop (entryFrame m #[(.ref a0), (.ref a1)] 4)) t := fun t k => pre161 t (by
                                        show Steps p.tables e below (s₁.setTop (mkF m 21 #[.val (.ref a0), .val (.ref a1), .val (.int (17 : Int32)), .val (.int v159)] [(.int v159)])) _
                                        refine XS.ifYes X0.here hx rfl (pc0 := 21) (pc' := 40) rfl (hb hby d2_21) rfl ((if0 _ _).trans (teq hc162).1) (by decide) (by decide) ?_
                                        show Steps p.tables e below (s₁.setTop (mkF m 40 #[.val (.ref a0), .val (.ref a1), .val (.int (17 : Int32)), .val (.int v159)] [])) _
                                        refine XS.iinc X0.here hx rfl (hb hby d2_40) rfl (l' := #[.val (.ref a0), .val (.ref a1), .val (.int (18 : Int32)), .val (.int v159)]) rfl ?_
                                        show Steps p.tables e below (s₁.setTop (mkF m 43 #[.val (.ref a0), .val (.ref a1), .val (.int (18 : Int32)), .val (.int v159)] [])) _
                                        refine XS.goto X0.here hx rfl (pc0 := 43) (pc' := 2) rfl (hb hby d2_43) (by decide) (by decide) ?_
                                        show Steps p.tables e below (s₁.setTop (mkF m 2 #[.val (.ref a0), .val (.ref a1), .val (.int (18 : Int32)), .val (.int v159)] [])) _
                                        refine XS.iloadN X0.here hx rfl (hb hby d2_2) rfl ?_
                                        show Steps p.tables e below (s₁.setTop (mkF m 3 #[.val (.ref a0), .val (.ref a1), .val (.int (18 : Int32)), .val (.int v159)] [(.int (18 : Int32))])) _
                                        refine XS.bipush X0.here hx rfl (hb hby d2_3) ?_
                                        show Steps p.tables e below (s₁.setTop (mkF m 5 #[.val (.ref a0), .val (.ref a1), .val (.int (18 : Int32)), .val (.int v159)] [(.int (32 : Int32)), (.int (18 : Int32))])) _
                                        refine XS.icmpNo X0.here hx rfl (hb hby d2_5) rfl (tlt ((by decide) : (18 : Int32) < (32 : Int32))).2.1 ?_
                                        show Steps p.tables e below (s₁.setTop (mkF m 8 #[.val (.ref a0), .val (.ref a1), .val (.int (18 : Int32)), .val (.int v159)] [])) _
                                        refine XS.aloadN X0.here hx rfl (hb hby d2_8) rfl rfl ?_
                                        show Steps p.tables e below (s₁.setTop (mkF m 9 #[.val (.ref a0), .val (.ref a1), .val (.int (18 : Int32)), .val (.int v159)] [(.ref a0)])) _
                                        refine XS.iloadN X0.here hx rfl (hb hby d2_9) rfl ?_
                                        exact k)
                                      obtain ⟨cl164, Ar164, q164, S164, M164, H164, G164⟩ := id V_a0
                                      have hin164 : ¬ ((18 : Int32) < 0 ∨ cl164.slots.size ≤ ((18 : Int32)).toNatClampNeg) := inb_of S164 ⟨by decide, by decide⟩
                                      have hat164 : cl164.slots[((18 : Int32)).toNatClampNeg]? = some (.int (own_get vs_a0 (18 : Int32))) := H164.at hin164 (own_getD vs_a0 (18 : Int32))
                                      have pre165 : ∀ t, Steps p.tables e below (s₁.setTop (mkF m 13 #[.val (.ref a0), .val (.ref a1), .val (.int (18 : Int32)), .val (.int v159)] [(.int (18 : Int32)), (.ref a1), (.int (own_get vs_a0 (18 : Int32)))])) t → Steps p.tables e below (s₁.setTop (entryFrame m #[(.ref a0), (.ref a1)] 4)) t := fun t k => pre163 t (by
                                        show Steps p.tables e below (s₁.setTop (mkF m 10 #[.val (.ref a0), .val (.ref a1), .val (.int (18 : Int32)), .val (.int v159)] [(.int (18 : Int32)), (.ref a0)])) _
                                        refine X0.baloadBytes hx (j := (18 : Int32)) (v := (.int (own_get vs_a0 (18 : Int32)))) (by rw [e0]; exact Ar164.1) (State.isArrayOf_alike hZ.alike Ar164.2.1) Ar164.2.2 hin164 hat164 (g := (mkF m 10 #[.val (.ref a0), .val (.ref a1), .val (.int (18 : Int32)), .val (.int v159)] [(.int (18 : Int32)), (.ref a0)])) rfl rfl (hb hby d2_10) _ ?_
                                        show Steps p.tables e below (s₁.setTop (mkF m 11 #[.val (.ref a0), .val (.ref a1), .val (.int (18 : Int32)), .val (.int v159)] [(.int (own_get vs_a0 (18 : Int32)))])) _
                                        refine XS.aloadN X0.here hx rfl (hb hby d2_11) rfl rfl ?_
                                        show Steps p.tables e below (s₁.setTop (mkF m 12 #[.val (.ref a0), .val (.ref a1), .val (.int (18 : Int32)), .val (.int v159)] [(.ref a1), (.int (own_get vs_a0 (18 : Int32)))])) _
                                        refine XS.iloadN X0.here hx rfl (hb hby d2_12) rfl ?_
                                        exact k)
                                      obtain ⟨cl166, Ar166, q166, S166, M166, H166, G166⟩ := id V_a1
                                      have hin166 : ¬ ((18 : Int32) < 0 ∨ cl166.slots.size ≤ ((18 : Int32)).toNatClampNeg) := inb_of S166 ⟨by decide, by decide⟩
                                      have hat166 : cl166.slots[((18 : Int32)).toNatClampNeg]? = some (.int (own_get vs_a1 (18 : Int32))) := H166.at hin166 (own_getD vs_a1 (18 : Int32))
                                      have pre167 : ∀ t, Steps p.tables e below (s₁.setTop (mkF m 19 #[.val (.ref a0), .val (.ref a1), .val (.int (18 : Int32)), .val (.int v159)] [(.int (((own_get vs_a0 (18 : Int32)) ^^^ (own_get vs_a1 (18 : Int32))) &&& (255 : Int32)))])) t → Steps p.tables e below (s₁.setTop (entryFrame m #[(.ref a0), (.ref a1)] 4)) t := fun t k => pre165 t (by
                                        show Steps p.tables e below (s₁.setTop (mkF m 13 #[.val (.ref a0), .val (.ref a1), .val (.int (18 : Int32)), .val (.int v159)] [(.int (18 : Int32)), (.ref a1), (.int (own_get vs_a0 (18 : Int32)))])) _
                                        refine X0.baloadBytes hx (j := (18 : Int32)) (v := (.int (own_get vs_a1 (18 : Int32)))) (by rw [e0]; exact Ar166.1) (State.isArrayOf_alike hZ.alike Ar166.2.1) Ar166.2.2 hin166 hat166 (g := (mkF m 13 #[.val (.ref a0), .val (.ref a1), .val (.int (18 : Int32)), .val (.int v159)] [(.int (18 : Int32)), (.ref a1), (.int (own_get vs_a0 (18 : Int32)))])) rfl rfl (hb hby d2_13) _ ?_
                                        show Steps p.tables e below (s₁.setTop (mkF m 14 #[.val (.ref a0), .val (.ref a1), .val (.int (18 : Int32)), .val (.int v159)] [(.int (own_get vs_a1 (18 : Int32))), (.int (own_get vs_a0 (18 : Int32)))])) _
                                        refine XS.ixor X0.here hx rfl (hb hby d2_14) rfl ?_
                                        show Steps p.tables e below (s₁.setTop (mkF m 15 #[.val (.ref a0), .val (.ref a1), .val (.int (18 : Int32)), .val (.int v159)] [(.int ((own_get vs_a0 (18 : Int32)) ^^^ (own_get vs_a1 (18 : Int32))))])) _
                                        refine XS.sipush X0.here hx rfl (hb hby d2_15) ?_
                                        show Steps p.tables e below (s₁.setTop (mkF m 18 #[.val (.ref a0), .val (.ref a1), .val (.int (18 : Int32)), .val (.int v159)] [(.int (255 : Int32)), (.int ((own_get vs_a0 (18 : Int32)) ^^^ (own_get vs_a1 (18 : Int32))))])) _
                                        refine XS.iand X0.here hx rfl (hb hby d2_18) rfl ?_
                                        exact k)
                                      obtain ⟨v168, hv168⟩ : ∃ z : Int32, z = (((own_get vs_a0 (18 : Int32)) ^^^ (own_get vs_a1 (18 : Int32))) &&& (255 : Int32)) := ⟨_, rfl⟩
                                      have pre169 : ∀ t, Steps p.tables e below (s₁.setTop (mkF m 19 #[.val (.ref a0), .val (.ref a1), .val (.int (18 : Int32)), .val (.int v159)] [(.int v168)])) t → Steps p.tables e below (s₁.setTop (entryFrame m #[(.ref a0), (.ref a1)] 4)) t := fun t k => pre167 t (by rw [hv168] at k; exact k)
                                      have pre170 : ∀ t, Steps p.tables e below (s₁.setTop (mkF m 21 #[.val (.ref a0), .val (.ref a1), .val (.int (18 : Int32)), .val (.int v168)] [(.int v168)])) t → Steps p.tables e below (s₁.setTop (entryFrame m #[(.ref a0), (.ref a1)] 4)) t := fun t k => pre169 t (by
                                        show Steps p.tables e below (s₁.setTop (mkF m 19 #[.val (.ref a0), .val (.ref a1), .val (.int (18 : Int32)), .val (.int v159)] [(.int v168)])) _
                                        refine XS.istoreN X0.here hx rfl (hb hby d2_19) rfl (l' := #[.val (.ref a0), .val (.ref a1), .val (.int (18 : Int32)), .val (.int v168)]) rfl ?_
                                        show Steps p.tables e below (s₁.setTop (mkF m 20 #[.val (.ref a0), .val (.ref a1), .val (.int (18 : Int32)), .val (.int v168)] [])) _
                                        refine XS.iloadN X0.here hx rfl (hb hby d2_20) rfl ?_
                                        exact k)
                                      by_cases hc171 : v168 = (0 : Int32)
                                      · have pre172 : ∀ t, Steps p.tables e below (s₁.setTop (mkF m 10 #[.val (.ref a0), .val (.ref a1), .val (.int (19 : Int32)), .val (.int v168)] [(.int (19 : Int32)), (.ref a0)])) t → Steps p.tables e below (s₁.setTop (entryFrame m #[(.ref a0), (.ref a1)] 4)) t := fun t k => pre170 t (by
                                          show Steps p.tables e below (s₁.setTop (mkF m 21 #[.val (.ref a0), .val (.ref a1), .val (.int (18 : Int32)), .val (.int v168)] [(.int v168)])) _
                                          refine XS.ifYes X0.here hx rfl (pc0 := 21) (pc' := 40) rfl (hb hby d2_21) rfl ((if0 _ _).trans (teq hc171).1) (by decide) (by decide) ?_
                                          show Steps p.tables e below (s₁.setTop (mkF m 40 #[.val (.ref a0), .val (.ref a1), .val (.int (18 : Int32)), .val (.int v168)] [])) _
                                          refine XS.iinc X0.here hx rfl (hb hby d2_40) rfl (l' := #[.val (.ref a0), .val (.ref a1), .val (.int (19 : Int32)), .val (.int v168)]) rfl ?_
                                          show Steps p.tables e below (s₁.setTop (mkF m 43 #[.val (.ref a0), .val (.ref a1), .val (.int (19 : Int32)), .val (.int v168)] [])) _
                                          refine XS.goto X0.here hx rfl (pc0 := 43) (pc' := 2) rfl (hb hby d2_43) (by decide) (by decide) ?_
                                          show Steps p.tables e below (s₁.setTop (mkF m 2 #[.val (.ref a0), .val (.ref a1), .val (.int (19 : Int32)), .val (.int v168)] [])) _
                                          refine XS.iloadN X0.here hx rfl (hb hby d2_2) rfl ?_
                                          show Steps p.tables e below (s₁.setTop (mkF m 3 #[.val (.ref a0), .val (.ref a1), .val (.int (19 : Int32)), .val (.int v168)] [(.int (19 : Int32))])) _
                                          refine XS.bipush X0.here hx rfl (hb hby d2_3) ?_
                                          show Steps p.tables e below (s₁.setTop (mkF m 5 #[.val (.ref a0), .val (.ref a1), .val (.int (19 : Int32)), .val (.int v168)] [(.int (32 : Int32)), (.int (19 : Int32))])) _
                                          refine XS.icmpNo X0.here hx rfl (hb hby d2_5) rfl (tlt ((by decide) : (19 : Int32) < (32 : Int32))).2.1 ?_
                                          show Steps p.tables e below (s₁.setTop (mkF m 8 #[.val (.ref a0), .val (.ref a1), .val (.int (19 : Int32)), .val (.int v168)] [])) _
                                          refine XS.aloadN X0.here hx rfl (hb hby d2_8) rfl rfl ?_
                                          show Steps p.tables e below (s₁.setTop (mkF m 9 #[.val (.ref a0), .val (.ref a1), .val (.int (19 : Int32)), .val (.int v168)] [(.ref a0)])) _
                                          refine XS.iloadN X0.here hx rfl (hb hby d2_9) rfl ?_
                                          exact k)
                                        obtain ⟨cl173, Ar173, q173, S173, M173, H173, G173⟩ := id V_a0
                                        have hin173 : ¬ ((19 : Int32) < 0 ∨ cl173.slots.size ≤ ((19 : Int32)).toNatClampNeg) := inb_of S173 ⟨by decide, by decide⟩
                                        have hat173 : cl173.slots[((19 : Int32)).toNatClampNeg]? = some (.int (own_get vs_a0 (19 : Int32))) := H173.at hin173 (own_getD vs_a0 (19 : Int32))
                                        have pre174 : ∀ t, Steps p.tables e below (s₁.setTop (mkF m 13 #[.val (.ref a0), .val (.ref a1), .val (.int (19 : Int32)), .val (.int v168)] [(.int (19 : Int32)), (.ref a1), (.int (own_get vs_a0 (19 : Int32)))])) t → Steps p.tables e below (s₁.setTop (entryFrame m #[(.ref a0), (.ref a1)] 4)) t := fun t k => pre172 t (by
                                          show Steps p.tables e below (s₁.setTop (mkF m 10 #[.val (.ref a0), .val (.ref a1), .val (.int (19 : Int32)), .val (.int v168)] [(.int (19 : Int32)), (.ref a0)])) _
                                          refine X0.baloadBytes hx (j := (19 : Int32)) (v := (.int (own_get vs_a0 (19 : Int32)))) (by rw [e0]; exact Ar173.1) (State.isArrayOf_alike hZ.alike Ar173.2.1) Ar173.2.2 hin173 hat173 (g := (mkF m 10 #[.val (.ref a0), .val (.ref a1), .val (.int (19 : Int32)), .val (.int v168)] [(.int (19 : Int32)), (.ref a0)])) rfl rfl (hb hby d2_10) _ ?_
                                          show Steps p.tables e below (s₁.setTop (mkF m 11 #[.val (.ref a0), .val (.ref a1), .val (.int (19 : Int32)), .val (.int v168)] [(.int (own_get vs_a0 (19 : Int32)))])) _
                                          refine XS.aloadN X0.here hx rfl (hb hby d2_11) rfl rfl ?_
                                          show Steps p.tables e below (s₁.setTop (mkF m 12 #[.val (.ref a0), .val (.ref a1), .val (.int (19 : Int32)), .val (.int v168)] [(.ref a1), (.int (own_get vs_a0 (19 : Int32)))])) _
                                          refine XS.iloadN X0.here hx rfl (hb hby d2_12) rfl ?_
                                          exact k)
                                        obtain ⟨cl175, Ar175, q175, S175, M175, H175, G175⟩ := id V_a1
                                        have hin175 : ¬ ((19 : Int32) < 0 ∨ cl175.slots.size ≤ ((19 : Int32)).toNatClampNeg) := inb_of S175 ⟨by decide, by decide⟩
                                        have hat175 : cl175.slots[((19 : Int32)).toNatClampNeg]? = some (.int (own_get vs_a1 (19 : Int32))) := H175.at hin175 (own_getD vs_a1 (19 : Int32))
                                        have pre176 : ∀ t, Steps p.tables e below (s₁.setTop (mkF m 19 #[.val (.ref a0), .val (.ref a1), .val (.int (19 : Int32)), .val (.int v168)] [(.int (((own_get vs_a0 (19 : Int32)) ^^^ (own_get vs_a1 (19 : Int32))) &&& (255 : Int32)))])) t → Steps p.tables e below (s₁.setTop (entryFrame m #[(.ref a0), (.ref a1)] 4)) t := fun t k => pre174 t (by
                                          show Steps p.tables e below (s₁.setTop (mkF m 13 #[.val (.ref a0), .val (.ref a1), .val (.int (19 : Int32)), .val (.int v168)] [(.int (19 : Int32)), (.ref a1), (.int (own_get vs_a0 (19 : Int32)))])) _
                                          refine X0.baloadBytes hx (j := (19 : Int32)) (v := (.int (own_get vs_a1 (19 : Int32)))) (by rw [e0]; exact Ar175.1) (State.isArrayOf_alike hZ.alike Ar175.2.1) Ar175.2.2 hin175 hat175 (g := (mkF m 13 #[.val (.ref a0), .val (.ref a1), .val (.int (19 : Int32)), .val (.int v168)] [(.int (19 : Int32)), (.ref a1), (.int (own_get vs_a0 (19 : Int32)))])) rfl rfl (hb hby d2_13) _ ?_
                                          show Steps p.tables e below (s₁.setTop (mkF m 14 #[.val (.ref a0), .val (.ref a1), .val (.int (19 : Int32)), .val (.int v168)] [(.int (own_get vs_a1 (19 : Int32))), (.int (own_get vs_a0 (19 : Int32)))])) _
                                          refine XS.ixor X0.here hx rfl (hb hby d2_14) rfl ?_
                                          show Steps p.tables e below (s₁.setTop (mkF m 15 #[.val (.ref a0), .val (.ref a1), .val (.int (19 : Int32)), .val (.int v168)] [(.int ((own_get vs_a0 (19 : Int32)) ^^^ (own_get vs_a1 (19 : Int32))))])) _
                                          refine XS.sipush X0.here hx rfl (hb hby d2_15) ?_
                                          show Steps p.tables e below (s₁.setTop (mkF m 18 #[.val (.ref a0), .val (.ref a1), .val (.int (19 : Int32)), .val (.int v168)] [(.int (255 : Int32)), (.int ((own_get vs_a0 (19 : Int32)) ^^^ (own_get vs_a1 (19 : Int32))))])) _
                                          refine XS.iand X0.here hx rfl (hb hby d2_18) rfl ?_
                                          exact k)
                                        obtain ⟨v177, hv177⟩ : ∃ z : Int32, z = (((own_get vs_a0 (19 : Int32)) ^^^ (own_get vs_a1 (19 : Int32))) &&& (255 : Int32)) := ⟨_, rfl⟩
                                        have pre178 : ∀ t, Steps p.tables e below (s₁.setTop (mkF m 19 #[.val (.ref a0), .val (.ref a1), .val (.int (19 : Int32)), .val (.int v168)] [(.int v177)])) t → Steps p.tables e below (s₁.setTop (entryFrame m #[(.ref a0), (.ref a1)] 4)) t := fun t k => pre176 t (by rw [hv177] at k; exact k)
                                        have pre179 : ∀ t, Steps p.tables e below (s₁.setTop (mkF m 21 #[.val (.ref a0), .val (.ref a1), .val (.int (19 : Int32)), .val (.int v177)] [(.int v177)])) t → Steps p.tables e below (s₁.setTop (entryFrame m #[(.ref a0), (.ref a1)] 4)) t := fun t k => pre178 t (by
                                          show Steps p.tables e below (s₁.setTop (mkF m 19 #[.val (.ref a0), .val (.ref a1), .val (.int (19 : Int32)), .val (.int v168)] [(.int v177)])) _
                                          refine XS.istoreN X0.here hx rfl (hb hby d2_19) rfl (l' := #[.val (.ref a0), .val (.ref a1), .val (.int (19 : Int32)), .val (.int v177)]) rfl ?_
                                          show Steps p.tables e below (s₁.setTop (mkF m 20 #[.val (.ref a0), .val (.ref a1), .val (.int (19 : Int32)), .val (.int v177)] [])) _
                                          refine XS.iloadN X0.here hx rfl (hb hby d2_20) rfl ?_
                                          exact k)
                                        by_cases hc180 : v177 = (0 : Int32)
                                        · have pre181 : ∀ t, Steps p.tables e below (s₁.setTop (mkF m 10 #[.val (.ref a0), .val (.ref a1), .val (.int (20 : Int32)), .val (.int v177)] [(.int (20 : Int32)), (.ref a0)])) t → Steps p.tables e below (s₁.setTop (entryFrame m #[(.ref a0), (.ref a1)] 4)) t := fun t k => pre179 t (by
                                            show Steps p.tables e below (s₁.setTop (mkF m 21 #[.val (.ref a0), .val (.ref a1), .val (.int (19 : Int32)), .val (.int v177)] [(.int v177)])) _
                                            refine XS.ifYes X0.here hx rfl (pc0 := 21) (pc' := 40) rfl (hb hby d2_21) rfl ((if0 _ _).trans (teq hc180).1) (by decide) (by decide) ?_
                                            show Steps p.tables e below (s₁.setTop (mkF m 40 #[.val (.ref a0), .val (.ref a1), .val (.int (19 : Int32)), .val (.int v177)] [])) _
                                            refine XS.iinc X0.here hx rfl (hb hby d2_40) rfl (l' := #[.val (.ref a0), .val (.ref a1), .val (.int (20 : Int32)), .val (.int v177)]) rfl ?_
                                            show Steps p.tables e below (s₁.setTop (mkF m 43 #[.val (.ref a0), .val (.ref a1), .val (.int (20 : Int32)), .val (.int v177)] [])) _
                                            refine XS.goto X0.here hx rfl (pc0 := 43) (pc' := 2) rfl (hb hby d2_43) (by decide) (by decide) ?_
                                            show Steps p.tables e below (s₁.setTop (mkF m 2 #[.val (.ref a0), .val (.ref a1), .val (.int (20 : Int32)), .val (.int v177)] [])) _
                                            refine XS.iloadN X0.here hx rfl (hb hby d2_2) rfl ?_
                                            show Steps p.tables e below (s₁.setTop (mkF m 3 #[.val (.ref a0), .val (.ref a1), .val (.int (20 : Int32)), .val (.int v177)] [(.int (20 : Int32))])) _
                                            refine XS.bipush X0.here hx rfl (hb hby d2_3) ?_
                                            show Steps p.tables e below (s₁.setTop (mkF m 5 #[.val (.ref a0), .val (.ref a1), .val (.int (20 : Int32)), .val (.int v177)] [(.int (32 : Int32)), (.int (20 : Int32))])) _
                                            refine XS.icmpNo X0.here hx rfl (hb hby d2_5) rfl (tlt ((by decide) : (20 : Int32) < (32 : Int32))).2.1 ?_
                                            show Steps p.tables e below (s₁.setTop (mkF m 8 #[.val (.ref a0), .val (.ref a1), .val (.int (20 : Int32)), .val (.int v177)] [])) _
                                            refine XS.aloadN X0.here hx rfl (hb hby d2_8) rfl rfl ?_
                                            show Steps p.tables e below (s₁.setTop (mkF m 9 #[.val (.ref a0), .val (.ref a1), .val (.int (20 : Int32)), .val (.int v177)] [(.ref a0)])) _
                                            refine XS.iloadN X0.here hx rfl (hb hby d2_9) rfl ?_
                                            exact k)
                                          obtain ⟨cl182, Ar182, q182, S182, M182, H182, G182⟩ := id V_a0
                                          have hin182 : ¬ ((20 : Int32) < 0 ∨ cl182.slots.size ≤ ((20 : Int32)).toNatClampNeg) := inb_of S182 ⟨by decide, by decide⟩
                                          have hat182 : cl182.slots[((20 : Int32)).toNatClampNeg]? = some (.int (own_get vs_a0 (20 : Int32))) := H182.at hin182 (own_getD vs_a0 (20 : Int32))
                                          have pre183 : ∀ t, Steps p.tables e below (s₁.setTop (mkF m 13 #[.val (.ref a0), .val (.ref a1), .val (.int (20 : Int32)), .val (.int v177)] [(.int (20 : Int32)), (.ref a1), (.int (own_get vs_a0 (20 : Int32)))])) t → Steps p.tables e below (s₁.setTop (entryFrame m #[(.ref a0), (.ref a1)] 4)) t := fun t k => pre181 t (by
                                            show Steps p.tables e below (s₁.setTop (mkF m 10 #[.val (.ref a0), .val (.ref a1), .val (.int (20 : Int32)), .val (.int v177)] [(.int (20 : Int32)), (.ref a0)])) _
                                            refine X0.baloadBytes hx (j := (20 : Int32)) (v := (.int (own_get vs_a0 (20 : Int32)))) (by rw [e0]; exact Ar182.1) (State.isArrayOf_alike hZ.alike Ar182.2.1) Ar182.2.2 hin182 hat182 (g := (mkF m 10 #[.val (.ref a0), .val (.ref a1), .val (.int (20 : Int32)), .val (.int v177)] [(.int (20 : Int32)), (.ref a0)])) rfl rfl (hb hby d2_10) _ ?_
                                            show Steps p.tables e below (s₁.setTop (mkF m 11 #[.val (.ref a0), .val (.ref a1), .val (.int (20 : Int32)), .val (.int v177)] [(.int (own_get vs_a0 (20 : Int32)))])) _
                                            refine XS.aloadN X0.here hx rfl (hb hby d2_11) rfl rfl ?_
                                            show Steps p.tables e below (s₁.setTop (mkF m 12 #[.val (.ref a0), .val (.ref a1), .val (.int (20 : Int32)), .val (.int v177)] [(.ref a1), (.int (own_get vs_a0 (20 : Int32)))])) _
                                            refine XS.iloadN X0.here hx rfl (hb hby d2_12) rfl ?_
                                            exact k)
                                          obtain ⟨cl184, Ar184, q184, S184, M184, H184, G184⟩ := id V_a1
                                          have hin184 : ¬ ((20 : Int32) < 0 ∨ cl184.slots.size ≤ ((20 : Int32)).toNatClampNeg) := inb_of S184 ⟨by decide, by decide⟩
                                          have hat184 : cl184.slots[((20 : Int32)).toNatClampNeg]? = some (.int (own_get vs_a1 (20 : Int32))) := H184.at hin184 (own_getD vs_a1 (20 : Int32))
                                          have pre185 : ∀ t, Steps p.tables e below (s₁.setTop (mkF m 19 #[.val (.ref a0), .val (.ref a1), .val (.int (20 : Int32)), .val (.int v177)] [(.int (((own_get vs_a0 (20 : Int32)) ^^^ (own_get vs_a1 (20 : Int32))) &&& (255 : Int32)))])) t → Steps p.tables e below (s₁.setTop (entryFrame m #[(.ref a0), (.ref a1)] 4)) t := fun t k => pre183 t (by
                                            show Steps p.tables e below (s₁.setTop (mkF m 13 #[.val (.ref a0), .val (.ref a1), .val (.int (20 : Int32)), .val (.int v177)] [(.int (20 : Int32)), (.ref a1), (.int (own_get vs_a0 (20 : Int32)))])) _
                                            refine X0.baloadBytes hx (j := (20 : Int32)) (v := (.int (own_get vs_a1 (20 : Int32)))) (by rw [e0]; exact Ar184.1) (State.isArrayOf_alike hZ.alike Ar184.2.1) Ar184.2.2 hin184 hat184 (g := (mkF m 13 #[.val (.ref a0), .val (.ref a1), .val (.int (20 : Int32)), .val (.int v177)] [(.int (20 : Int32)), (.ref a1), (.int (own_get vs_a0 (20 : Int32)))])) rfl rfl (hb hby d2_13) _ ?_
                                            show Steps p.tables e below (s₁.setTop (mkF m 14 #[.val (.ref a0), .val (.ref a1), .val (.int (20 : Int32)), .val (.int v177)] [(.int (own_get vs_a1 (20 : Int32))), (.int (own_get vs_a0 (20 : Int32)))])) _
                                            refine XS.ixor X0.here hx rfl (hb hby d2_14) rfl ?_
                                            show Steps p.tables e below (s₁.setTop (mkF m 15 #[.val (.ref a0), .val (.ref a1), .val (.int (20 : Int32)), .val (.int v177)] [(.int ((own_get vs_a0 (20 : Int32)) ^^^ (own_get vs_a1 (20 : Int32))))])) _
                                            refine XS.sipush X0.here hx rfl (hb hby d2_15) ?_
                                            show Steps p.tables e below (s₁.setTop (mkF m 18 #[.val (.ref a0), .val (.ref a1), .val (.int (20 : Int32)), .val (.int v177)] [(.int (255 : Int32)), (.int ((own_get vs_a0 (20 : Int32)) ^^^ (own_get vs_a1 (20 : Int32))))])) _
                                            refine XS.iand X0.here hx rfl (hb hby d2_18) rfl ?_
                                            exact k)
                                          obtain ⟨v186, hv186⟩ : ∃ z : Int32, z = (((own_get vs_a0 (20 : Int32)) ^^^ (own_get vs_a1 (20 : Int32))) &&& (255 : Int32)) := ⟨_, rfl⟩
                                          have pre187 : ∀ t, Steps p.tables e below (s₁.setTop (mkF m 19 #[.val (.ref a0), .val (.ref a1), .val (.int (20 : Int32)), .val (.int v177)] [(.int v186)])) t → Steps p.tables e below (s₁.setTop (entryFrame m #[(.ref a0), (.ref a1)] 4)) t := fun t k => pre185 t (by rw [hv186] at k; exact k)
                                          have pre188 : ∀ t, Steps p.tables e below (s₁.setTop (mkF m 21 #[.val (.ref a0), .val (.ref a1), .val (.int (20 : Int32)), .val (.int v186)] [(.int v186)])) t → Steps p.tables e below (s₁.setTop (entryFrame m #[(.ref a0), (.ref a1)] 4)) t := fun t k => pre187 t (by
                                            show Steps p.tables e below (s₁.setTop (mkF m 19 #[.val (.ref a0), .val (.ref a1), .val (.int (20 : Int32)), .val (.int v177)] [(.int v186)])) _
                                            refine XS.istoreN X0.here hx rfl (hb hby d2_19) rfl (l' := #[.val (.ref a0), .val (.ref a1), .val (.int (20 : Int32)), .val (.int v186)]) rfl ?_
                                            show Steps p.tables e below (s₁.setTop (mkF m 20 #[.val (.ref a0), .val (.ref a1), .val (.int (20 : Int32)), .val (.int v186)] [])) _
                                            refine XS.iloadN X0.here hx rfl (hb hby d2_20) rfl ?_
                                            exact k)
                                          by_cases hc189 : v186 = (0 : Int32)
                                          · have pre190 : ∀ t, Steps p.tables e below (s₁.setTop (mkF m 10 #[.val (.ref a0), .val (.ref a1), .val (.int (21 : Int32)), .val (.int v186)] [(.int (21 : Int32)), (.ref a0)])) t → Steps p.tables e below (s₁.setTop (entryFrame m #[(.ref a0), (.ref a1)] 4)) t := fun t k => pre188 t (by
                                              show Steps p.tables e below (s₁.setTop (mkF m 21 #[.val (.ref a0), .val (.ref a1), .val (.int (20 : Int32)), .val (.int v186)] [(.int v186)])) _
                                              refine XS.ifYes X0.here hx rfl (pc0 := 21) (pc' := 40) rfl (hb hby d2_21) rfl ((if0 _ _).trans (teq hc189).1) (by decide) (by decide) ?_
                                              show Steps p.tables e below (s₁.setTop (mkF m 40 #[.val (.ref a0), .val (.ref a1), .val (.int (20 : Int32)), .val (.int v186)] [])) _
                                              refine XS.iinc X0.here hx rfl (hb hby d2_40) rfl (l' := #[.val (.ref a0), .val (.ref a1), .val (.int (21 : Int32)), .val (.int v186)]) rfl ?_
                                              show Steps p.tables e below (s₁.setTop (mkF m 43 #[.val (.ref a0), .val (.ref a1), .val (.int (21 : Int32)), .val (.int v186)] [])) _
                                              refine XS.goto X0.here hx rfl (pc0 := 43) (pc' := 2) rfl (hb hby d2_43) (by decide) (by decide) ?_
                                              show Steps p.tables e below (s₁.setTop (mkF m 2 #[.val (.ref a0), .val (.ref a1), .val (.int (21 : Int32)), .val (.int v186)] [])) _
                                              refine XS.iloadN X0.here hx rfl (hb hby d2_2) rfl ?_
                                              show Steps p.tables e below (s₁.setTop (mkF m 3 #[.val (.ref a0), .val (.ref a1), .val (.int (21 : Int32)), .val (.int v186)] [(.int (21 : Int32))])) _
                                              refine XS.bipush X0.here hx rfl (hb hby d2_3) ?_
                                              show Steps p.tables e below (s₁.setTop (mkF m 5 #[.val (.ref a0), .val (.ref a1), .val (.int (21 : Int32)), .val (.int v186)] [(.int (32 : Int32)), (.int (21 : Int32))])) _
                                              refine XS.icmpNo X0.here hx rfl (hb hby d2_5) rfl (tlt ((by decide) : (21 : Int32) < (32 : Int32))).2.1 ?_
                                              show Steps p.tables e below (s₁.setTop (mkF m 8 #[.val (.ref a0), .val (.ref a1), .val (.int (21 : Int32)), .val (.int v186)] [])) _
                                              refine XS.aloadN X0.here hx rfl (hb hby d2_8) rfl rfl ?_
                                              show Steps p.tables e below (s₁.setTop (mkF m 9 #[.val (.ref a0), .val (.ref a1), .val (.int (21 : Int32)), .val (.int v186)] [(.ref a0)])) _
                                              refine XS.iloadN X0.here hx rfl (hb hby d2_9) rfl ?_
                                              exact k)
                                            obtain ⟨cl191, Ar191, q191, S191, M191, H191, G191⟩ := id V_a0
                                            have hin191 : ¬ ((21 : Int32) < 0 ∨ cl191.slots.size ≤ ((21 : Int32)).toNatClampNeg) := inb_of S191 ⟨by decide, by decide⟩
                                            have hat191 : cl191.slots[((21 : Int32)).toNatClampNeg]? = some (.int (own_get vs_a0 (21 : Int32))) := H191.at hin191 (own_getD vs_a0 (21 : Int32))
                                            have pre192 : ∀ t, Steps p.tables e below (s₁.setTop (mkF m 13 #[.val (.ref a0), .val (.ref a1), .val (.int (21 : Int32)), .val (.int v186)] [(.int (21 : Int32)), (.ref a1), (.int (own_get vs_a0 (21 : Int32)))])) t → Steps p.tables e below (s₁.setTop (entryFrame m #[(.ref a0), (.ref a1)] 4)) t := fun t k => pre190 t (by
                                              show Steps p.tables e below (s₁.setTop (mkF m 10 #[.val (.ref a0), .val (.ref a1), .val (.int (21 : Int32)), .val (.int v186)] [(.int (21 : Int32)), (.ref a0)])) _
                                              refine X0.baloadBytes hx (j := (21 : Int32)) (v := (.int (own_get vs_a0 (21 : Int32)))) (by rw [e0]; exact Ar191.1) (State.isArrayOf_alike hZ.alike Ar191.2.1) Ar191.2.2 hin191 hat191 (g := (mkF m 10 #[.val (.ref a0), .val (.ref a1), .val (.int (21 : Int32)), .val (.int v186)] [(.int (21 : Int32)), (.ref a0)])) rfl rfl (hb hby d2_10) _ ?_
                                              show Steps p.tables e below (s₁.setTop (mkF m 11 #[.val (.ref a0), .val (.ref a1), .val (.int (21 : Int32)), .val (.int v186)] [(.int (own_get vs_a0 (21 : Int32)))])) _
                                              refine XS.aloadN X0.here hx rfl (hb hby d2_11) rfl rfl ?_
                                              show Steps p.tables e below (s₁.setTop (mkF m 12 #[.val (.ref a0), .val (.ref a1), .val (.int (21 : Int32)), .val (.int v186)] [(.ref a1), (.int (own_get vs_a0 (21 : Int32)))])) _
                                              refine XS.iloadN X0.here hx rfl (hb hby d2_12) rfl ?_
                                              exact k)
                                            obtain ⟨cl193, Ar193, q193, S193, M193, H193, G193⟩ := id V_a1
                                            have hin193 : ¬ ((21 : Int32) < 0 ∨ cl193.slots.size ≤ ((21 : Int32)).toNatClampNeg) := inb_of S193 ⟨by decide, by decide⟩
                                            have hat193 : cl193.slots[((21 : Int32)).toNatClampNeg]? = some (.int (own_get vs_a1 (21 : Int32))) := H193.at hin193 (own_getD vs_a1 (21 : Int32))
                                            have pre194 : ∀ t, Steps p.tables e below (s₁.setTop (mkF m 19 #[.val (.ref a0), .val (.ref a1), .val (.int (21 : Int32)), .val (.int v186)] [(.int (((own_get vs_a0 (21 : Int32)) ^^^ (own_get vs_a1 (21 : Int32))) &&& (255 : Int32)))])) t → Steps p.tables e below (s₁.setTop (entryFrame m #[(.ref a0), (.ref a1)] 4)) t := fun t k => pre192 t (by
                                              show Steps p.tables e below (s₁.setTop (mkF m 13 #[.val (.ref a0), .val (.ref a1), .val (.int (21 : Int32)), .val (.int v186)] [(.int (21 : Int32)), (.ref a1), (.int (own_get vs_a0 (21 : Int32)))])) _
                                              refine X0.baloadBytes hx (j := (21 : Int32)) (v := (.int (own_get vs_a1 (21 : Int32)))) (by rw [e0]; exact Ar193.1) (State.isArrayOf_alike hZ.alike Ar193.2.1) Ar193.2.2 hin193 hat193 (g := (mkF m 13 #[.val (.ref a0), .val (.ref a1), .val (.int (21 : Int32)), .val (.int v186)] [(.int (21 : Int32)), (.ref a1), (.int (own_get vs_a0 (21 : Int32)))])) rfl rfl (hb hby d2_13) _ ?_
                                              show Steps p.tables e below (s₁.setTop (mkF m 14 #[.val (.ref a0), .val (.ref a1), .val (.int (21 : Int32)), .val (.int v186)] [(.int (own_get vs_a1 (21 : Int32))), (.int (own_get vs_a0 (21 : Int32)))])) _
                                              refine XS.ixor X0.here hx rfl (hb hby d2_14) rfl ?_
                                              show Steps p.tables e below (s₁.setTop (mkF m 15 #[.val (.ref a0), .val (.ref a1), .val (.int (21 : Int32)), .val (.int v186)] [(.int ((own_get vs_a0 (21 : Int32)) ^^^ (own_get vs_a1 (21 : Int32))))])) _
                                              refine XS.sipush X0.here hx rfl (hb hby d2_15) ?_
                                              show Steps p.tables e below (s₁.setTop (mkF m 18 #[.val (.ref a0), .val (.ref a1), .val (.int (21 : Int32)), .val (.int v186)] [(.int (255 : Int32)), (.int ((own_get vs_a0 (21 : Int32)) ^^^ (own_get vs_a1 (21 : Int32))))])) _
                                              refine XS.iand X0.here hx rfl (hb hby d2_18) rfl ?_
                                              exact k)
                                            obtain ⟨v195, hv195⟩ : ∃ z : Int32, z = (((own_get vs_a0 (21 : Int32)) ^^^ (own_get vs_a1 (21 : Int32))) &&& (255 : Int32)) := ⟨_, rfl⟩
                                            have pre196 : ∀ t, Steps p.tables e below (s₁.setTop (mkF m 19 #[.val (.ref a0), .val (.ref a1), .val (.int (21 : Int32)), .val (.int v186)] [(.int v195)])) t → Steps p.tables e below (s₁.setTop (entryFrame m #[(.ref a0), (.ref a1)] 4)) t := fun t k => pre194 t (by rw [hv195] at k; exact k)
                                            have pre197 : ∀ t, Steps p.tables e below (s₁.setTop (mkF m 21 #[.val (.ref a0), .val (.ref a1), .val (.int (21 : Int32)), .val (.int v195)] [(.int v195)])) t → Steps p.tables e below (s₁.setTop (entryFrame m #[(.ref a0), (.ref a1)] 4)) t := fun t k => pre196 t (by
                                              show Steps p.tables e below (s₁.setTop (mkF m 19 #[.val (.ref a0), .val (.ref a1), .val (.int (21 : Int32)), .val (.int v186)] [(.int v195)])) _
                                              refine XS.istoreN X0.here hx rfl (hb hby d2_19) rfl (l' := #[.val (.ref a0), .val (.ref a1), .val (.int (21 : Int32)), .val (.int v195)]) rfl ?_
                                              show Steps p.tables e below (s₁.setTop (mkF m 20 #[.val (.ref a0), .val (.ref a1), .val (.int (21 : Int32)), .val (.int v195)] [])) _
                                              refine XS.iloadN X0.here hx rfl (hb hby d2_20) rfl ?_
                                              exact k)
                                            by_cases hc198 : v195 = (0 : Int32)
                                            · have pre199 : ∀ t, Steps p.tables e below (s₁.setTop (mkF m 10 #[.val (.ref a0), .val (.ref a1), .val (.int (22 : Int32)), .val (.int v195)] [(.int (22 : Int32)), (.ref a0)])) t → Steps p.tables e below (s₁.setTop (entryFrame m #[(.ref a0), (.ref a1)] 4)) t := fun t k => pre197 t (by
                                                show Steps p.tables e below (s₁.setTop (mkF m 21 #[.val (.ref a0), .val (.ref a1), .val (.int (21 : Int32)), .val (.int v195)] [(.int v195)])) _
                                                refine XS.ifYes X0.here hx rfl (pc0 := 21) (pc' := 40) rfl (hb hby d2_21) rfl ((if0 _ _).trans (teq hc198).1) (by decide) (by decide) ?_
                                                show Steps p.tables e below (s₁.setTop (mkF m 40 #[.val (.ref a0), .val (.ref a1), .val (.int (21 : Int32)), .val (.int v195)] [])) _
                                                refine XS.iinc X0.here hx rfl (hb hby d2_40) rfl (l' := #[.val (.ref a0), .val (.ref a1), .val (.int (22 : Int32)), .val (.int v195)]) rfl ?_
                                                show Steps p.tables e below (s₁.setTop (mkF m 43 #[.val (.ref a0), .val (.ref a1), .val (.int (22 : Int32)), .val (.int v195)] [])) _
                                                refine XS.goto X0.here hx rfl (pc0 := 43) (pc' := 2) rfl (hb hby d2_43) (by decide) (by decide) ?_
                                                show Steps p.tables e below (s₁.setTop (mkF m 2 #[.val (.ref a0), .val (.ref a1), .val (.int (22 : Int32)), .val (.int v195)] [])) _
                                                refine XS.iloadN X0.here hx rfl (hb hby d2_2) rfl ?_
                                                show Steps p.tables e below (s₁.setTop (mkF m 3 #[.val (.ref a0), .val (.ref a1), .val (.int (22 : Int32)), .val (.int v195)] [(.int (22 : Int32))])) _
                                                refine XS.bipush X0.here hx rfl (hb hby d2_3) ?_
                                                show Steps p.tables e below (s₁.setTop (mkF m 5 #[.val (.ref a0), .val (.ref a1), .val (.int (22 : Int32)), .val (.int v195)] [(.int (32 : Int32)), (.int (22 : Int32))])) _
                                                refine XS.icmpNo X0.here hx rfl (hb hby d2_5) rfl (tlt ((by decide) : (22 : Int32) < (32 : Int32))).2.1 ?_
                                                show Steps p.tables e below (s₁.setTop (mkF m 8 #[.val (.ref a0), .val (.ref a1), .val (.int (22 : Int32)), .val (.int v195)] [])) _
                                                refine XS.aloadN X0.here hx rfl (hb hby d2_8) rfl rfl ?_
                                                show Steps p.tables e below (s₁.setTop (mkF m 9 #[.val (.ref a0), .val (.ref a1), .val (.int (22 : Int32)), .val (.int v195)] [(.ref a0)])) _
                                                refine XS.iloadN X0.here hx rfl (hb hby d2_9) rfl ?_
                                                exact k)
                                              obtain ⟨cl200, Ar200, q200, S200, M200, H200, G200⟩ := id V_a0
                                              have hin200 : ¬ ((22 : Int32) < 0 ∨ cl200.slots.size ≤ ((22 : Int32)).toNatClampNeg) := inb_of S200 ⟨by decide, by decide⟩
                                              have hat200 : cl200.slots[((22 : Int32)).toNatClampNeg]? = some (.int (own_get vs_a0 (22 : Int32))) := H200.at hin200 (own_getD vs_a0 (22 : Int32))
                                              have pre201 : ∀ t, Steps p.tables e below (s₁.setTop (mkF m 13 #[.val (.ref a0), .val (.ref a1), .val (.int (22 : Int32)), .val (.int v195)] [(.int (22 : Int32)), (.ref a1), (.int (own_get vs_a0 (22 : Int32)))])) t → Steps p.tables e below (s₁.setTop (entryFrame m #[(.ref a0), (.ref a1)] 4)) t := fun t k => pre199 t (by
                                                show Steps p.tables e below (s₁.setTop (mkF m 10 #[.val (.ref a0), .val (.ref a1), .val (.int (22 : Int32)), .val (.int v195)] [(.int (22 : Int32)), (.ref a0)])) _
                                                refine X0.baloadBytes hx (j := (22 : Int32)) (v := (.int (own_get vs_a0 (22 : Int32)))) (by rw [e0]; exact Ar200.1) (State.isArrayOf_alike hZ.alike Ar200.2.1) Ar200.2.2 hin200 hat200 (g := (mkF m 10 #[.val (.ref a0), .val (.ref a1), .val (.int (22 : Int32)), .val (.int v195)] [(.int (22 : Int32)), (.ref a0)])) rfl rfl (hb hby d2_10) _ ?_
                                                show Steps p.tables e below (s₁.setTop (mkF m 11 #[.val (.ref a0), .val (.ref a1), .val (.int (22 : Int32)), .val (.int v195)] [(.int (own_get vs_a0 (22 : Int32)))])) _
                                                refine XS.aloadN X0.here hx rfl (hb hby d2_11) rfl rfl ?_
                                                show Steps p.tables e below (s₁.setTop (mkF m 12 #[.val (.ref a0), .val (.ref a1), .val (.int (22 : Int32)), .val (.int v195)] [(.ref a1), (.int (own_get vs_a0 (22 : Int32)))])) _
                                                refine XS.iloadN X0.here hx rfl (hb hby d2_12) rfl ?_
                                                exact k)
                                              obtain ⟨cl202, Ar202, q202, S202, M202, H202, G202⟩ := id V_a1
                                              have hin202 : ¬ ((22 : Int32) < 0 ∨ cl202.slots.size ≤ ((22 : Int32)).toNatClampNeg) := inb_of S202 ⟨by decide, by decide⟩
                                              have hat202 : cl202.slots[((22 : Int32)).toNatClampNeg]? = some (.int (own_get vs_a1 (22 : Int32))) := H202.at hin202 (own_getD vs_a1 (22 : Int32))
                                              have pre203 : ∀ t, Steps p.tables e below (s₁.setTop (mkF m 19 #[.val (.ref a0), .val (.ref a1), .val (.int (22 : Int32)), .val (.int v195)] [(.int (((own_get vs_a0 (22 : Int32)) ^^^ (own_get vs_a1 (22 : Int32))) &&& (255 : Int32)))])) t → Steps p.tables e below (s₁.setTop (entryFrame m #[(.ref a0), (.ref a1)] 4)) t := fun t k => pre201 t (by
                                                show Steps p.tables e below (s₁.setTop (mkF m 13 #[.val (.ref a0), .val (.ref a1), .val (.int (22 : Int32)), .val (.int v195)] [(.int (22 : Int32)), (.ref a1), (.int (own_get vs_a0 (22 : Int32)))])) _
                                                refine X0.baloadBytes hx (j := (22 : Int32)) (v := (.int (own_get vs_a1 (22 : Int32)))) (by rw [e0]; exact Ar202.1) (State.isArrayOf_alike hZ.alike Ar202.2.1) Ar202.2.2 hin202 hat202 (g := (mkF m 13 #[.val (.ref a0), .val (.ref a1), .val (.int (22 : Int32)), .val (.int v195)] [(.int (22 : Int32)), (.ref a1), (.int (own_get vs_a0 (22 : Int32)))])) rfl rfl (hb hby d2_13) _ ?_
                                                show Steps p.tables e below (s₁.setTop (mkF m 14 #[.val (.ref a0), .val (.ref a1), .val (.int (22 : Int32)), .val (.int v195)] [(.int (own_get vs_a1 (22 : Int32))), (.int (own_get vs_a0 (22 : Int32)))])) _
                                                refine XS.ixor X0.here hx rfl (hb hby d2_14) rfl ?_
                                                show Steps p.tables e below (s₁.setTop (mkF m 15 #[.val (.ref a0), .val (.ref a1), .val (.int (22 : Int32)), .val (.int v195)] [(.int ((own_get vs_a0 (22 : Int32)) ^^^ (own_get vs_a1 (22 : Int32))))])) _
                                                refine XS.sipush X0.here hx rfl (hb hby d2_15) ?_
                                                show Steps p.tables e below (s₁.setTop (mkF m 18 #[.val (.ref a0), .val (.ref a1), .val (.int (22 : Int32)), .val (.int v195)] [(.int (255 : Int32)), (.int ((own_get vs_a0 (22 : Int32)) ^^^ (own_get vs_a1 (22 : Int32))))])) _
                                                refine XS.iand X0.here hx rfl (hb hby d2_18) rfl ?_
                                                exact k)
                                              obtain ⟨v204, hv204⟩ : ∃ z : Int32, z = (((own_get vs_a0 (22 : Int32)) ^^^ (own_get vs_a1 (22 : Int32))) &&& (255 : Int32)) := ⟨_, rfl⟩
                                              have pre205 : ∀ t, Steps p.tables e below (s₁.setTop (mkF m 19 #[.val (.ref a0), .val (.ref a1), .val (.int (22 : Int32)), .val (.int v195)] [(.int v204)])) t → Steps p.tables e below (s₁.setTop (entryFrame m #[(.ref a0), (.ref a1)] 4)) t := fun t k => pre203 t (by rw [hv204] at k; exact k)
                                              have pre206 : ∀ t, Steps p.tables e below (s₁.setTop (mkF m 21 #[.val (.ref a0), .val (.ref a1), .val (.int (22 : Int32)), .val (.int v204)] [(.int v204)])) t → Steps p.tables e below (s₁.setTop (entryFrame m #[(.ref a0), (.ref a1)] 4)) t := fun t k => pre205 t (by
                                                show Steps p.tables e below (s₁.setTop (mkF m 19 #[.val (.ref a0), .val (.ref a1), .val (.int (22 : Int32)), .val (.int v195)] [(.int v204)])) _
                                                refine XS.istoreN X0.here hx rfl (hb hby d2_19) rfl (l' := #[.val (.ref a0), .val (.ref a1), .val (.int (22 : Int32)), .val (.int v204)]) rfl ?_
                                                show Steps p.tables e below (s₁.setTop (mkF m 20 #[.val (.ref a0), .val (.ref a1), .val (.int (22 : Int32)), .val (.int v204)] [])) _
                                                refine XS.iloadN X0.here hx rfl (hb hby d2_20) rfl ?_
                                                exact k)
                                              by_cases hc207 : v204 = (0 : Int32)
                                              · have pre208 : ∀ t, Steps p.tables e below (s₁.setTop (mkF m 10 #[.val (.ref a0), .val (.ref a1), .val (.int (23 : Int32)), .val (.int v204)] [(.int (23 : Int32)), (.ref a0)])) t → Steps p.tables e below (s₁.setTop (entryFrame m #[(.ref a0), (.ref a1)] 4)) t := fun t k => pre206 t (by
                                                  show Steps p.tables e below (s₁.setTop (mkF m 21 #[.val (.ref a0), .val (.ref a1), .val (.int (22 : Int32)), .val (.int v204)] [(.int v204)])) _
                                                  refine XS.ifYes X0.here hx rfl (pc0 := 21) (pc' := 40) rfl (hb hby d2_21) rfl ((if0 _ _).trans (teq hc207).1) (by decide) (by decide) ?_
                                                  show Steps p.tables e below (s₁.setTop (mkF m 40 #[.val (.ref a0), .val (.ref a1), .val (.int (22 : Int32)), .val (.int v204)] [])) _
                                                  refine XS.iinc X0.here hx rfl (hb hby d2_40) rfl (l' := #[.val (.ref a0), .val (.ref a1), .val (.int (23 : Int32)), .val (.int v204)]) rfl ?_
                                                  show Steps p.tables e below (s₁.setTop (mkF m 43 #[.val (.ref a0), .val (.ref a1), .val (.int (23 : Int32)), .val (.int v204)] [])) _
                                                  refine XS.goto X0.here hx rfl (pc0 := 43) (pc' := 2) rfl (hb hby d2_43) (by decide) (by decide) ?_
                                                  show Steps p.tables e below (s₁.setTop (mkF m 2 #[.val (.ref a0), .val (.ref a1), .val (.int (23 : Int32)), .val (.int v204)] [])) _
                                                  refine XS.iloadN X0.here hx rfl (hb hby d2_2) rfl ?_
                                                  show Steps p.tables e below (s₁.setTop (mkF m 3 #[.val (.ref a0), .val (.ref a1), .val (.int (23 : Int32)), .val (.int v204)] [(.int (23 : Int32))])) _
                                                  refine XS.bipush X0.here hx rfl (hb hby d2_3) ?_
                                                  show Steps p.tables e below (s₁.setTop (mkF m 5 #[.val (.ref a0), .val (.ref a1), .val (.int (23 : Int32)), .val (.int v204)] [(.int (32 : Int32)), (.int (23 : Int32))])) _
                                                  refine XS.icmpNo X0.here hx rfl (hb hby d2_5) rfl (tlt ((by decide) : (23 : Int32) < (32 : Int32))).2.1 ?_
                                                  show Steps p.tables e below (s₁.setTop (mkF m 8 #[.val (.ref a0), .val (.ref a1), .val (.int (23 : Int32)), .val (.int v204)] [])) _
                                                  refine XS.aloadN X0.here hx rfl (hb hby d2_8) rfl rfl ?_
                                                  show Steps p.tables e below (s₁.setTop (mkF m 9 #[.val (.ref a0), .val (.ref a1), .val (.int (23 : Int32)), .val (.int v204)] [(.ref a0)])) _
                                                  refine XS.iloadN X0.here hx rfl (hb hby d2_9) rfl ?_
                                                  exact k)
                                                obtain ⟨cl209, Ar209, q209, S209, M209, H209, G209⟩ := id V_a0
                                                have hin209 : ¬ ((23 : Int32) < 0 ∨ cl209.slots.size ≤ ((23 : Int32)).toNatClampNeg) := inb_of S209 ⟨by decide, by decide⟩
                                                have hat209 : cl209.slots[((23 : Int32)).toNatClampNeg]? = some (.int (own_get vs_a0 (23 : Int32))) := H209.at hin209 (own_getD vs_a0 (23 : Int32))
                                                have pre210 : ∀ t, Steps p.tables e below (s₁.setTop (mkF m 13 #[.val (.ref a0), .val (.ref a1), .val (.int (23 : Int32)), .val (.int v204)] [(.int (23 : Int32)), (.ref a1), (.int (own_get vs_a0 (23 : Int32)))])) t → Steps p.tables e below (s₁.setTop (entryFrame m #[(.ref a0), (.ref a1)] 4)) t := fun t k => pre208 t (by
                                                  show Steps p.tables e below (s₁.setTop (mkF m 10 #[.val (.ref a0), .val (.ref a1), .val (.int (23 : Int32)), .val (.int v204)] [(.int (23 : Int32)), (.ref a0)])) _
                                                  refine X0.baloadBytes hx (j := (23 : Int32)) (v := (.int (own_get vs_a0 (23 : Int32)))) (by rw [e0]; exact Ar209.1) (State.isArrayOf_alike hZ.alike Ar209.2.1) Ar209.2.2 hin209 hat209 (g := (mkF m 10 #[.val (.ref a0), .val (.ref a1), .val (.int (23 : Int32)), .val (.int v204)] [(.int (23 : Int32)), (.ref a0)])) rfl rfl (hb hby d2_10) _ ?_
                                                  show Steps p.tables e below (s₁.setTop (mkF m 11 #[.val (.ref a0), .val (.ref a1), .val (.int (23 : Int32)), .val (.int v204)] [(.int (own_get vs_a0 (23 : Int32)))])) _
                                                  refine XS.aloadN X0.here hx rfl (hb hby d2_11) rfl rfl ?_
                                                  show Steps p.tables e below (s₁.setTop (mkF m 12 #[.val (.ref a0), .val (.ref a1), .val (.int (23 : Int32)), .val (.int v204)] [(.ref a1), (.int (own_get vs_a0 (23 : Int32)))])) _
                                                  refine XS.iloadN X0.here hx rfl (hb hby d2_12) rfl ?_
                                                  exact k)
                                                obtain ⟨cl211, Ar211, q211, S211, M211, H211, G211⟩ := id V_a1
                                                have hin211 : ¬ ((23 : Int32) < 0 ∨ cl211.slots.size ≤ ((23 : Int32)).toNatClampNeg) := inb_of S211 ⟨by decide, by decide⟩
                                                have hat211 : cl211.slots[((23 : Int32)).toNatClampNeg]? = some (.int (own_get vs_a1 (23 : Int32))) := H211.at hin211 (own_getD vs_a1 (23 : Int32))
                                                have pre212 : ∀ t, Steps p.tables e below (s₁.setTop (mkF m 19 #[.val (.ref a0), .val (.ref a1), .val (.int (23 : Int32)), .val (.int v204)] [(.int (((own_get vs_a0 (23 : Int32)) ^^^ (own_get vs_a1 (23 : Int32))) &&& (255 : Int32)))])) t → Steps p.tables e below (s₁.setTop (entryFrame m #[(.ref a0), (.ref a1)] 4)) t := fun t k => pre210 t (by
                                                  show Steps p.tables e below (s₁.setTop (mkF m 13 #[.val (.ref a0), .val (.ref a1), .val (.int (23 : Int32)), .val (.int v204)] [(.int (23 : Int32)), (.ref a1), (.int (own_get vs_a0 (23 : Int32)))])) _
                                                  refine X0.baloadBytes hx (j := (23 : Int32)) (v := (.int (own_get vs_a1 (23 : Int32)))) (by rw [e0]; exact Ar211.1) (State.isArrayOf_alike hZ.alike Ar211.2.1) Ar211.2.2 hin211 hat211 (g := (mkF m 13 #[.val (.ref a0), .val (.ref a1), .val (.int (23 : Int32)), .val (.int v204)] [(.int (23 : Int32)), (.ref a1), (.int (own_get vs_a0 (23 : Int32)))])) rfl rfl (hb hby d2_13) _ ?_
                                                  show Steps p.tables e below (s₁.setTop (mkF m 14 #[.val (.ref a0), .val (.ref a1), .val (.int (23 : Int32)), .val (.int v204)] [(.int (own_get vs_a1 (23 : Int32))), (.int (own_get vs_a0 (23 : Int32)))])) _
                                                  refine XS.ixor X0.here hx rfl (hb hby d2_14) rfl ?_
                                                  show Steps p.tables e below (s₁.setTop (mkF m 15 #[.val (.ref a0), .val (.ref a1), .val (.int (23 : Int32)), .val (.int v204)] [(.int ((own_get vs_a0 (23 : Int32)) ^^^ (own_get vs_a1 (23 : Int32))))])) _
                                                  refine XS.sipush X0.here hx rfl (hb hby d2_15) ?_
                                                  show Steps p.tables e below (s₁.setTop (mkF m 18 #[.val (.ref a0), .val (.ref a1), .val (.int (23 : Int32)), .val (.int v204)] [(.int (255 : Int32)), (.int ((own_get vs_a0 (23 : Int32)) ^^^ (own_get vs_a1 (23 : Int32))))])) _
                                                  refine XS.iand X0.here hx rfl (hb hby d2_18) rfl ?_
                                                  exact k)
                                                obtain ⟨v213, hv213⟩ : ∃ z : Int32, z = (((own_get vs_a0 (23 : Int32)) ^^^ (own_get vs_a1 (23 : Int32))) &&& (255 : Int32)) := ⟨_, rfl⟩
                                                have pre214 : ∀ t, Steps p.tables e below (s₁.setTop (mkF m 19 #[.val (.ref a0), .val (.ref a1), .val (.int (23 : Int32)), .val (.int v204)] [(.int v213)])) t → Steps p.tables e below (s₁.setTop (entryFrame m #[(.ref a0), (.ref a1)] 4)) t := fun t k => pre212 t (by rw [hv213] at k; exact k)
                                                have pre215 : ∀ t, Steps p.tables e below (s₁.setTop (mkF m 21 #[.val (.ref a0), .val (.ref a1), .val (.int (23 : Int32)), .val (.int v213)] [(.int v213)])) t → Steps p.tables e below (s₁.setTop (entryFrame m #[(.ref a0), (.ref a1)] 4)) t := fun t k => pre214 t (by
                                                  show Steps p.tables e below (s₁.setTop (mkF m 19 #[.val (.ref a0), .val (.ref a1), .val (.int (23 : Int32)), .val (.int v204)] [(.int v213)])) _
                                                  refine XS.istoreN X0.here hx rfl (hb hby d2_19) rfl (l' := #[.val (.ref a0), .val (.ref a1), .val (.int (23 : Int32)), .val (.int v213)]) rfl ?_
                                                  show Steps p.tables e below (s₁.setTop (mkF m 20 #[.val (.ref a0), .val (.ref a1), .val (.int (23 : Int32)), .val (.int v213)] [])) _
                                                  refine XS.iloadN X0.here hx rfl (hb hby d2_20) rfl ?_
                                                  exact k)
                                                by_cases hc216 : v213 = (0 : Int32)
                                                · have pre217 : ∀ t, Steps p.tables e below (s₁.setTop (mkF m 10 #[.val (.ref a0), .val (.ref a1), .val (.int (24 : Int32)), .val (.int v213)] [(.int (24 : Int32)), (.ref a0)])) t → Steps p.tables e below (s₁.setTop (entryFrame m #[(.ref a0), (.ref a1)] 4)) t := fun t k => pre215 t (by
                                                    show Steps p.tables e below (s₁.setTop (mkF m 21 #[.val (.ref a0), .val (.ref a1), .val (.int (23 : Int32)), .val (.int v213)] [(.int v213)])) _
                                                    refine XS.ifYes X0.here hx rfl (pc0 := 21) (pc' := 40) rfl (hb hby d2_21) rfl ((if0 _ _).trans (teq hc216).1) (by decide) (by decide) ?_
                                                    show Steps p.tables e below (s₁.setTop (mkF m 40 #[.val (.ref a0), .val (.ref a1), .val (.int (23 : Int32)), .val (.int v213)] [])) _
                                                    refine XS.iinc X0.here hx rfl (hb hby d2_40) rfl (l' := #[.val (.ref a0), .val (.ref a1), .val (.int (24 : Int32)), .val (.int v213)]) rfl ?_
                                                    show Steps p.tables e below (s₁.setTop (mkF m 43 #[.val (.ref a0), .val (.ref a1), .val (.int (24 : Int32)), .val (.int v213)] [])) _
                                                    refine XS.goto X0.here hx rfl (pc0 := 43) (pc' := 2) rfl (hb hby d2_43) (by decide) (by decide) ?_
                                                    show Steps p.tables e below (s₁.setTop (mkF m 2 #[.val (.ref a0), .val (.ref a1), .val (.int (24 : Int32)), .val (.int v213)] [])) _
                                                    refine XS.iloadN X0.here hx rfl (hb hby d2_2) rfl ?_
                                                    show Steps p.tables e below (s₁.setTop (mkF m 3 #[.val (.ref a0), .val (.ref a1), .val (.int (24 : Int32)), .val (.int v213)] [(.int (24 : Int32))])) _
                                                    refine XS.bipush X0.here hx rfl (hb hby d2_3) ?_
                                                    show Steps p.tables e below (s₁.setTop (mkF m 5 #[.val (.ref a0), .val (.ref a1), .val (.int (24 : Int32)), .val (.int v213)] [(.int (32 : Int32)), (.int (24 : Int32))])) _
                                                    refine XS.icmpNo X0.here hx rfl (hb hby d2_5) rfl (tlt ((by decide) : (24 : Int32) < (32 : Int32))).2.1 ?_
                                                    show Steps p.tables e below (s₁.setTop (mkF m 8 #[.val (.ref a0), .val (.ref a1), .val (.int (24 : Int32)), .val (.int v213)] [])) _
                                                    refine XS.aloadN X0.here hx rfl (hb hby d2_8) rfl rfl ?_
                                                    show Steps p.tables e below (s₁.setTop (mkF m 9 #[.val (.ref a0), .val (.ref a1), .val (.int (24 : Int32)), .val (.int v213)] [(.ref a0)])) _
                                                    refine XS.iloadN X0.here hx rfl (hb hby d2_9) rfl ?_
                                                    exact k)
                                                  obtain ⟨cl218, Ar218, q218, S218, M218, H218, G218⟩ := id V_a0
                                                  have hin218 : ¬ ((24 : Int32) < 0 ∨ cl218.slots.size ≤ ((24 : Int32)).toNatClampNeg) := inb_of S218 ⟨by decide, by decide⟩
                                                  have hat218 : cl218.slots[((24 : Int32)).toNatClampNeg]? = some (.int (own_get vs_a0 (24 : Int32))) := H218.at hin218 (own_getD vs_a0 (24 : Int32))
                                                  have pre219 : ∀ t, Steps p.tables e below (s₁.setTop (mkF m 13 #[.val (.ref a0), .val (.ref a1), .val (.int (24 : Int32)), .val (.int v213)] [(.int (24 : Int32)), (.ref a1), (.int (own_get vs_a0 (24 : Int32)))])) t → Steps p.tables e below (s₁.setTop (entryFrame m #[(.ref a0), (.ref a1)] 4)) t := fun t k => pre217 t (by
                                                    show Steps p.tables e below (s₁.setTop (mkF m 10 #[.val (.ref a0), .val (.ref a1), .val (.int (24 : Int32)), .val (.int v213)] [(.int (24 : Int32)), (.ref a0)])) _
                                                    refine X0.baloadBytes hx (j := (24 : Int32)) (v := (.int (own_get vs_a0 (24 : Int32)))) (by rw [e0]; exact Ar218.1) (State.isArrayOf_alike hZ.alike Ar218.2.1) Ar218.2.2 hin218 hat218 (g := (mkF m 10 #[.val (.ref a0), .val (.ref a1), .val (.int (24 : Int32)), .val (.int v213)] [(.int (24 : Int32)), (.ref a0)])) rfl rfl (hb hby d2_10) _ ?_
                                                    show Steps p.tables e below (s₁.setTop (mkF m 11 #[.val (.ref a0), .val (.ref a1), .val (.int (24 : Int32)), .val (.int v213)] [(.int (own_get vs_a0 (24 : Int32)))])) _
                                                    refine XS.aloadN X0.here hx rfl (hb hby d2_11) rfl rfl ?_
                                                    show Steps p.tables e below (s₁.setTop (mkF m 12 #[.val (.ref a0), .val (.ref a1), .val (.int (24 : Int32)), .val (.int v213)] [(.ref a1), (.int (own_get vs_a0 (24 : Int32)))])) _
                                                    refine XS.iloadN X0.here hx rfl (hb hby d2_12) rfl ?_
                                                    exact k)
                                                  obtain ⟨cl220, Ar220, q220, S220, M220, H220, G220⟩ := id V_a1
                                                  have hin220 : ¬ ((24 : Int32) < 0 ∨ cl220.slots.size ≤ ((24 : Int32)).toNatClampNeg) := inb_of S220 ⟨by decide, by decide⟩
                                                  have hat220 : cl220.slots[((24 : Int32)).toNatClampNeg]? = some (.int (own_get vs_a1 (24 : Int32))) := H220.at hin220 (own_getD vs_a1 (24 : Int32))
                                                  have pre221 : ∀ t, Steps p.tables e below (s₁.setTop (mkF m 19 #[.val (.ref a0), .val (.ref a1), .val (.int (24 : Int32)), .val (.int v213)] [(.int (((own_get vs_a0 (24 : Int32)) ^^^ (own_get vs_a1 (24 : Int32))) &&& (255 : Int32)))])) t → Steps p.tables e below (s₁.setTop (entryFrame m #[(.ref a0), (.ref a1)] 4)) t := fun t k => pre219 t (by
                                                    show Steps p.tables e below (s₁.setTop (mkF m 13 #[.val (.ref a0), .val (.ref a1), .val (.int (24 : Int32)), .val (.int v213)] [(.int (24 : Int32)), (.ref a1), (.int (own_get vs_a0 (24 : Int32)))])) _
                                                    refine X0.baloadBytes hx (j := (24 : Int32)) (v := (.int (own_get vs_a1 (24 : Int32)))) (by rw [e0]; exact Ar220.1) (State.isArrayOf_alike hZ.alike Ar220.2.1) Ar220.2.2 hin220 hat220 (g := (mkF m 13 #[.val (.ref a0), .val (.ref a1), .val (.int (24 : Int32)), .val (.int v213)] [(.int (24 : Int32)), (.ref a1), (.int (own_get vs_a0 (24 : Int32)))])) rfl rfl (hb hby d2_13) _ ?_
                                                    show Steps p.tables e below (s₁.setTop (mkF m 14 #[.val (.ref a0), .val (.ref a1), .val (.int (24 : Int32)), .val (.int v213)] [(.int (own_get vs_a1 (24 : Int32))), (.int (own_get vs_a0 (24 : Int32)))])) _
                                                    refine XS.ixor X0.here hx rfl (hb hby d2_14) rfl ?_
                                                    show Steps p.tables e below (s₁.setTop (mkF m 15 #[.val (.ref a0), .val (.ref a1), .val (.int (24 : Int32)), .val (.int v213)] [(.int ((own_get vs_a0 (24 : Int32)) ^^^ (own_get vs_a1 (24 : Int32))))])) _
                                                    refine XS.sipush X0.here hx rfl (hb hby d2_15) ?_
                                                    show Steps p.tables e below (s₁.setTop (mkF m 18 #[.val (.ref a0), .val (.ref a1), .val (.int (24 : Int32)), .val (.int v213)] [(.int (255 : Int32)), (.int ((own_get vs_a0 (24 : Int32)) ^^^ (own_get vs_a1 (24 : Int32))))])) _
                                                    refine XS.iand X0.here hx rfl (hb hby d2_18) rfl ?_
                                                    exact k)
                                                  obtain ⟨v222, hv222⟩ : ∃ z : Int32, z = (((own_get vs_a0 (24 : Int32)) ^^^ (own_get vs_a1 (24 : Int32))) &&& (255 : Int32)) := ⟨_, rfl⟩
                                                  have pre223 : ∀ t, Steps p.tables e below (s₁.setTop (mkF m 19 #[.val (.ref a0), .val (.ref a1), .val (.int (24 : Int32)), .val (.int v213)] [(.int v222)])) t → Steps p.tables e below (s₁.setTop (entryFrame m #[(.ref a0), (.ref a1)] 4)) t := fun t k => pre221 t (by rw [hv222] at k; exact k)
                                                  have pre224 : ∀ t, Steps p.tables e below (s₁.setTop (mkF m 21 #[.val (.ref a0), .val (.ref a1), .val (.int (24 : Int32)), .val (.int v222)] [(.int v222)])) t → Steps p.tables e below (s₁.setTop (entryFrame m #[(.ref a0), (.ref a1)] 4)) t := fun t k => pre223 t (by
                                                    show Steps p.tables e below (s₁.setTop (mkF m 19 #[.val (.ref a0), .val (.ref a1), .val (.int (24 : Int32)), .val (.int v213)] [(.int v222)])) _
                                                    refine XS.istoreN X0.here hx rfl (hb hby d2_19) rfl (l' := #[.val (.ref a0), .val (.ref a1), .val (.int (24 : Int32)), .val (.int v222)]) rfl ?_
                                                    show Steps p.tables e below (s₁.setTop (mkF m 20 #[.val (.ref a0), .val (.ref a1), .val (.int (24 : Int32)), .val (.int v222)] [])) _
                                                    refine XS.iloadN X0.here hx rfl (hb hby d2_20) rfl ?_
                                                    exact k)
                                                  by_cases hc225 : v222 = (0 : Int32)
                                                  · have pre226 : ∀ t, Steps p.tables e below (s₁.setTop (mkF m 10 #[.val (.ref a0), .val (.ref a1), .val (.int (25 : Int32)), .val (.int v222)] [(.int (25 : Int32)), (.ref a0)])) t → Steps p.tables e below (s₁.setTop (entryFrame m #[(.ref a0), (.ref a1)] 4)) t := fun t k => pre224 t (by
                                                      show Steps p.tables e below (s₁.setTop (mkF m 21 #[.val (.ref a0), .val (.ref a1), .val (.int (24 : Int32)), .val (.int v222)] [(.int v222)])) _
                                                      refine XS.ifYes X0.here hx rfl (pc0 := 21) (pc' := 40) rfl (hb hby d2_21) rfl ((if0 _ _).trans (teq hc225).1) (by decide) (by decide) ?_
                                                      show Steps p.tables e below (s₁.setTop (mkF m 40 #[.val (.ref a0), .val (.ref a1), .val (.int (24 : Int32)), .val (.int v222)] [])) _
                                                      refine XS.iinc X0.here hx rfl (hb hby d2_40) rfl (l' := #[.val (.ref a0), .val (.ref a1), .val (.int (25 : Int32)), .val (.int v222)]) rfl ?_
                                                      show Steps p.tables e below (s₁.setTop (mkF m 43 #[.val (.ref a0), .val (.ref a1), .val (.int (25 : Int32)), .val (.int v222)] [])) _
                                                      refine XS.goto X0.here hx rfl (pc0 := 43) (pc' := 2) rfl (hb hby d2_43) (by decide) (by decide) ?_
                                                      show Steps p.tables e below (s₁.setTop (mkF m 2 #[.val (.ref a0), .val (.ref a1), .val (.int (25 : Int32)), .val (.int v222)] [])) _
                                                      refine XS.iloadN X0.here hx rfl (hb hby d2_2) rfl ?_
                                                      show Steps p.tables e below (s₁.setTop (mkF m 3 #[.val (.ref a0), .val (.ref a1), .val (.int (25 : Int32)), .val (.int v222)] [(.int (25 : Int32))])) _
                                                      refine XS.bipush X0.here hx rfl (hb hby d2_3) ?_
                                                      show Steps p.tables e below (s₁.setTop (mkF m 5 #[.val (.ref a0), .val (.ref a1), .val (.int (25 : Int32)), .val (.int v222)] [(.int (32 : Int32)), (.int (25 : Int32))])) _
                                                      refine XS.icmpNo X0.here hx rfl (hb hby d2_5) rfl (tlt ((by decide) : (25 : Int32) < (32 : Int32))).2.1 ?_
                                                      show Steps p.tables e below (s₁.setTop (mkF m 8 #[.val (.ref a0), .val (.ref a1), .val (.int (25 : Int32)), .val (.int v222)] [])) _
                                                      refine XS.aloadN X0.here hx rfl (hb hby d2_8) rfl rfl ?_
                                                      show Steps p.tables e below (s₁.setTop (mkF m 9 #[.val (.ref a0), .val (.ref a1), .val (.int (25 : Int32)), .val (.int v222)] [(.ref a0)])) _
                                                      refine XS.iloadN X0.here hx rfl (hb hby d2_9) rfl ?_
                                                      exact k)
                                                    obtain ⟨cl227, Ar227, q227, S227, M227, H227, G227⟩ := id V_a0
                                                    have hin227 : ¬ ((25 : Int32) < 0 ∨ cl227.slots.size ≤ ((25 : Int32)).toNatClampNeg) := inb_of S227 ⟨by decide, by decide⟩
                                                    have hat227 : cl227.slots[((25 : Int32)).toNatClampNeg]? = some (.int (own_get vs_a0 (25 : Int32))) := H227.at hin227 (own_getD vs_a0 (25 : Int32))
                                                    have pre228 : ∀ t, Steps p.tables e below (s₁.setTop (mkF m 13 #[.val (.ref a0), .val (.ref a1), .val (.int (25 : Int32)), .val (.int v222)] [(.int (25 : Int32)), (.ref a1), (.int (own_get vs_a0 (25 : Int32)))])) t → Steps p.tables e below (s₁.setTop (entryFrame m #[(.ref a0), (.ref a1)] 4)) t := fun t k => pre226 t (by
                                                      show Steps p.tables e below (s₁.setTop (mkF m 10 #[.val (.ref a0), .val (.ref a1), .val (.int (25 : Int32)), .val (.int v222)] [(.int (25 : Int32)), (.ref a0)])) _
                                                      refine X0.baloadBytes hx (j := (25 : Int32)) (v := (.int (own_get vs_a0 (25 : Int32)))) (by rw [e0]; exact Ar227.1) (State.isArrayOf_alike hZ.alike Ar227.2.1) Ar227.2.2 hin227 hat227 (g := (mkF m 10 #[.val (.ref a0), .val (.ref a1), .val (.int (25 : Int32)), .val (.int v222)] [(.int (25 : Int32)), (.ref a0)])) rfl rfl (hb hby d2_10) _ ?_
                                                      show Steps p.tables e below (s₁.setTop (mkF m 11 #[.val (.ref a0), .val (.ref a1), .val (.int (25 : Int32)), .val (.int v222)] [(.int (own_get vs_a0 (25 : Int32)))])) _
                                                      refine XS.aloadN X0.here hx rfl (hb hby d2_11) rfl rfl ?_
                                                      show Steps p.tables e below (s₁.setTop (mkF m 12 #[.val (.ref a0), .val (.ref a1), .val (.int (25 : Int32)), .val (.int v222)] [(.ref a1), (.int (own_get vs_a0 (25 : Int32)))])) _
                                                      refine XS.iloadN X0.here hx rfl (hb hby d2_12) rfl ?_
                                                      exact k)
                                                    obtain ⟨cl229, Ar229, q229, S229, M229, H229, G229⟩ := id V_a1
                                                    have hin229 : ¬ ((25 : Int32) < 0 ∨ cl229.slots.size ≤ ((25 : Int32)).toNatClampNeg) := inb_of S229 ⟨by decide, by decide⟩
                                                    have hat229 : cl229.slots[((25 : Int32)).toNatClampNeg]? = some (.int (own_get vs_a1 (25 : Int32))) := H229.at hin229 (own_getD vs_a1 (25 : Int32))
                                                    have pre230 : ∀ t, Steps p.tables e below (s₁.setTop (mkF m 19 #[.val (.ref a0), .val (.ref a1), .val (.int (25 : Int32)), .val (.int v222)] [(.int (((own_get vs_a0 (25 : Int32)) ^^^ (own_get vs_a1 (25 : Int32))) &&& (255 : Int32)))])) t → Steps p.tables e below (s₁.setTop (entryFrame m #[(.ref a0), (.ref a1)] 4)) t := fun t k => pre228 t (by
                                                      show Steps p.tables e below (s₁.setTop (mkF m 13 #[.val (.ref a0), .val (.ref a1), .val (.int (25 : Int32)), .val (.int v222)] [(.int (25 : Int32)), (.ref a1), (.int (own_get vs_a0 (25 : Int32)))])) _
                                                      refine X0.baloadBytes hx (j := (25 : Int32)) (v := (.int (own_get vs_a1 (25 : Int32)))) (by rw [e0]; exact Ar229.1) (State.isArrayOf_alike hZ.alike Ar229.2.1) Ar229.2.2 hin229 hat229 (g := (mkF m 13 #[.val (.ref a0), .val (.ref a1), .val (.int (25 : Int32)), .val (.int v222)] [(.int (25 : Int32)), (.ref a1), (.int (own_get vs_a0 (25 : Int32)))])) rfl rfl (hb hby d2_13) _ ?_
                                                      show Steps p.tables e below (s₁.setTop (mkF m 14 #[.val (.ref a0), .val (.ref a1), .val (.int (25 : Int32)), .val (.int v222)] [(.int (own_get vs_a1 (25 : Int32))), (.int (own_get vs_a0 (25 : Int32)))])) _
                                                      refine XS.ixor X0.here hx rfl (hb hby d2_14) rfl ?_
                                                      show Steps p.tables e below (s₁.setTop (mkF m 15 #[.val (.ref a0), .val (.ref a1), .val (.int (25 : Int32)), .val (.int v222)] [(.int ((own_get vs_a0 (25 : Int32)) ^^^ (own_get vs_a1 (25 : Int32))))])) _
                                                      refine XS.sipush X0.here hx rfl (hb hby d2_15) ?_
                                                      show Steps p.tables e below (s₁.setTop (mkF m 18 #[.val (.ref a0), .val (.ref a1), .val (.int (25 : Int32)), .val (.int v222)] [(.int (255 : Int32)), (.int ((own_get vs_a0 (25 : Int32)) ^^^ (own_get vs_a1 (25 : Int32))))])) _
                                                      refine XS.iand X0.here hx rfl (hb hby d2_18) rfl ?_
                                                      exact k)
                                                    obtain ⟨v231, hv231⟩ : ∃ z : Int32, z = (((own_get vs_a0 (25 : Int32)) ^^^ (own_get vs_a1 (25 : Int32))) &&& (255 : Int32)) := ⟨_, rfl⟩
                                                    have pre232 : ∀ t, Steps p.tables e below (s₁.setTop (mkF m 19 #[.val (.ref a0), .val (.ref a1), .val (.int (25 : Int32)), .val (.int v222)] [(.int v231)])) t → Steps p.tables e below (s₁.setTop (entryFrame m #[(.ref a0), (.ref a1)] 4)) t := fun t k => pre230 t (by rw [hv231] at k; exact k)
                                                    have pre233 : ∀ t, Steps p.tables e below (s₁.setTop (mkF m 21 #[.val (.ref a0), .val (.ref a1), .val (.int (25 : Int32)), .val (.int v231)] [(.int v231)])) t → Steps p.tables e below (s₁.setTop (entryFrame m #[(.ref a0), (.ref a1)] 4)) t := fun t k => pre232 t (by
                                                      show Steps p.tables e below (s₁.setTop (mkF m 19 #[.val (.ref a0), .val (.ref a1), .val (.int (25 : Int32)), .val (.int v222)] [(.int v231)])) _
                                                      refine XS.istoreN X0.here hx rfl (hb hby d2_19) rfl (l' := #[.val (.ref a0), .val (.ref a1), .val (.int (25 : Int32)), .val (.int v231)]) rfl ?_
                                                      show Steps p.tables e below (s₁.setTop (mkF m 20 #[.val (.ref a0), .val (.ref a1), .val (.int (25 : Int32)), .val (.int v231)] [])) _
                                                      refine XS.iloadN X0.here hx rfl (hb hby d2_20) rfl ?_
                                                      exact k)
                                                    by_cases hc234 : v231 = (0 : Int32)
                                                    · have pre235 : ∀ t, Steps p.tables e below (s₁.setTop (mkF m 10 #[.val (.ref a0), .val (.ref a1), .val (.int (26 : Int32)), .val (.int v231)] [(.int (26 : Int32)), (.ref a0)])) t → Steps p.tables e below (s₁.setTop (entryFrame m #[(.ref a0), (.ref a1)] 4)) t := fun t k => pre233 t (by
                                                        show Steps p.tables e below (s₁.setTop (mkF m 21 #[.val (.ref a0), .val (.ref a1), .val (.int (25 : Int32)), .val (.int v231)] [(.int v231)])) _
                                                        refine XS.ifYes X0.here hx rfl (pc0 := 21) (pc' := 40) rfl (hb hby d2_21) rfl ((if0 _ _).trans (teq hc234).1) (by decide) (by decide) ?_
                                                        show Steps p.tables e below (s₁.setTop (mkF m 40 #[.val (.ref a0), .val (.ref a1), .val (.int (25 : Int32)), .val (.int v231)] [])) _
                                                        refine XS.iinc X0.here hx rfl (hb hby d2_40) rfl (l' := #[.val (.ref a0), .val (.ref a1), .val (.int (26 : Int32)), .val (.int v231)]) rfl ?_
                                                        show Steps p.tables e below (s₁.setTop (mkF m 43 #[.val (.ref a0), .val (.ref a1), .val (.int (26 : Int32)), .val (.int v231)] [])) _
                                                        refine XS.goto X0.here hx rfl (pc0 := 43) (pc' := 2) rfl (hb hby d2_43) (by decide) (by decide) ?_
                                                        show Steps p.tables e below (s₁.setTop (mkF m 2 #[.val (.ref a0), .val (.ref a1), .val (.int (26 : Int32)), .val (.int v231)] [])) _
                                                        refine XS.iloadN X0.here hx rfl (hb hby d2_2) rfl ?_
                                                        show Steps p.tables e below (s₁.setTop (mkF m 3 #[.val (.ref a0), .val (.ref a1), .val (.int (26 : Int32)), .val (.int v231)] [(.int (26 : Int32))])) _
                                                        refine XS.bipush X0.here hx rfl (hb hby d2_3) ?_
                                                        show Steps p.tables e below (s₁.setTop (mkF m 5 #[.val (.ref a0), .val (.ref a1), .val (.int (26 : Int32)), .val (.int v231)] [(.int (32 : Int32)), (.int (26 : Int32))])) _
                                                        refine XS.icmpNo X0.here hx rfl (hb hby d2_5) rfl (tlt ((by decide) : (26 : Int32) < (32 : Int32))).2.1 ?_
                                                        show Steps p.tables e below (s₁.setTop (mkF m 8 #[.val (.ref a0), .val (.ref a1), .val (.int (26 : Int32)), .val (.int v231)] [])) _
                                                        refine XS.aloadN X0.here hx rfl (hb hby d2_8) rfl rfl ?_
                                                        show Steps p.tables e below (s₁.setTop (mkF m 9 #[.val (.ref a0), .val (.ref a1), .val (.int (26 : Int32)), .val (.int v231)] [(.ref a0)])) _
                                                        refine XS.iloadN X0.here hx rfl (hb hby d2_9) rfl ?_
                                                        exact k)
                                                      obtain ⟨cl236, Ar236, q236, S236, M236, H236, G236⟩ := id V_a0
                                                      have hin236 : ¬ ((26 : Int32) < 0 ∨ cl236.slots.size ≤ ((26 : Int32)).toNatClampNeg) := inb_of S236 ⟨by decide, by decide⟩
                                                      have hat236 : cl236.slots[((26 : Int32)).toNatClampNeg]? = some (.int (own_get vs_a0 (26 : Int32))) := H236.at hin236 (own_getD vs_a0 (26 : Int32))
                                                      have pre237 : ∀ t, Steps p.tables e below (s₁.setTop (mkF m 13 #[.val (.ref a0), .val (.ref a1), .val (.int (26 : Int32)), .val (.int v231)] [(.int (26 : Int32)), (.ref a1), (.int (own_get vs_a0 (26 : Int32)))])) t → Steps p.tables e below (s₁.setTop (entryFrame m #[(.ref a0), (.ref a1)] 4)) t := fun t k => pre235 t (by
                                                        show Steps p.tables e below (s₁.setTop (mkF m 10 #[.val (.ref a0), .val (.ref a1), .val (.int (26 : Int32)), .val (.int v231)] [(.int (26 : Int32)), (.ref a0)])) _
                                                        refine X0.baloadBytes hx (j := (26 : Int32)) (v := (.int (own_get vs_a0 (26 : Int32)))) (by rw [e0]; exact Ar236.1) (State.isArrayOf_alike hZ.alike Ar236.2.1) Ar236.2.2 hin236 hat236 (g := (mkF m 10 #[.val (.ref a0), .val (.ref a1), .val (.int (26 : Int32)), .val (.int v231)] [(.int (26 : Int32)), (.ref a0)])) rfl rfl (hb hby d2_10) _ ?_
                                                        show Steps p.tables e below (s₁.setTop (mkF m 11 #[.val (.ref a0), .val (.ref a1), .val (.int (26 : Int32)), .val (.int v231)] [(.int (own_get vs_a0 (26 : Int32)))])) _
                                                        refine XS.aloadN X0.here hx rfl (hb hby d2_11) rfl rfl ?_
                                                        show Steps p.tables e below (s₁.setTop (mkF m 12 #[.val (.ref a0), .val (.ref a1), .val (.int (26 : Int32)), .val (.int v231)] [(.ref a1), (.int (own_get vs_a0 (26 : Int32)))])) _
                                                        refine XS.iloadN X0.here hx rfl (hb hby d2_12) rfl ?_
                                                        exact k)
                                                      obtain ⟨cl238, Ar238, q238, S238, M238, H238, G238⟩ := id V_a1
                                                      have hin238 : ¬ ((26 : Int32) < 0 ∨ cl238.slots.size ≤ ((26 : Int32)).toNatClampNeg) := inb_of S238 ⟨by decide, by decide⟩
                                                      have hat238 : cl238.slots[((26 : Int32)).toNatClampNeg]? = some (.int (own_get vs_a1 (26 : Int32))) := H238.at hin238 (own_getD vs_a1 (26 : Int32))
                                                      have pre239 : ∀ t, Steps p.tables e below (s₁.setTop (mkF m 19 #[.val (.ref a0), .val (.ref a1), .val (.int (26 : Int32)), .val (.int v231)] [(.int (((own_get vs_a0 (26 : Int32)) ^^^ (own_get vs_a1 (26 : Int32))) &&& (255 : Int32)))])) t → Steps p.tables e below (s₁.setTop (entryFrame m #[(.ref a0), (.ref a1)] 4)) t := fun t k => pre237 t (by
                                                        show Steps p.tables e below (s₁.setTop (mkF m 13 #[.val (.ref a0), .val (.ref a1), .val (.int (26 : Int32)), .val (.int v231)] [(.int (26 : Int32)), (.ref a1), (.int (own_get vs_a0 (26 : Int32)))])) _
                                                        refine X0.baloadBytes hx (j := (26 : Int32)) (v := (.int (own_get vs_a1 (26 : Int32)))) (by rw [e0]; exact Ar238.1) (State.isArrayOf_alike hZ.alike Ar238.2.1) Ar238.2.2 hin238 hat238 (g := (mkF m 13 #[.val (.ref a0), .val (.ref a1), .val (.int (26 : Int32)), .val (.int v231)] [(.int (26 : Int32)), (.ref a1), (.int (own_get vs_a0 (26 : Int32)))])) rfl rfl (hb hby d2_13) _ ?_
                                                        show Steps p.tables e below (s₁.setTop (mkF m 14 #[.val (.ref a0), .val (.ref a1), .val (.int (26 : Int32)), .val (.int v231)] [(.int (own_get vs_a1 (26 : Int32))), (.int (own_get vs_a0 (26 : Int32)))])) _
                                                        refine XS.ixor X0.here hx rfl (hb hby d2_14) rfl ?_
                                                        show Steps p.tables e below (s₁.setTop (mkF m 15 #[.val (.ref a0), .val (.ref a1), .val (.int (26 : Int32)), .val (.int v231)] [(.int ((own_get vs_a0 (26 : Int32)) ^^^ (own_get vs_a1 (26 : Int32))))])) _
                                                        refine XS.sipush X0.here hx rfl (hb hby d2_15) ?_
                                                        show Steps p.tables e below (s₁.setTop (mkF m 18 #[.val (.ref a0), .val (.ref a1), .val (.int (26 : Int32)), .val (.int v231)] [(.int (255 : Int32)), (.int ((own_get vs_a0 (26 : Int32)) ^^^ (own_get vs_a1 (26 : Int32))))])) _
                                                        refine XS.iand X0.here hx rfl (hb hby d2_18) rfl ?_
                                                        exact k)
                                                      obtain ⟨v240, hv240⟩ : ∃ z : Int32, z = (((own_get vs_a0 (26 : Int32)) ^^^ (own_get vs_a1 (26 : Int32))) &&& (255 : Int32)) := ⟨_, rfl⟩
                                                      have pre241 : ∀ t, Steps p.tables e below (s₁.setTop (mkF m 19 #[.val (.ref a0), .val (.ref a1), .val (.int (26 : Int32)), .val (.int v231)] [(.int v240)])) t → Steps p.tables e below (s₁.setTop (entryFrame m #[(.ref a0), (.ref a1)] 4)) t := fun t k => pre239 t (by rw [hv240] at k; exact k)
                                                      have pre242 : ∀ t, Steps p.tables e below (s₁.setTop (mkF m 21 #[.val (.ref a0), .val (.ref a1), .val (.int (26 : Int32)), .val (.int v240)] [(.int v240)])) t → Steps p.tables e below (s₁.setTop (entryFrame m #[(.ref a0), (.ref a1)] 4)) t := fun t k => pre241 t (by
                                                        show Steps p.tables e below (s₁.setTop (mkF m 19 #[.val (.ref a0), .val (.ref a1), .val (.int (26 : Int32)), .val (.int v231)] [(.int v240)])) _
                                                        refine XS.istoreN X0.here hx rfl (hb hby d2_19) rfl (l' := #[.val (.ref a0), .val (.ref a1), .val (.int (26 : Int32)), .val (.int v240)]) rfl ?_
                                                        show Steps p.tables e below (s₁.setTop (mkF m 20 #[.val (.ref a0), .val (.ref a1), .val (.int (26 : Int32)), .val (.int v240)] [])) _
                                                        refine XS.iloadN X0.here hx rfl (hb hby d2_20) rfl ?_
                                                        exact k)
                                                      by_cases hc243 : v240 = (0 : Int32)
                                                      · have pre244 : ∀ t, Steps p.tables e below (s₁.setTop (mkF m 10 #[.val (.ref a0), .val (.ref a1), .val (.int (27 : Int32)), .val (.int v240)] [(.int (27 : Int32)), (.ref a0)])) t → Steps p.tables e below (s₁.setTop (entryFrame m #[(.ref a0), (.ref a1)] 4)) t := fun t k => pre242 t (by
                                                          show Steps p.tables e below (s₁.setTop (mkF m 21 #[.val (.ref a0), .val (.ref a1), .val (.int (26 : Int32)), .val (.int v240)] [(.int v240)])) _
                                                          refine XS.ifYes X0.here hx rfl (pc0 := 21) (pc' := 40) rfl (hb hby d2_21) rfl ((if0 _ _).trans (teq hc243).1) (by decide) (by decide) ?_
                                                          show Steps p.tables e below (s₁.setTop (mkF m 40 #[.val (.ref a0), .val (.ref a1), .val (.int (26 : Int32)), .val (.int v240)] [])) _
                                                          refine XS.iinc X0.here hx rfl (hb hby d2_40) rfl (l' := #[.val (.ref a0), .val (.ref a1), .val (.int (27 : Int32)), .val (.int v240)]) rfl ?_
                                                          show Steps p.tables e below (s₁.setTop (mkF m 43 #[.val (.ref a0), .val (.ref a1), .val (.int (27 : Int32)), .val (.int v240)] [])) _
                                                          refine XS.goto X0.here hx rfl (pc0 := 43) (pc' := 2) rfl (hb hby d2_43) (by decide) (by decide) ?_
                                                          show Steps p.tables e below (s₁.setTop (mkF m 2 #[.val (.ref a0), .val (.ref a1), .val (.int (27 : Int32)), .val (.int v240)] [])) _
                                                          refine XS.iloadN X0.here hx rfl (hb hby d2_2) rfl ?_
                                                          show Steps p.tables e below (s₁.setTop (mkF m 3 #[.val (.ref a0), .val (.ref a1), .val (.int (27 : Int32)), .val (.int v240)] [(.int (27 : Int32))])) _
                                                          refine XS.bipush X0.here hx rfl (hb hby d2_3) ?_
                                                          show Steps p.tables e below (s₁.setTop (mkF m 5 #[.val (.ref a0), .val (.ref a1), .val (.int (27 : Int32)), .val (.int v240)] [(.int (32 : Int32)), (.int (27 : Int32))])) _
                                                          refine XS.icmpNo X0.here hx rfl (hb hby d2_5) rfl (tlt ((by decide) : (27 : Int32) < (32 : Int32))).2.1 ?_
                                                          show Steps p.tables e below (s₁.setTop (mkF m 8 #[.val (.ref a0), .val (.ref a1), .val (.int (27 : Int32)), .val (.int v240)] [])) _
                                                          refine XS.aloadN X0.here hx rfl (hb hby d2_8) rfl rfl ?_
                                                          show Steps p.tables e below (s₁.setTop (mkF m 9 #[.val (.ref a0), .val (.ref a1), .val (.int (27 : Int32)), .val (.int v240)] [(.ref a0)])) _
                                                          refine XS.iloadN X0.here hx rfl (hb hby d2_9) rfl ?_
                                                          exact k)
                                                        obtain ⟨cl245, Ar245, q245, S245, M245, H245, G245⟩ := id V_a0
                                                        have hin245 : ¬ ((27 : Int32) < 0 ∨ cl245.slots.size ≤ ((27 : Int32)).toNatClampNeg) := inb_of S245 ⟨by decide, by decide⟩
                                                        have hat245 : cl245.slots[((27 : Int32)).toNatClampNeg]? = some (.int (own_get vs_a0 (27 : Int32))) := H245.at hin245 (own_getD vs_a0 (27 : Int32))
                                                        have pre246 : ∀ t, Steps p.tables e below (s₁.setTop (mkF m 13 #[.val (.ref a0), .val (.ref a1), .val (.int (27 : Int32)), .val (.int v240)] [(.int (27 : Int32)), (.ref a1), (.int (own_get vs_a0 (27 : Int32)))])) t → Steps p.tables e below (s₁.setTop (entryFrame m #[(.ref a0), (.ref a1)] 4)) t := fun t k => pre244 t (by
                                                          show Steps p.tables e below (s₁.setTop (mkF m 10 #[.val (.ref a0), .val (.ref a1), .val (.int (27 : Int32)), .val (.int v240)] [(.int (27 : Int32)), (.ref a0)])) _
                                                          refine X0.baloadBytes hx (j := (27 : Int32)) (v := (.int (own_get vs_a0 (27 : Int32)))) (by rw [e0]; exact Ar245.1) (State.isArrayOf_alike hZ.alike Ar245.2.1) Ar245.2.2 hin245 hat245 (g := (mkF m 10 #[.val (.ref a0), .val (.ref a1), .val (.int (27 : Int32)), .val (.int v240)] [(.int (27 : Int32)), (.ref a0)])) rfl rfl (hb hby d2_10) _ ?_
                                                          show Steps p.tables e below (s₁.setTop (mkF m 11 #[.val (.ref a0), .val (.ref a1), .val (.int (27 : Int32)), .val (.int v240)] [(.int (own_get vs_a0 (27 : Int32)))])) _
                                                          refine XS.aloadN X0.here hx rfl (hb hby d2_11) rfl rfl ?_
                                                          show Steps p.tables e below (s₁.setTop (mkF m 12 #[.val (.ref a0), .val (.ref a1), .val (.int (27 : Int32)), .val (.int v240)] [(.ref a1), (.int (own_get vs_a0 (27 : Int32)))])) _
                                                          refine XS.iloadN X0.here hx rfl (hb hby d2_12) rfl ?_
                                                          exact k)
                                                        obtain ⟨cl247, Ar247, q247, S247, M247, H247, G247⟩ := id V_a1
                                                        have hin247 : ¬ ((27 : Int32) < 0 ∨ cl247.slots.size ≤ ((27 : Int32)).toNatClampNeg) := inb_of S247 ⟨by decide, by decide⟩
                                                        have hat247 : cl247.slots[((27 : Int32)).toNatClampNeg]? = some (.int (own_get vs_a1 (27 : Int32))) := H247.at hin247 (own_getD vs_a1 (27 : Int32))
                                                        have pre248 : ∀ t, Steps p.tables e below (s₁.setTop (mkF m 19 #[.val (.ref a0), .val (.ref a1), .val (.int (27 : Int32)), .val (.int v240)] [(.int (((own_get vs_a0 (27 : Int32)) ^^^ (own_get vs_a1 (27 : Int32))) &&& (255 : Int32)))])) t → Steps p.tables e below (s₁.setTop (entryFrame m #[(.ref a0), (.ref a1)] 4)) t := fun t k => pre246 t (by
                                                          show Steps p.tables e below (s₁.setTop (mkF m 13 #[.val (.ref a0), .val (.ref a1), .val (.int (27 : Int32)), .val (.int v240)] [(.int (27 : Int32)), (.ref a1), (.int (own_get vs_a0 (27 : Int32)))])) _
                                                          refine X0.baloadBytes hx (j := (27 : Int32)) (v := (.int (own_get vs_a1 (27 : Int32)))) (by rw [e0]; exact Ar247.1) (State.isArrayOf_alike hZ.alike Ar247.2.1) Ar247.2.2 hin247 hat247 (g := (mkF m 13 #[.val (.ref a0), .val (.ref a1), .val (.int (27 : Int32)), .val (.int v240)] [(.int (27 : Int32)), (.ref a1), (.int (own_get vs_a0 (27 : Int32)))])) rfl rfl (hb hby d2_13) _ ?_
                                                          show Steps p.tables e below (s₁.setTop (mkF m 14 #[.val (.ref a0), .val (.ref a1), .val (.int (27 : Int32)), .val (.int v240)] [(.int (own_get vs_a1 (27 : Int32))), (.int (own_get vs_a0 (27 : Int32)))])) _
                                                          refine XS.ixor X0.here hx rfl (hb hby d2_14) rfl ?_
                                                          show Steps p.tables e below (s₁.setTop (mkF m 15 #[.val (.ref a0), .val (.ref a1), .val (.int (27 : Int32)), .val (.int v240)] [(.int ((own_get vs_a0 (27 : Int32)) ^^^ (own_get vs_a1 (27 : Int32))))])) _
                                                          refine XS.sipush X0.here hx rfl (hb hby d2_15) ?_
                                                          show Steps p.tables e below (s₁.setTop (mkF m 18 #[.val (.ref a0), .val (.ref a1), .val (.int (27 : Int32)), .val (.int v240)] [(.int (255 : Int32)), (.int ((own_get vs_a0 (27 : Int32)) ^^^ (own_get vs_a1 (27 : Int32))))])) _
                                                          refine XS.iand X0.here hx rfl (hb hby d2_18) rfl ?_
                                                          exact k)
                                                        obtain ⟨v249, hv249⟩ : ∃ z : Int32, z = (((own_get vs_a0 (27 : Int32)) ^^^ (own_get vs_a1 (27 : Int32))) &&& (255 : Int32)) := ⟨_, rfl⟩
                                                        have pre250 : ∀ t, Steps p.tables e below (s₁.setTop (mkF m 19 #[.val (.ref a0), .val (.ref a1), .val (.int (27 : Int32)), .val (.int v240)] [(.int v249)])) t → Steps p.tables e below (s₁.setTop (entryFrame m #[(.ref a0), (.ref a1)] 4)) t := fun t k => pre248 t (by rw [hv249] at k; exact k)
                                                        have pre251 : ∀ t, Steps p.tables e below (s₁.setTop (mkF m 21 #[.val (.ref a0), .val (.ref a1), .val (.int (27 : Int32)), .val (.int v249)] [(.int v249)])) t → Steps p.tables e below (s₁.setTop (entryFrame m #[(.ref a0), (.ref a1)] 4)) t := fun t k => pre250 t (by
                                                          show Steps p.tables e below (s₁.setTop (mkF m 19 #[.val (.ref a0), .val (.ref a1), .val (.int (27 : Int32)), .val (.int v240)] [(.int v249)])) _
                                                          refine XS.istoreN X0.here hx rfl (hb hby d2_19) rfl (l' := #[.val (.ref a0), .val (.ref a1), .val (.int (27 : Int32)), .val (.int v249)]) rfl ?_
                                                          show Steps p.tables e below (s₁.setTop (mkF m 20 #[.val (.ref a0), .val (.ref a1), .val (.int (27 : Int32)), .val (.int v249)] [])) _
                                                          refine XS.iloadN X0.here hx rfl (hb hby d2_20) rfl ?_
                                                          exact k)
                                                        by_cases hc252 : v249 = (0 : Int32)
                                                        · have pre253 : ∀ t, Steps p.tables e below (s₁.setTop (mkF m 10 #[.val (.ref a0), .val (.ref a1), .val (.int (28 : Int32)), .val (.int v249)] [(.int (28 : Int32)), (.ref a0)])) t → Steps p.tables e below (s₁.setTop (entryFrame m #[(.ref a0), (.ref a1)] 4)) t := fun t k => pre251 t (by
                                                            show Steps p.tables e below (s₁.setTop (mkF m 21 #[.val (.ref a0), .val (.ref a1), .val (.int (27 : Int32)), .val (.int v249)] [(.int v249)])) _
                                                            refine XS.ifYes X0.here hx rfl (pc0 := 21) (pc' := 40) rfl (hb hby d2_21) rfl ((if0 _ _).trans (teq hc252).1) (by decide) (by decide) ?_
                                                            show Steps p.tables e below (s₁.setTop (mkF m 40 #[.val (.ref a0), .val (.ref a1), .val (.int (27 : Int32)), .val (.int v249)] [])) _
                                                            refine XS.iinc X0.here hx rfl (hb hby d2_40) rfl (l' := #[.val (.ref a0), .val (.ref a1), .val (.int (28 : Int32)), .val (.int v249)]) rfl ?_
                                                            show Steps p.tables e below (s₁.setTop (mkF m 43 #[.val (.ref a0), .val (.ref a1), .val (.int (28 : Int32)), .val (.int v249)] [])) _
                                                            refine XS.goto X0.here hx rfl (pc0 := 43) (pc' := 2) rfl (hb hby d2_43) (by decide) (by decide) ?_
                                                            show Steps p.tables e below (s₁.setTop (mkF m 2 #[.val (.ref a0), .val (.ref a1), .val (.int (28 : Int32)), .val (.int v249)] [])) _
                                                            refine XS.iloadN X0.here hx rfl (hb hby d2_2) rfl ?_
                                                            show Steps p.tables e below (s₁.setTop (mkF m 3 #[.val (.ref a0), .val (.ref a1), .val (.int (28 : Int32)), .val (.int v249)] [(.int (28 : Int32))])) _
                                                            refine XS.bipush X0.here hx rfl (hb hby d2_3) ?_
                                                            show Steps p.tables e below (s₁.setTop (mkF m 5 #[.val (.ref a0), .val (.ref a1), .val (.int (28 : Int32)), .val (.int v249)] [(.int (32 : Int32)), (.int (28 : Int32))])) _
                                                            refine XS.icmpNo X0.here hx rfl (hb hby d2_5) rfl (tlt ((by decide) : (28 : Int32) < (32 : Int32))).2.1 ?_
                                                            show Steps p.tables e below (s₁.setTop (mkF m 8 #[.val (.ref a0), .val (.ref a1), .val (.int (28 : Int32)), .val (.int v249)] [])) _
                                                            refine XS.aloadN X0.here hx rfl (hb hby d2_8) rfl rfl ?_
                                                            show Steps p.tables e below (s₁.setTop (mkF m 9 #[.val (.ref a0), .val (.ref a1), .val (.int (28 : Int32)), .val (.int v249)] [(.ref a0)])) _
                                                            refine XS.iloadN X0.here hx rfl (hb hby d2_9) rfl ?_
                                                            exact k)
                                                          obtain ⟨cl254, Ar254, q254, S254, M254, H254, G254⟩ := id V_a0
                                                          have hin254 : ¬ ((28 : Int32) < 0 ∨ cl254.slots.size ≤ ((28 : Int32)).toNatClampNeg) := inb_of S254 ⟨by decide, by decide⟩
                                                          have hat254 : cl254.slots[((28 : Int32)).toNatClampNeg]? = some (.int (own_get vs_a0 (28 : Int32))) := H254.at hin254 (own_getD vs_a0 (28 : Int32))
                                                          have pre255 : ∀ t, Steps p.tables e below (s₁.setTop (mkF m 13 #[.val (.ref a0), .val (.ref a1), .val (.int (28 : Int32)), .val (.int v249)] [(.int (28 : Int32)), (.ref a1), (.int (own_get vs_a0 (28 : Int32)))])) t → Steps p.tables e below (s₁.setTop (entryFrame m #[(.ref a0), (.ref a1)] 4)) t := fun t k => pre253 t (by
                                                            show Steps p.tables e below (s₁.setTop (mkF m 10 #[.val (.ref a0), .val (.ref a1), .val (.int (28 : Int32)), .val (.int v249)] [(.int (28 : Int32)), (.ref a0)])) _
                                                            refine X0.baloadBytes hx (j := (28 : Int32)) (v := (.int (own_get vs_a0 (28 : Int32)))) (by rw [e0]; exact Ar254.1) (State.isArrayOf_alike hZ.alike Ar254.2.1) Ar254.2.2 hin254 hat254 (g := (mkF m 10 #[.val (.ref a0), .val (.ref a1), .val (.int (28 : Int32)), .val (.int v249)] [(.int (28 : Int32)), (.ref a0)])) rfl rfl (hb hby d2_10) _ ?_
                                                            show Steps p.tables e below (s₁.setTop (mkF m 11 #[.val (.ref a0), .val (.ref a1), .val (.int (28 : Int32)), .val (.int v249)] [(.int (own_get vs_a0 (28 : Int32)))])) _
                                                            refine XS.aloadN X0.here hx rfl (hb hby d2_11) rfl rfl ?_
                                                            show Steps p.tables e below (s₁.setTop (mkF m 12 #[.val (.ref a0), .val (.ref a1), .val (.int (28 : Int32)), .val (.int v249)] [(.ref a1), (.int (own_get vs_a0 (28 : Int32)))])) _
                                                            refine XS.iloadN X0.here hx rfl (hb hby d2_12) rfl ?_
                                                            exact k)
                                                          obtain ⟨cl256, Ar256, q256, S256, M256, H256, G256⟩ := id V_a1
                                                          have hin256 : ¬ ((28 : Int32) < 0 ∨ cl256.slots.size ≤ ((28 : Int32)).toNatClampNeg) := inb_of S256 ⟨by decide, by decide⟩
                                                          have hat256 : cl256.slots[((28 : Int32)).toNatClampNeg]? = some (.int (own_get vs_a1 (28 : Int32))) := H256.at hin256 (own_getD vs_a1 (28 : Int32))
                                                          have pre257 : ∀ t, Steps p.tables e below (s₁.setTop (mkF m 19 #[.val (.ref a0), .val (.ref a1), .val (.int (28 : Int32)), .val (.int v249)] [(.int (((own_get vs_a0 (28 : Int32)) ^^^ (own_get vs_a1 (28 : Int32))) &&& (255 : Int32)))])) t → Steps p.tables e below (s₁.setTop (entryFrame m #[(.ref a0), (.ref a1)] 4)) t := fun t k => pre255 t (by
                                                            show Steps p.tables e below (s₁.setTop (mkF m 13 #[.val (.ref a0), .val (.ref a1), .val (.int (28 : Int32)), .val (.int v249)] [(.int (28 : Int32)), (.ref a1), (.int (own_get vs_a0 (28 : Int32)))])) _
                                                            refine X0.baloadBytes hx (j := (28 : Int32)) (v := (.int (own_get vs_a1 (28 : Int32)))) (by rw [e0]; exact Ar256.1) (State.isArrayOf_alike hZ.alike Ar256.2.1) Ar256.2.2 hin256 hat256 (g := (mkF m 13 #[.val (.ref a0), .val (.ref a1), .val (.int (28 : Int32)), .val (.int v249)] [(.int (28 : Int32)), (.ref a1), (.int (own_get vs_a0 (28 : Int32)))])) rfl rfl (hb hby d2_13) _ ?_
                                                            show Steps p.tables e below (s₁.setTop (mkF m 14 #[.val (.ref a0), .val (.ref a1), .val (.int (28 : Int32)), .val (.int v249)] [(.int (own_get vs_a1 (28 : Int32))), (.int (own_get vs_a0 (28 : Int32)))])) _
                                                            refine XS.ixor X0.here hx rfl (hb hby d2_14) rfl ?_
                                                            show Steps p.tables e below (s₁.setTop (mkF m 15 #[.val (.ref a0), .val (.ref a1), .val (.int (28 : Int32)), .val (.int v249)] [(.int ((own_get vs_a0 (28 : Int32)) ^^^ (own_get vs_a1 (28 : Int32))))])) _
                                                            refine XS.sipush X0.here hx rfl (hb hby d2_15) ?_
                                                            show Steps p.tables e below (s₁.setTop (mkF m 18 #[.val (.ref a0), .val (.ref a1), .val (.int (28 : Int32)), .val (.int v249)] [(.int (255 : Int32)), (.int ((own_get vs_a0 (28 : Int32)) ^^^ (own_get vs_a1 (28 : Int32))))])) _
                                                            refine XS.iand X0.here hx rfl (hb hby d2_18) rfl ?_
                                                            exact k)
                                                          obtain ⟨v258, hv258⟩ : ∃ z : Int32, z = (((own_get vs_a0 (28 : Int32)) ^^^ (own_get vs_a1 (28 : Int32))) &&& (255 : Int32)) := ⟨_, rfl⟩
                                                          have pre259 : ∀ t, Steps p.tables e below (s₁.setTop (mkF m 19 #[.val (.ref a0), .val (.ref a1), .val (.int (28 : Int32)), .val (.int v249)] [(.int v258)])) t → Steps p.tables e below (s₁.setTop (entryFrame m #[(.ref a0), (.ref a1)] 4)) t := fun t k => pre257 t (by rw [hv258] at k; exact k)
                                                          have pre260 : ∀ t, Steps p.tables e below (s₁.setTop (mkF m 21 #[.val (.ref a0), .val (.ref a1), .val (.int (28 : Int32)), .val (.int v258)] [(.int v258)])) t → Steps p.tables e below (s₁.setTop (entryFrame m #[(.ref a0), (.ref a1)] 4)) t := fun t k => pre259 t (by
                                                            show Steps p.tables e below (s₁.setTop (mkF m 19 #[.val (.ref a0), .val (.ref a1), .val (.int (28 : Int32)), .val (.int v249)] [(.int v258)])) _
                                                            refine XS.istoreN X0.here hx rfl (hb hby d2_19) rfl (l' := #[.val (.ref a0), .val (.ref a1), .val (.int (28 : Int32)), .val (.int v258)]) rfl ?_
                                                            show Steps p.tables e below (s₁.setTop (mkF m 20 #[.val (.ref a0), .val (.ref a1), .val (.int (28 : Int32)), .val (.int v258)] [])) _
                                                            refine XS.iloadN X0.here hx rfl (hb hby d2_20) rfl ?_
                                                            exact k)
                                                          by_cases hc261 : v258 = (0 : Int32)
                                                          · have pre262 : ∀ t, Steps p.tables e below (s₁.setTop (mkF m 10 #[.val (.ref a0), .val (.ref a1), .val (.int (29 : Int32)), .val (.int v258)] [(.int (29 : Int32)), (.ref a0)])) t → Steps p.tables e below (s₁.setTop (entryFrame m #[(.ref a0), (.ref a1)] 4)) t := fun t k => pre260 t (by
                                                              show Steps p.tables e below (s₁.setTop (mkF m 21 #[.val (.ref a0), .val (.ref a1), .val (.int (28 : Int32)), .val (.int v258)] [(.int v258)])) _
                                                              refine XS.ifYes X0.here hx rfl (pc0 := 21) (pc' := 40) rfl (hb hby d2_21) rfl ((if0 _ _).trans (teq hc261).1) (by decide) (by decide) ?_
                                                              show Steps p.tables e below (s₁.setTop (mkF m 40 #[.val (.ref a0), .val (.ref a1), .val (.int (28 : Int32)), .val (.int v258)] [])) _
                                                              refine XS.iinc X0.here hx rfl (hb hby d2_40) rfl (l' := #[.val (.ref a0), .val (.ref a1), .val (.int (29 : Int32)), .val (.int v258)]) rfl ?_
                                                              show Steps p.tables e below (s₁.setTop (mkF m 43 #[.val (.ref a0), .val (.ref a1), .val (.int (29 : Int32)), .val (.int v258)] [])) _
                                                              refine XS.goto X0.here hx rfl (pc0 := 43) (pc' := 2) rfl (hb hby d2_43) (by decide) (by decide) ?_
                                                              show Steps p.tables e below (s₁.setTop (mkF m 2 #[.val (.ref a0), .val (.ref a1), .val (.int (29 : Int32)), .val (.int v258)] [])) _
                                                              refine XS.iloadN X0.here hx rfl (hb hby d2_2) rfl ?_
                                                              show Steps p.tables e below (s₁.setTop (mkF m 3 #[.val (.ref a0), .val (.ref a1), .val (.int (29 : Int32)), .val (.int v258)] [(.int (29 : Int32))])) _
                                                              refine XS.bipush X0.here hx rfl (hb hby d2_3) ?_
                                                              show Steps p.tables e below (s₁.setTop (mkF m 5 #[.val (.ref a0), .val (.ref a1), .val (.int (29 : Int32)), .val (.int v258)] [(.int (32 : Int32)), (.int (29 : Int32))])) _
                                                              refine XS.icmpNo X0.here hx rfl (hb hby d2_5) rfl (tlt ((by decide) : (29 : Int32) < (32 : Int32))).2.1 ?_
                                                              show Steps p.tables e below (s₁.setTop (mkF m 8 #[.val (.ref a0), .val (.ref a1), .val (.int (29 : Int32)), .val (.int v258)] [])) _
                                                              refine XS.aloadN X0.here hx rfl (hb hby d2_8) rfl rfl ?_
                                                              show Steps p.tables e below (s₁.setTop (mkF m 9 #[.val (.ref a0), .val (.ref a1), .val (.int (29 : Int32)), .val (.int v258)] [(.ref a0)])) _
                                                              refine XS.iloadN X0.here hx rfl (hb hby d2_9) rfl ?_
                                                              exact k)
                                                            obtain ⟨cl263, Ar263, q263, S263, M263, H263, G263⟩ := id V_a0
                                                            have hin263 : ¬ ((29 : Int32) < 0 ∨ cl263.slots.size ≤ ((29 : Int32)).toNatClampNeg) := inb_of S263 ⟨by decide, by decide⟩
                                                            have hat263 : cl263.slots[((29 : Int32)).toNatClampNeg]? = some (.int (own_get vs_a0 (29 : Int32))) := H263.at hin263 (own_getD vs_a0 (29 : Int32))
                                                            have pre264 : ∀ t, Steps p.tables e below (s₁.setTop (mkF m 13 #[.val (.ref a0), .val (.ref a1), .val (.int (29 : Int32)), .val (.int v258)] [(.int (29 : Int32)), (.ref a1), (.int (own_get vs_a0 (29 : Int32)))])) t → Steps p.tables e below (s₁.setTop (entryFrame m #[(.ref a0), (.ref a1)] 4)) t := fun t k => pre262 t (by
                                                              show Steps p.tables e below (s₁.setTop (mkF m 10 #[.val (.ref a0), .val (.ref a1), .val (.int (29 : Int32)), .val (.int v258)] [(.int (29 : Int32)), (.ref a0)])) _
                                                              refine X0.baloadBytes hx (j := (29 : Int32)) (v := (.int (own_get vs_a0 (29 : Int32)))) (by rw [e0]; exact Ar263.1) (State.isArrayOf_alike hZ.alike Ar263.2.1) Ar263.2.2 hin263 hat263 (g := (mkF m 10 #[.val (.ref a0), .val (.ref a1), .val (.int (29 : Int32)), .val (.int v258)] [(.int (29 : Int32)), (.ref a0)])) rfl rfl (hb hby d2_10) _ ?_
                                                              show Steps p.tables e below (s₁.setTop (mkF m 11 #[.val (.ref a0), .val (.ref a1), .val (.int (29 : Int32)), .val (.int v258)] [(.int (own_get vs_a0 (29 : Int32)))])) _
                                                              refine XS.aloadN X0.here hx rfl (hb hby d2_11) rfl rfl ?_
                                                              show Steps p.tables e below (s₁.setTop (mkF m 12 #[.val (.ref a0), .val (.ref a1), .val (.int (29 : Int32)), .val (.int v258)] [(.ref a1), (.int (own_get vs_a0 (29 : Int32)))])) _
                                                              refine XS.iloadN X0.here hx rfl (hb hby d2_12) rfl ?_
                                                              exact k)
                                                            obtain ⟨cl265, Ar265, q265, S265, M265, H265, G265⟩ := id V_a1
                                                            have hin265 : ¬ ((29 : Int32) < 0 ∨ cl265.slots.size ≤ ((29 : Int32)).toNatClampNeg) := inb_of S265 ⟨by decide, by decide⟩
                                                            have hat265 : cl265.slots[((29 : Int32)).toNatClampNeg]? = some (.int (own_get vs_a1 (29 : Int32))) := H265.at hin265 (own_getD vs_a1 (29 : Int32))
                                                            have pre266 : ∀ t, Steps p.tables e below (s₁.setTop (mkF m 19 #[.val (.ref a0), .val (.ref a1), .val (.int (29 : Int32)), .val (.int v258)] [(.int (((own_get vs_a0 (29 : Int32)) ^^^ (own_get vs_a1 (29 : Int32))) &&& (255 : Int32)))])) t → Steps p.tables e below (s₁.setTop (entryFrame m #[(.ref a0), (.ref a1)] 4)) t := fun t k => pre264 t (by
                                                              show Steps p.tables e below (s₁.setTop (mkF m 13 #[.val (.ref a0), .val (.ref a1), .val (.int (29 : Int32)), .val (.int v258)] [(.int (29 : Int32)), (.ref a1), (.int (own_get vs_a0 (29 : Int32)))])) _
                                                              refine X0.baloadBytes hx (j := (29 : Int32)) (v := (.int (own_get vs_a1 (29 : Int32)))) (by rw [e0]; exact Ar265.1) (State.isArrayOf_alike hZ.alike Ar265.2.1) Ar265.2.2 hin265 hat265 (g := (mkF m 13 #[.val (.ref a0), .val (.ref a1), .val (.int (29 : Int32)), .val (.int v258)] [(.int (29 : Int32)), (.ref a1), (.int (own_get vs_a0 (29 : Int32)))])) rfl rfl (hb hby d2_13) _ ?_
                                                              show Steps p.tables e below (s₁.setTop (mkF m 14 #[.val (.ref a0), .val (.ref a1), .val (.int (29 : Int32)), .val (.int v258)] [(.int (own_get vs_a1 (29 : Int32))), (.int (own_get vs_a0 (29 : Int32)))])) _
                                                              refine XS.ixor X0.here hx rfl (hb hby d2_14) rfl ?_
                                                              show Steps p.tables e below (s₁.setTop (mkF m 15 #[.val (.ref a0), .val (.ref a1), .val (.int (29 : Int32)), .val (.int v258)] [(.int ((own_get vs_a0 (29 : Int32)) ^^^ (own_get vs_a1 (29 : Int32))))])) _
                                                              refine XS.sipush X0.here hx rfl (hb hby d2_15) ?_
                                                              show Steps p.tables e below (s₁.setTop (mkF m 18 #[.val (.ref a0), .val (.ref a1), .val (.int (29 : Int32)), .val (.int v258)] [(.int (255 : Int32)), (.int ((own_get vs_a0 (29 : Int32)) ^^^ (own_get vs_a1 (29 : Int32))))])) _
                                                              refine XS.iand X0.here hx rfl (hb hby d2_18) rfl ?_
                                                              exact k)
                                                            obtain ⟨v267, hv267⟩ : ∃ z : Int32, z = (((own_get vs_a0 (29 : Int32)) ^^^ (own_get vs_a1 (29 : Int32))) &&& (255 : Int32)) := ⟨_, rfl⟩
                                                            have pre268 : ∀ t, Steps p.tables e below (s₁.setTop (mkF m 19 #[.val (.ref a0), .val (.ref a1), .val (.int (29 : Int32)), .val (.int v258)] [(.int v267)])) t → Steps p.tables e below (s₁.setTop (entryFrame m #[(.ref a0), (.ref a1)] 4)) t := fun t k => pre266 t (by rw [hv267] at k; exact k)
                                                            have pre269 : ∀ t, Steps p.tables e below (s₁.setTop (mkF m 21 #[.val (.ref a0), .val (.ref a1), .val (.int (29 : Int32)), .val (.int v267)] [(.int v267)])) t → Steps p.tables e below (s₁.setTop (entryFrame m #[(.ref a0), (.ref a1)] 4)) t := fun t k => pre268 t (by
                                                              show Steps p.tables e below (s₁.setTop (mkF m 19 #[.val (.ref a0), .val (.ref a1), .val (.int (29 : Int32)), .val (.int v258)] [(.int v267)])) _
                                                              refine XS.istoreN X0.here hx rfl (hb hby d2_19) rfl (l' := #[.val (.ref a0), .val (.ref a1), .val (.int (29 : Int32)), .val (.int v267)]) rfl ?_
                                                              show Steps p.tables e below (s₁.setTop (mkF m 20 #[.val (.ref a0), .val (.ref a1), .val (.int (29 : Int32)), .val (.int v267)] [])) _
                                                              refine XS.iloadN X0.here hx rfl (hb hby d2_20) rfl ?_
                                                              exact k)
                                                            by_cases hc270 : v267 = (0 : Int32)
                                                            · have pre271 : ∀ t, Steps p.tables e below (s₁.setTop (mkF m 10 #[.val (.ref a0), .val (.ref a1), .val (.int (30 : Int32)), .val (.int v267)] [(.int (30 : Int32)), (.ref a0)])) t → Steps p.tables e below (s₁.setTop (entryFrame m #[(.ref a0), (.ref a1)] 4)) t := fun t k => pre269 t (by
                                                                show Steps p.tables e below (s₁.setTop (mkF m 21 #[.val (.ref a0), .val (.ref a1), .val (.int (29 : Int32)), .val (.int v267)] [(.int v267)])) _
                                                                refine XS.ifYes X0.here hx rfl (pc0 := 21) (pc' := 40) rfl (hb hby d2_21) rfl ((if0 _ _).trans (teq hc270).1) (by decide) (by decide) ?_
                                                                show Steps p.tables e below (s₁.setTop (mkF m 40 #[.val (.ref a0), .val (.ref a1), .val (.int (29 : Int32)), .val (.int v267)] [])) _
                                                                refine XS.iinc X0.here hx rfl (hb hby d2_40) rfl (l' := #[.val (.ref a0), .val (.ref a1), .val (.int (30 : Int32)), .val (.int v267)]) rfl ?_
                                                                show Steps p.tables e below (s₁.setTop (mkF m 43 #[.val (.ref a0), .val (.ref a1), .val (.int (30 : Int32)), .val (.int v267)] [])) _
                                                                refine XS.goto X0.here hx rfl (pc0 := 43) (pc' := 2) rfl (hb hby d2_43) (by decide) (by decide) ?_
                                                                show Steps p.tables e below (s₁.setTop (mkF m 2 #[.val (.ref a0), .val (.ref a1), .val (.int (30 : Int32)), .val (.int v267)] [])) _
                                                                refine XS.iloadN X0.here hx rfl (hb hby d2_2) rfl ?_
                                                                show Steps p.tables e below (s₁.setTop (mkF m 3 #[.val (.ref a0), .val (.ref a1), .val (.int (30 : Int32)), .val (.int v267)] [(.int (30 : Int32))])) _
                                                                refine XS.bipush X0.here hx rfl (hb hby d2_3) ?_
                                                                show Steps p.tables e below (s₁.setTop (mkF m 5 #[.val (.ref a0), .val (.ref a1), .val (.int (30 : Int32)), .val (.int v267)] [(.int (32 : Int32)), (.int (30 : Int32))])) _
                                                                refine XS.icmpNo X0.here hx rfl (hb hby d2_5) rfl (tlt ((by decide) : (30 : Int32) < (32 : Int32))).2.1 ?_
                                                                show Steps p.tables e below (s₁.setTop (mkF m 8 #[.val (.ref a0), .val (.ref a1), .val (.int (30 : Int32)), .val (.int v267)] [])) _
                                                                refine XS.aloadN X0.here hx rfl (hb hby d2_8) rfl rfl ?_
                                                                show Steps p.tables e below (s₁.setTop (mkF m 9 #[.val (.ref a0), .val (.ref a1), .val (.int (30 : Int32)), .val (.int v267)] [(.ref a0)])) _
                                                                refine XS.iloadN X0.here hx rfl (hb hby d2_9) rfl ?_
                                                                exact k)
                                                              obtain ⟨cl272, Ar272, q272, S272, M272, H272, G272⟩ := id V_a0
                                                              have hin272 : ¬ ((30 : Int32) < 0 ∨ cl272.slots.size ≤ ((30 : Int32)).toNatClampNeg) := inb_of S272 ⟨by decide, by decide⟩
                                                              have hat272 : cl272.slots[((30 : Int32)).toNatClampNeg]? = some (.int (own_get vs_a0 (30 : Int32))) := H272.at hin272 (own_getD vs_a0 (30 : Int32))
                                                              have pre273 : ∀ t, Steps p.tables e below (s₁.setTop (mkF m 13 #[.val (.ref a0), .val (.ref a1), .val (.int (30 : Int32)), .val (.int v267)] [(.int (30 : Int32)), (.ref a1), (.int (own_get vs_a0 (30 : Int32)))])) t → Steps p.tables e below (s₁.setTop (entryFrame m #[(.ref a0), (.ref a1)] 4)) t := fun t k => pre271 t (by
                                                                show Steps p.tables e below (s₁.setTop (mkF m 10 #[.val (.ref a0), .val (.ref a1), .val (.int (30 : Int32)), .val (.int v267)] [(.int (30 : Int32)), (.ref a0)])) _
                                                                refine X0.baloadBytes hx (j := (30 : Int32)) (v := (.int (own_get vs_a0 (30 : Int32)))) (by rw [e0]; exact Ar272.1) (State.isArrayOf_alike hZ.alike Ar272.2.1) Ar272.2.2 hin272 hat272 (g := (mkF m 10 #[.val (.ref a0), .val (.ref a1), .val (.int (30 : Int32)), .val (.int v267)] [(.int (30 : Int32)), (.ref a0)])) rfl rfl (hb hby d2_10) _ ?_
                                                                show Steps p.tables e below (s₁.setTop (mkF m 11 #[.val (.ref a0), .val (.ref a1), .val (.int (30 : Int32)), .val (.int v267)] [(.int (own_get vs_a0 (30 : Int32)))])) _
                                                                refine XS.aloadN X0.here hx rfl (hb hby d2_11) rfl rfl ?_
                                                                show Steps p.tables e below (s₁.setTop (mkF m 12 #[.val (.ref a0), .val (.ref a1), .val (.int (30 : Int32)), .val (.int v267)] [(.ref a1), (.int (own_get vs_a0 (30 : Int32)))])) _
                                                                refine XS.iloadN X0.here hx rfl (hb hby d2_12) rfl ?_
                                                                exact k)
                                                              obtain ⟨cl274, Ar274, q274, S274, M274, H274, G274⟩ := id V_a1
                                                              have hin274 : ¬ ((30 : Int32) < 0 ∨ cl274.slots.size ≤ ((30 : Int32)).toNatClampNeg) := inb_of S274 ⟨by decide, by decide⟩
                                                              have hat274 : cl274.slots[((30 : Int32)).toNatClampNeg]? = some (.int (own_get vs_a1 (30 : Int32))) := H274.at hin274 (own_getD vs_a1 (30 : Int32))
                                                              have pre275 : ∀ t, Steps p.tables e below (s₁.setTop (mkF m 19 #[.val (.ref a0), .val (.ref a1), .val (.int (30 : Int32)), .val (.int v267)] [(.int (((own_get vs_a0 (30 : Int32)) ^^^ (own_get vs_a1 (30 : Int32))) &&& (255 : Int32)))])) t → Steps p.tables e below (s₁.setTop (entryFrame m #[(.ref a0), (.ref a1)] 4)) t := fun t k => pre273 t (by
                                                                show Steps p.tables e below (s₁.setTop (mkF m 13 #[.val (.ref a0), .val (.ref a1), .val (.int (30 : Int32)), .val (.int v267)] [(.int (30 : Int32)), (.ref a1), (.int (own_get vs_a0 (30 : Int32)))])) _
                                                                refine X0.baloadBytes hx (j := (30 : Int32)) (v := (.int (own_get vs_a1 (30 : Int32)))) (by rw [e0]; exact Ar274.1) (State.isArrayOf_alike hZ.alike Ar274.2.1) Ar274.2.2 hin274 hat274 (g := (mkF m 13 #[.val (.ref a0), .val (.ref a1), .val (.int (30 : Int32)), .val (.int v267)] [(.int (30 : Int32)), (.ref a1), (.int (own_get vs_a0 (30 : Int32)))])) rfl rfl (hb hby d2_13) _ ?_
                                                                show Steps p.tables e below (s₁.setTop (mkF m 14 #[.val (.ref a0), .val (.ref a1), .val (.int (30 : Int32)), .val (.int v267)] [(.int (own_get vs_a1 (30 : Int32))), (.int (own_get vs_a0 (30 : Int32)))])) _
                                                                refine XS.ixor X0.here hx rfl (hb hby d2_14) rfl ?_
                                                                show Steps p.tables e below (s₁.setTop (mkF m 15 #[.val (.ref a0), .val (.ref a1), .val (.int (30 : Int32)), .val (.int v267)] [(.int ((own_get vs_a0 (30 : Int32)) ^^^ (own_get vs_a1 (30 : Int32))))])) _
                                                                refine XS.sipush X0.here hx rfl (hb hby d2_15) ?_
                                                                show Steps p.tables e below (s₁.setTop (mkF m 18 #[.val (.ref a0), .val (.ref a1), .val (.int (30 : Int32)), .val (.int v267)] [(.int (255 : Int32)), (.int ((own_get vs_a0 (30 : Int32)) ^^^ (own_get vs_a1 (30 : Int32))))])) _
                                                                refine XS.iand X0.here hx rfl (hb hby d2_18) rfl ?_
                                                                exact k)
                                                              obtain ⟨v276, hv276⟩ : ∃ z : Int32, z = (((own_get vs_a0 (30 : Int32)) ^^^ (own_get vs_a1 (30 : Int32))) &&& (255 : Int32)) := ⟨_, rfl⟩
                                                              have pre277 : ∀ t, Steps p.tables e below (s₁.setTop (mkF m 19 #[.val (.ref a0), .val (.ref a1), .val (.int (30 : Int32)), .val (.int v267)] [(.int v276)])) t → Steps p.tables e below (s₁.setTop (entryFrame m #[(.ref a0), (.ref a1)] 4)) t := fun t k => pre275 t (by rw [hv276] at k; exact k)
                                                              have pre278 : ∀ t, Steps p.tables e below (s₁.setTop (mkF m 21 #[.val (.ref a0), .val (.ref a1), .val (.int (30 : Int32)), .val (.int v276)] [(.int v276)])) t → Steps p.tables e below (s₁.setTop (entryFrame m #[(.ref a0), (.ref a1)] 4)) t := fun t k => pre277 t (by
                                                                show Steps p.tables e below (s₁.setTop (mkF m 19 #[.val (.ref a0), .val (.ref a1), .val (.int (30 : Int32)), .val (.int v267)] [(.int v276)])) _
                                                                refine XS.istoreN X0.here hx rfl (hb hby d2_19) rfl (l' := #[.val (.ref a0), .val (.ref a1), .val (.int (30 : Int32)), .val (.int v276)]) rfl ?_
                                                                show Steps p.tables e below (s₁.setTop (mkF m 20 #[.val (.ref a0), .val (.ref a1), .val (.int (30 : Int32)), .val (.int v276)] [])) _
                                                                refine XS.iloadN X0.here hx rfl (hb hby d2_20) rfl ?_
                                                                exact k)
                                                              by_cases hc279 : v276 = (0 : Int32)
                                                              · have pre280 : ∀ t, Steps p.tables e below (s₁.setTop (mkF m 10 #[.val (.ref a0), .val (.ref a1), .val (.int (31 : Int32)), .val (.int v276)] [(.int (31 : Int32)), (.ref a0)])) t → Steps p.tables e below (s₁.setTop (entryFrame m #[(.ref a0), (.ref a1)] 4)) t := fun t k => pre278 t (by
                                                                  show Steps p.tables e below (s₁.setTop (mkF m 21 #[.val (.ref a0), .val (.ref a1), .val (.int (30 : Int32)), .val (.int v276)] [(.int v276)])) _
                                                                  refine XS.ifYes X0.here hx rfl (pc0 := 21) (pc' := 40) rfl (hb hby d2_21) rfl ((if0 _ _).trans (teq hc279).1) (by decide) (by decide) ?_
                                                                  show Steps p.tables e below (s₁.setTop (mkF m 40 #[.val (.ref a0), .val (.ref a1), .val (.int (30 : Int32)), .val (.int v276)] [])) _
                                                                  refine XS.iinc X0.here hx rfl (hb hby d2_40) rfl (l' := #[.val (.ref a0), .val (.ref a1), .val (.int (31 : Int32)), .val (.int v276)]) rfl ?_
                                                                  show Steps p.tables e below (s₁.setTop (mkF m 43 #[.val (.ref a0), .val (.ref a1), .val (.int (31 : Int32)), .val (.int v276)] [])) _
                                                                  refine XS.goto X0.here hx rfl (pc0 := 43) (pc' := 2) rfl (hb hby d2_43) (by decide) (by decide) ?_
                                                                  show Steps p.tables e below (s₁.setTop (mkF m 2 #[.val (.ref a0), .val (.ref a1), .val (.int (31 : Int32)), .val (.int v276)] [])) _
                                                                  refine XS.iloadN X0.here hx rfl (hb hby d2_2) rfl ?_
                                                                  show Steps p.tables e below (s₁.setTop (mkF m 3 #[.val (.ref a0), .val (.ref a1), .val (.int (31 : Int32)), .val (.int v276)] [(.int (31 : Int32))])) _
                                                                  refine XS.bipush X0.here hx rfl (hb hby d2_3) ?_
                                                                  show Steps p.tables e below (s₁.setTop (mkF m 5 #[.val (.ref a0), .val (.ref a1), .val (.int (31 : Int32)), .val (.int v276)] [(.int (32 : Int32)), (.int (31 : Int32))])) _
                                                                  refine XS.icmpNo X0.here hx rfl (hb hby d2_5) rfl (tlt ((by decide) : (31 : Int32) < (32 : Int32))).2.1 ?_
                                                                  show Steps p.tables e below (s₁.setTop (mkF m 8 #[.val (.ref a0), .val (.ref a1), .val (.int (31 : Int32)), .val (.int v276)] [])) _
                                                                  refine XS.aloadN X0.here hx rfl (hb hby d2_8) rfl rfl ?_
                                                                  show Steps p.tables e below (s₁.setTop (mkF m 9 #[.val (.ref a0), .val (.ref a1), .val (.int (31 : Int32)), .val (.int v276)] [(.ref a0)])) _
                                                                  refine XS.iloadN X0.here hx rfl (hb hby d2_9) rfl ?_
                                                                  exact k)
                                                                obtain ⟨cl281, Ar281, q281, S281, M281, H281, G281⟩ := id V_a0
                                                                have hin281 : ¬ ((31 : Int32) < 0 ∨ cl281.slots.size ≤ ((31 : Int32)).toNatClampNeg) := inb_of S281 ⟨by decide, by decide⟩
                                                                have hat281 : cl281.slots[((31 : Int32)).toNatClampNeg]? = some (.int (own_get vs_a0 (31 : Int32))) := H281.at hin281 (own_getD vs_a0 (31 : Int32))
                                                                have pre282 : ∀ t, Steps p.tables e below (s₁.setTop (mkF m 13 #[.val (.ref a0), .val (.ref a1), .val (.int (31 : Int32)), .val (.int v276)] [(.int (31 : Int32)), (.ref a1), (.int (own_get vs_a0 (31 : Int32)))])) t → Steps p.tables e below (s₁.setTop (entryFrame m #[(.ref a0), (.ref a1)] 4)) t := fun t k => pre280 t (by
                                                                  show Steps p.tables e below (s₁.setTop (mkF m 10 #[.val (.ref a0), .val (.ref a1), .val (.int (31 : Int32)), .val (.int v276)] [(.int (31 : Int32)), (.ref a0)])) _
                                                                  refine X0.baloadBytes hx (j := (31 : Int32)) (v := (.int (own_get vs_a0 (31 : Int32)))) (by rw [e0]; exact Ar281.1) (State.isArrayOf_alike hZ.alike Ar281.2.1) Ar281.2.2 hin281 hat281 (g := (mkF m 10 #[.val (.ref a0), .val (.ref a1), .val (.int (31 : Int32)), .val (.int v276)] [(.int (31 : Int32)), (.ref a0)])) rfl rfl (hb hby d2_10) _ ?_
                                                                  show Steps p.tables e below (s₁.setTop (mkF m 11 #[.val (.ref a0), .val (.ref a1), .val (.int (31 : Int32)), .val (.int v276)] [(.int (own_get vs_a0 (31 : Int32)))])) _
                                                                  refine XS.aloadN X0.here hx rfl (hb hby d2_11) rfl rfl ?_
                                                                  show Steps p.tables e below (s₁.setTop (mkF m 12 #[.val (.ref a0), .val (.ref a1), .val (.int (31 : Int32)), .val (.int v276)] [(.ref a1), (.int (own_get vs_a0 (31 : Int32)))])) _
                                                                  refine XS.iloadN X0.here hx rfl (hb hby d2_12) rfl ?_
                                                                  exact k)
                                                                obtain ⟨cl283, Ar283, q283, S283, M283, H283, G283⟩ := id V_a1
                                                                have hin283 : ¬ ((31 : Int32) < 0 ∨ cl283.slots.size ≤ ((31 : Int32)).toNatClampNeg) := inb_of S283 ⟨by decide, by decide⟩
                                                                have hat283 : cl283.slots[((31 : Int32)).toNatClampNeg]? = some (.int (own_get vs_a1 (31 : Int32))) := H283.at hin283 (own_getD vs_a1 (31 : Int32))
                                                                have pre284 : ∀ t, Steps p.tables e below (s₁.setTop (mkF m 19 #[.val (.ref a0), .val (.ref a1), .val (.int (31 : Int32)), .val (.int v276)] [(.int (((own_get vs_a0 (31 : Int32)) ^^^ (own_get vs_a1 (31 : Int32))) &&& (255 : Int32)))])) t → Steps p.tables e below (s₁.setTop (entryFrame m #[(.ref a0), (.ref a1)] 4)) t := fun t k => pre282 t (by
                                                                  show Steps p.tables e below (s₁.setTop (mkF m 13 #[.val (.ref a0), .val (.ref a1), .val (.int (31 : Int32)), .val (.int v276)] [(.int (31 : Int32)), (.ref a1), (.int (own_get vs_a0 (31 : Int32)))])) _
                                                                  refine X0.baloadBytes hx (j := (31 : Int32)) (v := (.int (own_get vs_a1 (31 : Int32)))) (by rw [e0]; exact Ar283.1) (State.isArrayOf_alike hZ.alike Ar283.2.1) Ar283.2.2 hin283 hat283 (g := (mkF m 13 #[.val (.ref a0), .val (.ref a1), .val (.int (31 : Int32)), .val (.int v276)] [(.int (31 : Int32)), (.ref a1), (.int (own_get vs_a0 (31 : Int32)))])) rfl rfl (hb hby d2_13) _ ?_
                                                                  show Steps p.tables e below (s₁.setTop (mkF m 14 #[.val (.ref a0), .val (.ref a1), .val (.int (31 : Int32)), .val (.int v276)] [(.int (own_get vs_a1 (31 : Int32))), (.int (own_get vs_a0 (31 : Int32)))])) _
                                                                  refine XS.ixor X0.here hx rfl (hb hby d2_14) rfl ?_
                                                                  show Steps p.tables e below (s₁.setTop (mkF m 15 #[.val (.ref a0), .val (.ref a1), .val (.int (31 : Int32)), .val (.int v276)] [(.int ((own_get vs_a0 (31 : Int32)) ^^^ (own_get vs_a1 (31 : Int32))))])) _
                                                                  refine XS.sipush X0.here hx rfl (hb hby d2_15) ?_
                                                                  show Steps p.tables e below (s₁.setTop (mkF m 18 #[.val (.ref a0), .val (.ref a1), .val (.int (31 : Int32)), .val (.int v276)] [(.int (255 : Int32)), (.int ((own_get vs_a0 (31 : Int32)) ^^^ (own_get vs_a1 (31 : Int32))))])) _
                                                                  refine XS.iand X0.here hx rfl (hb hby d2_18) rfl ?_
                                                                  exact k)
                                                                obtain ⟨v285, hv285⟩ : ∃ z : Int32, z = (((own_get vs_a0 (31 : Int32)) ^^^ (own_get vs_a1 (31 : Int32))) &&& (255 : Int32)) := ⟨_, rfl⟩
                                                                have pre286 : ∀ t, Steps p.tables e below (s₁.setTop (mkF m 19 #[.val (.ref a0), .val (.ref a1), .val (.int (31 : Int32)), .val (.int v276)] [(.int v285)])) t → Steps p.tables e below (s₁.setTop (entryFrame m #[(.ref a0), (.ref a1)] 4)) t := fun t k => pre284 t (by rw [hv285] at k; exact k)
                                                                have pre287 : ∀ t, Steps p.tables e below (s₁.setTop (mkF m 21 #[.val (.ref a0), .val (.ref a1), .val (.int (31 : Int32)), .val (.int v285)] [(.int v285)])) t → Steps p.tables e below (s₁.setTop (entryFrame m #[(.ref a0), (.ref a1)] 4)) t := fun t k => pre286 t (by
                                                                  show Steps p.tables e below (s₁.setTop (mkF m 19 #[.val (.ref a0), .val (.ref a1), .val (.int (31 : Int32)), .val (.int v276)] [(.int v285)])) _
                                                                  refine XS.istoreN X0.here hx rfl (hb hby d2_19) rfl (l' := #[.val (.ref a0), .val (.ref a1), .val (.int (31 : Int32)), .val (.int v285)]) rfl ?_
                                                                  show Steps p.tables e below (s₁.setTop (mkF m 20 #[.val (.ref a0), .val (.ref a1), .val (.int (31 : Int32)), .val (.int v285)] [])) _
                                                                  refine XS.iloadN X0.here hx rfl (hb hby d2_20) rfl ?_
                                                                  exact k)
                                                                by_cases hc288 : v285 = (0 : Int32)
                                                                · obtain ⟨fs, hr, hrun, hended, hW, hsame⟩ := X0.leave (v := some (.int (-1 : Int32))) (fun h => by rw [Bd.returns] at h; cases h)
                                                                  refine ⟨_, _, pre287 _ ?_, hrun, hended, _, _, rfl, ?_, ⟨_, rfl⟩, hW, hsame.mono (by decide) (by decide)⟩
                                                                  · show Steps p.tables e below (s₁.setTop (mkF m 21 #[.val (.ref a0), .val (.ref a1), .val (.int (31 : Int32)), .val (.int v285)] [(.int v285)])) _
                                                                    refine XS.ifYes X0.here hx rfl (pc0 := 21) (pc' := 40) rfl (hb hby d2_21) rfl ((if0 _ _).trans (teq hc288).1) (by decide) (by decide) ?_
                                                                    show Steps p.tables e below (s₁.setTop (mkF m 40 #[.val (.ref a0), .val (.ref a1), .val (.int (31 : Int32)), .val (.int v285)] [])) _
                                                                    refine XS.iinc X0.here hx rfl (hb hby d2_40) rfl (l' := #[.val (.ref a0), .val (.ref a1), .val (.int (32 : Int32)), .val (.int v285)]) rfl ?_
                                                                    show Steps p.tables e below (s₁.setTop (mkF m 43 #[.val (.ref a0), .val (.ref a1), .val (.int (32 : Int32)), .val (.int v285)] [])) _
                                                                    refine XS.goto X0.here hx rfl (pc0 := 43) (pc' := 2) rfl (hb hby d2_43) (by decide) (by decide) ?_
                                                                    show Steps p.tables e below (s₁.setTop (mkF m 2 #[.val (.ref a0), .val (.ref a1), .val (.int (32 : Int32)), .val (.int v285)] [])) _
                                                                    refine XS.iloadN X0.here hx rfl (hb hby d2_2) rfl ?_
                                                                    show Steps p.tables e below (s₁.setTop (mkF m 3 #[.val (.ref a0), .val (.ref a1), .val (.int (32 : Int32)), .val (.int v285)] [(.int (32 : Int32))])) _
                                                                    refine XS.bipush X0.here hx rfl (hb hby d2_3) ?_
                                                                    show Steps p.tables e below (s₁.setTop (mkF m 5 #[.val (.ref a0), .val (.ref a1), .val (.int (32 : Int32)), .val (.int v285)] [(.int (32 : Int32)), (.int (32 : Int32))])) _
                                                                    refine XS.icmpYes X0.here hx rfl (pc0 := 5) (pc' := 46) rfl (hb hby d2_5) rfl (flt ((by decide) : ¬ ((32 : Int32) < (32 : Int32)))).2.1 (by decide) (by decide) ?_
                                                                    show Steps p.tables e below (s₁.setTop (mkF m 46 #[.val (.ref a0), .val (.ref a1), .val (.int (32 : Int32)), .val (.int v285)] [])) _
                                                                    refine XS.iconst X0.here hx rfl (hb hby d2_46) ?_
                                                                    show Steps p.tables e below (s₁.setTop (mkF m 47 #[.val (.ref a0), .val (.ref a1), .val (.int (32 : Int32)), .val (.int v285)] [(.int (-1 : Int32))])) _
                                                                    exact retI X0 hx Bd.returns (hb hby d2_47) hr
                                                                  · show Q2 Z a0 a1 ka_a0 vs_a0 ka_a1 vs_a1 h0 n0 _ s₁.heap _
                                                                    rw [e0]
                                                                    exact ⟨congrArg (fun z => some (Value.int z)) (by subst hv285 hv276 hv267 hv258 hv249 hv240 hv231 hv222 hv213 hv204 hv195 hv186 hv177 hv168 hv159 hv150 hv141 hv132 hv123 hv114 hv105 hv96 hv87 hv78 hv69 hv60 hv51 hv42 hv33 hv24 hv15 hv6; simp only [f2, if_pos hc9, if_pos hc18, if_pos hc27, if_pos hc36, if_pos hc45, if_pos hc54, if_pos hc63, if_pos hc72, if_pos hc81, if_pos hc90, if_pos hc99, if_pos hc108, if_pos hc117, if_pos hc126, if_pos hc135, if_pos hc144, if_pos hc153, if_pos hc162, if_pos hc171, if_pos hc180, if_pos hc189, if_pos hc198, if_pos hc207, if_pos hc216, if_pos hc225, if_pos hc234, if_pos hc243, if_pos hc252, if_pos hc261, if_pos hc270, if_pos hc279, if_pos hc288]), N0, rfl⟩
                                                                · have pre289 : ∀ t, Steps p.tables e below (s₁.setTop (mkF m 32 #[.val (.ref a0), .val (.ref a1), .val (.int (31 : Int32)), .val (.int v285)] [(.int v285), (.int (8 : Int32))])) t → Steps p.tables e below (s₁.setTop (entryFrame m #[(.ref a0), (.ref a1)] 4)) t := fun t k => pre287 t (by
                                                                    show Steps p.tables e below (s₁.setTop (mkF m 21 #[.val (.ref a0), .val (.ref a1), .val (.int (31 : Int32)), .val (.int v285)] [(.int v285)])) _
                                                                    refine XS.ifNo X0.here hx rfl (hb hby d2_21) rfl ((if0 _ _).trans (feq hc288).1) ?_
                                                                    show Steps p.tables e below (s₁.setTop (mkF m 24 #[.val (.ref a0), .val (.ref a1), .val (.int (31 : Int32)), .val (.int v285)] [])) _
                                                                    refine XS.bipush X0.here hx rfl (hb hby d2_24) ?_
                                                                    show Steps p.tables e below (s₁.setTop (mkF m 26 #[.val (.ref a0), .val (.ref a1), .val (.int (31 : Int32)), .val (.int v285)] [(.int (8 : Int32))])) _
                                                                    refine XS.bipush X0.here hx rfl (hb hby d2_26) ?_
                                                                    show Steps p.tables e below (s₁.setTop (mkF m 28 #[.val (.ref a0), .val (.ref a1), .val (.int (31 : Int32)), .val (.int v285)] [(.int (32 : Int32)), (.int (8 : Int32))])) _
                                                                    refine XS.iloadN X0.here hx rfl (hb hby d2_28) rfl ?_
                                                                    show Steps p.tables e below (s₁.setTop (mkF m 29 #[.val (.ref a0), .val (.ref a1), .val (.int (31 : Int32)), .val (.int v285)] [(.int (31 : Int32)), (.int (32 : Int32)), (.int (8 : Int32))])) _
                                                                    refine XS.isub X0.here hx rfl (hb hby d2_29) rfl ?_
                                                                    show Steps p.tables e below (s₁.setTop (mkF m 30 #[.val (.ref a0), .val (.ref a1), .val (.int (31 : Int32)), .val (.int v285)] [(.int (1 : Int32)), (.int (8 : Int32))])) _
                                                                    refine XS.imul X0.here hx rfl (hb hby d2_30) rfl ?_
                                                                    show Steps p.tables e below (s₁.setTop (mkF m 31 #[.val (.ref a0), .val (.ref a1), .val (.int (31 : Int32)), .val (.int v285)] [(.int (8 : Int32))])) _
                                                                    refine XS.iloadN X0.here hx rfl (hb hby d2_31) rfl ?_
                                                                    exact k)
                                                                  obtain ⟨_, _, ⟨T290, L290, k290, n290⟩, -, X290, ⟨Lc290, hQ290, l290, y290, z290⟩, st290⟩ := Jvm.LawKit.callS X0 hx (y := (⟨"java/lang/Integer", "numberOfLeadingZeros", "(I)I"⟩ : MethodName)) hown (mvT hZ (hw _ (List.mem_of_getElem? (i := 9) rfl))) (mvT hZ (hw _ (List.mem_of_getElem? (i := 10) rfl))) (mvT hZ (hw _ (List.mem_of_getElem? (i := 11) rfl))) (mvT hZ (hw _ (List.mem_of_getElem? (i := 12) rfl))) (by decide) (backOf (W := 1) (rm3 l Z aw hw [] v285 h0 n0 Z0) hZ (hw _ (List.mem_of_getElem? (i := 12) rfl)) (hw _ (List.mem_of_getElem? (i := 11) rfl)) (by decide) (by decide)) (g := (mkF m 32 #[.val (.ref a0), .val (.ref a1), .val (.int (31 : Int32)), .val (.int v285)] [(.int v285), (.int (8 : Int32))])) rfl (by rw [hml]; rfl) (argsL := [(.int v285)]) (rest := [(.int (8 : Int32))]) (lenOf pd_0 rfl) rfl (by show 2 * 0 + _ ≤ _; exact Nat.le_of_eq rfl) (hb hby d2_32) (fun _ _ => ⟨rfl, e0, (by decide : 0 + 0 ≤ _), (by decide : 0 + 0 ≤ _)⟩)
                                                                  dsimp only [Pt.U, Pt.locs, Pt.cells, Pt.slots] at X290 l290 y290 z290 st290 hQ290
                                                                  subst l290 y290 z290
                                                                  obtain ⟨rfl, N290q, e290⟩ := hQ290
                                                                  have N290 := Fr.app N0 N290q
                                                                  obtain ⟨fs, hr, hrun, hended, hW, hsame⟩ := X290.leave (v := some (.int (((8 : Int32) - (f3 v285)) + (23 : Int32)))) (fun h => by rw [Bd.returns] at h; cases h)
                                                                  refine ⟨_, _, pre289 _ ?_, hrun, hended, _, _, rfl, ?_, ⟨_, rfl⟩, hW, hsame.mono (by decide) (by decide)⟩
                                                                  · show Steps p.tables e below (s₁.setTop (mkF m 32 #[.val (.ref a0), .val (.ref a1), .val (.int (31 : Int32)), .val (.int v285)] [(.int v285), (.int (8 : Int32))])) _
                                                                    refine st290 _ ?_
                                                                    show Steps p.tables e below (T290.setTop (mkF m 35 #[.val (.ref a0), .val (.ref a1), .val (.int (31 : Int32)), .val (.int v285)] [(.int (f3 v285)), (.int (8 : Int32))])) _
                                                                    refine XS.isub X290.here hx rfl (hb hby d2_35) rfl ?_
                                                                    show Steps p.tables e below (T290.setTop (mkF m 36 #[.val (.ref a0), .val (.ref a1), .val (.int (31 : Int32)), .val (.int v285)] [(.int ((8 : Int32) - (f3 v285)))])) _
                                                                    refine XS.bipush X290.here hx rfl (hb hby d2_36) ?_
                                                                    show Steps p.tables e below (T290.setTop (mkF m 38 #[.val (.ref a0), .val (.ref a1), .val (.int (31 : Int32)), .val (.int v285)] [(.int (23 : Int32)), (.int ((8 : Int32) - (f3 v285)))])) _
                                                                    refine XS.iadd X290.here hx rfl (hb hby d2_38) rfl ?_
                                                                    show Steps p.tables e below (T290.setTop (mkF m 39 #[.val (.ref a0), .val (.ref a1), .val (.int (31 : Int32)), .val (.int v285)] [(.int (((8 : Int32) - (f3 v285)) + (23 : Int32)))])) _
                                                                    exact retI X290 hx Bd.returns (hb hby d2_39) hr
                                                                  · show Q2 Z a0 a1 ka_a0 vs_a0 ka_a1 vs_a1 h0 n0 _ T290.heap _
                                                                    rw [e290]
                                                                    exact ⟨congrArg (fun z => some (Value.int z)) (by subst hv285 hv276 hv267 hv258 hv249 hv240 hv231 hv222 hv213 hv204 hv195 hv186 hv177 hv168 hv159 hv150 hv141 hv132 hv123 hv114 hv105 hv96 hv87 hv78 hv69 hv60 hv51 hv42 hv33 hv24 hv15 hv6; simp only [f2, if_pos hc9, if_pos hc18, if_pos hc27, if_pos hc36, if_pos hc45, if_pos hc54, if_pos hc63, if_pos hc72, if_pos hc81, if_pos hc90, if_pos hc99, if_pos hc108, if_pos hc117, if_pos hc126, if_pos hc135, if_pos hc144, if_pos hc153, if_pos hc162, if_pos hc171, if_pos hc180, if_pos hc189, if_pos hc198, if_pos hc207, if_pos hc216, if_pos hc225, if_pos hc234, if_pos hc243, if_pos hc252, if_pos hc261, if_pos hc270, if_pos hc279, if_neg hc288]), N290, rfl⟩
                                                              · have pre291 : ∀ t, Steps p.tables e below (s₁.setTop (mkF m 32 #[.val (.ref a0), .val (.ref a1), .val (.int (30 : Int32)), .val (.int v276)] [(.int v276), (.int (16 : Int32))])) t → Steps p.tables e below (s₁.setTop (entryFrame m #[(.ref a0), (.ref a1)] 4)) t := fun t k => pre278 t (by
                                                                  show Steps p.tables e below (s₁.setTop (mkF m 21 #[.val (.ref a0), .val (.ref a1), .val (.int (30 : Int32)), .val (.int v276)] [(.int v276)])) _
                                                                  refine XS.ifNo X0.here hx rfl (hb hby d2_21) rfl ((if0 _ _).trans (feq hc279).1) ?_
                                                                  show Steps p.tables e below (s₁.setTop (mkF m 24 #[.val (.ref a0), .val (.ref a1), .val (.int (30 : Int32)), .val (.int v276)] [])) _
                                                                  refine XS.bipush X0.here hx rfl (hb hby d2_24) ?_
                                                                  show Steps p.tables e below (s₁.setTop (mkF m 26 #[.val (.ref a0), .val (.ref a1), .val (.int (30 : Int32)), .val (.int v276)] [(.int (8 : Int32))])) _
                                                                  refine XS.bipush X0.here hx rfl (hb hby d2_26) ?_
                                                                  show Steps p.tables e below (s₁.setTop (mkF m 28 #[.val (.ref a0), .val (.ref a1), .val (.int (30 : Int32)), .val (.int v276)] [(.int (32 : Int32)), (.int (8 : Int32))])) _
                                                                  refine XS.iloadN X0.here hx rfl (hb hby d2_28) rfl ?_
                                                                  show Steps p.tables e below (s₁.setTop (mkF m 29 #[.val (.ref a0), .val (.ref a1), .val (.int (30 : Int32)), .val (.int v276)] [(.int (30 : Int32)), (.int (32 : Int32)), (.int (8 : Int32))])) _
                                                                  refine XS.isub X0.here hx rfl (hb hby d2_29) rfl ?_
                                                                  show Steps p.tables e below (s₁.setTop (mkF m 30 #[.val (.ref a0), .val (.ref a1), .val (.int (30 : Int32)), .val (.int v276)] [(.int (2 : Int32)), (.int (8 : Int32))])) _
                                                                  refine XS.imul X0.here hx rfl (hb hby d2_30) rfl ?_
                                                                  show Steps p.tables e below (s₁.setTop (mkF m 31 #[.val (.ref a0), .val (.ref a1), .val (.int (30 : Int32)), .val (.int v276)] [(.int (16 : Int32))])) _
                                                                  refine XS.iloadN X0.here hx rfl (hb hby d2_31) rfl ?_
                                                                  exact k)
                                                                obtain ⟨_, _, ⟨T292, L292, k292, n292⟩, -, X292, ⟨Lc292, hQ292, l292, y292, z292⟩, st292⟩ := Jvm.LawKit.callS X0 hx (y := (⟨"java/lang/Integer", "numberOfLeadingZeros", "(I)I"⟩ : MethodName)) hown (mvT hZ (hw _ (List.mem_of_getElem? (i := 9) rfl))) (mvT hZ (hw _ (List.mem_of_getElem? (i := 10) rfl))) (mvT hZ (hw _ (List.mem_of_getElem? (i := 11) rfl))) (mvT hZ (hw _ (List.mem_of_getElem? (i := 12) rfl))) (by decide) (backOf (W := 1) (rm3 l Z aw hw [] v276 h0 n0 Z0) hZ (hw _ (List.mem_of_getElem? (i := 12) rfl)) (hw _ (List.mem_of_getElem? (i := 11) rfl)) (by decide) (by decide)) (g := (mkF m 32 #[.val (.ref a0), .val (.ref a1), .val (.int (30 : Int32)), .val (.int v276)] [(.int v276), (.int (16 : Int32))])) rfl (by rw [hml]; rfl) (argsL := [(.int v276)]) (rest := [(.int (16 : Int32))]) (lenOf pd_0 rfl) rfl (by show 2 * 0 + _ ≤ _; exact Nat.le_of_eq rfl) (hb hby d2_32) (fun _ _ => ⟨rfl, e0, (by decide : 0 + 0 ≤ _), (by decide : 0 + 0 ≤ _)⟩)
                                                                dsimp only [Pt.U, Pt.locs, Pt.cells, Pt.slots] at X292 l292 y292 z292 st292 hQ292
                                                                subst l292 y292 z292
                                                                obtain ⟨rfl, N292q, e292⟩ := hQ292
                                                                have N292 := Fr.app N0 N292q
                                                                obtain ⟨fs, hr, hrun, hended, hW, hsame⟩ := X292.leave (v := some (.int (((16 : Int32) - (f3 v276)) + (23 : Int32)))) (fun h => by rw [Bd.returns] at h; cases h)
                                                                refine ⟨_, _, pre291 _ ?_, hrun, hended, _, _, rfl, ?_, ⟨_, rfl⟩, hW, hsame.mono (by decide) (by decide)⟩
                                                                · show Steps p.tables e below (s₁.setTop (mkF m 32 #[.val (.ref a0), .val (.ref a1), .val (.int (30 : Int32)), .val (.int v276)] [(.int v276), (.int (16 : Int32))])) _
                                                                  refine st292 _ ?_
                                                                  show Steps p.tables e below (T292.setTop (mkF m 35 #[.val (.ref a0), .val (.ref a1), .val (.int (30 : Int32)), .val (.int v276)] [(.int (f3 v276)), (.int (16 : Int32))])) _
                                                                  refine XS.isub X292.here hx rfl (hb hby d2_35) rfl ?_
                                                                  show Steps p.tables e below (T292.setTop (mkF m 36 #[.val (.ref a0), .val (.ref a1), .val (.int (30 : Int32)), .val (.int v276)] [(.int ((16 : Int32) - (f3 v276)))])) _
                                                                  refine XS.bipush X292.here hx rfl (hb hby d2_36) ?_
                                                                  show Steps p.tables e below (T292.setTop (mkF m 38 #[.val (.ref a0), .val (.ref a1), .val (.int (30 : Int32)), .val (.int v276)] [(.int (23 : Int32)), (.int ((16 : Int32) - (f3 v276)))])) _
                                                                  refine XS.iadd X292.here hx rfl (hb hby d2_38) rfl ?_
                                                                  show Steps p.tables e below (T292.setTop (mkF m 39 #[.val (.ref a0), .val (.ref a1), .val (.int (30 : Int32)), .val (.int v276)] [(.int (((16 : Int32) - (f3 v276)) + (23 : Int32)))])) _
                                                                  exact retI X292 hx Bd.returns (hb hby d2_39) hr
                                                                · show Q2 Z a0 a1 ka_a0 vs_a0 ka_a1 vs_a1 h0 n0 _ T292.heap _
                                                                  rw [e292]
                                                                  exact ⟨congrArg (fun z => some (Value.int z)) (by subst hv276 hv267 hv258 hv249 hv240 hv231 hv222 hv213 hv204 hv195 hv186 hv177 hv168 hv159 hv150 hv141 hv132 hv123 hv114 hv105 hv96 hv87 hv78 hv69 hv60 hv51 hv42 hv33 hv24 hv15 hv6; simp only [f2, if_pos hc9, if_pos hc18, if_pos hc27, if_pos hc36, if_pos hc45, if_pos hc54, if_pos hc63, if_pos hc72, if_pos hc81, if_pos hc90, if_pos hc99, if_pos hc108, if_pos hc117, if_pos hc126, if_pos hc135, if_pos hc144, if_pos hc153, if_pos hc162, if_pos hc171, if_pos hc180, if_pos hc189, if_pos hc198, if_pos hc207, if_pos hc216, if_pos hc225, if_pos hc234, if_pos hc243, if_pos hc252, if_pos hc261, if_pos hc270, if_neg hc279]), N292, rfl⟩
                                                            · have pre293 : ∀ t, Steps p.tables e below (s₁.setTop (mkF m 32 #[.val (.ref a0), .val (.ref a1), .val (.int (29 : Int32)), .val (.int v267)] [(.int v267), (.int (24 : Int32))])) t → Steps p.tables e below (s₁.setTop (entryFrame m #[(.ref a0), (.ref a1)] 4)) t := fun t k => pre269 t (by
                                                                show Steps p.tables e below (s₁.setTop (mkF m 21 #[.val (.ref a0), .val (.ref a1), .val (.int (29 : Int32)), .val (.int v267)] [(.int v267)])) _
                                                                refine XS.ifNo X0.here hx rfl (hb hby d2_21) rfl ((if0 _ _).trans (feq hc270).1) ?_
                                                                show Steps p.tables e below (s₁.setTop (mkF m 24 #[.val (.ref a0), .val (.ref a1), .val (.int (29 : Int32)), .val (.int v267)] [])) _
                                                                refine XS.bipush X0.here hx rfl (hb hby d2_24) ?_
                                                                show Steps p.tables e below (s₁.setTop (mkF m 26 #[.val (.ref a0), .val (.ref a1), .val (.int (29 : Int32)), .val (.int v267)] [(.int (8 : Int32))])) _
                                                                refine XS.bipush X0.here hx rfl (hb hby d2_26) ?_
                                                                show Steps p.tables e below (s₁.setTop (mkF m 28 #[.val (.ref a0), .val (.ref a1), .val (.int (29 : Int32)), .val (.int v267)] [(.int (32 : Int32)), (.int (8 : Int32))])) _
                                                                refine XS.iloadN X0.here hx rfl (hb hby d2_28) rfl ?_
                                                                show Steps p.tables e below (s₁.setTop (mkF m 29 #[.val (.ref a0), .val (.ref a1), .val (.int (29 : Int32)), .val (.int v267)] [(.int (29 : Int32)), (.int (32 : Int32)), (.int (8 : Int32))])) _
                                                                refine XS.isub X0.here hx rfl (hb hby d2_29) rfl ?_
                                                                show Steps p.tables e below (s₁.setTop (mkF m 30 #[.val (.ref a0), .val (.ref a1), .val (.int (29 : Int32)), .val (.int v267)] [(.int (3 : Int32)), (.int (8 : Int32))])) _
                                                                refine XS.imul X0.here hx rfl (hb hby d2_30) rfl ?_
                                                                show Steps p.tables e below (s₁.setTop (mkF m 31 #[.val (.ref a0), .val (.ref a1), .val (.int (29 : Int32)), .val (.int v267)] [(.int (24 : Int32))])) _
                                                                refine XS.iloadN X0.here hx rfl (hb hby d2_31) rfl ?_
                                                                exact k)
                                                              obtain ⟨_, _, ⟨T294, L294, k294, n294⟩, -, X294, ⟨Lc294, hQ294, l294, y294, z294⟩, st294⟩ := Jvm.LawKit.callS X0 hx (y := (⟨"java/lang/Integer", "numberOfLeadingZeros", "(I)I"⟩ : MethodName)) hown (mvT hZ (hw _ (List.mem_of_getElem? (i := 9) rfl))) (mvT hZ (hw _ (List.mem_of_getElem? (i := 10) rfl))) (mvT hZ (hw _ (List.mem_of_getElem? (i := 11) rfl))) (mvT hZ (hw _ (List.mem_of_getElem? (i := 12) rfl))) (by decide) (backOf (W := 1) (rm3 l Z aw hw [] v267 h0 n0 Z0) hZ (hw _ (List.mem_of_getElem? (i := 12) rfl)) (hw _ (List.mem_of_getElem? (i := 11) rfl)) (by decide) (by decide)) (g := (mkF m 32 #[.val (.ref a0), .val (.ref a1), .val (.int (29 : Int32)), .val (.int v267)] [(.int v267), (.int (24 : Int32))])) rfl (by rw [hml]; rfl) (argsL := [(.int v267)]) (rest := [(.int (24 : Int32))]) (lenOf pd_0 rfl) rfl (by show 2 * 0 + _ ≤ _; exact Nat.le_of_eq rfl) (hb hby d2_32) (fun _ _ => ⟨rfl, e0, (by decide : 0 + 0 ≤ _), (by decide : 0 + 0 ≤ _)⟩)
                                                              dsimp only [Pt.U, Pt.locs, Pt.cells, Pt.slots] at X294 l294 y294 z294 st294 hQ294
                                                              subst l294 y294 z294
                                                              obtain ⟨rfl, N294q, e294⟩ := hQ294
                                                              have N294 := Fr.app N0 N294q
                                                              obtain ⟨fs, hr, hrun, hended, hW, hsame⟩ := X294.leave (v := some (.int (((24 : Int32) - (f3 v267)) + (23 : Int32)))) (fun h => by rw [Bd.returns] at h; cases h)
                                                              refine ⟨_, _, pre293 _ ?_, hrun, hended, _, _, rfl, ?_, ⟨_, rfl⟩, hW, hsame.mono (by decide) (by decide)⟩
                                                              · show Steps p.tables e below (s₁.setTop (mkF m 32 #[.val (.ref a0), .val (.ref a1), .val (.int (29 : Int32)), .val (.int v267)] [(.int v267), (.int (24 : Int32))])) _
                                                                refine st294 _ ?_
                                                                show Steps p.tables e below (T294.setTop (mkF m 35 #[.val (.ref a0), .val (.ref a1), .val (.int (29 : Int32)), .val (.int v267)] [(.int (f3 v267)), (.int (24 : Int32))])) _
                                                                refine XS.isub X294.here hx rfl (hb hby d2_35) rfl ?_
                                                                show Steps p.tables e below (T294.setTop (mkF m 36 #[.val (.ref a0), .val (.ref a1), .val (.int (29 : Int32)), .val (.int v267)] [(.int ((24 : Int32) - (f3 v267)))])) _
                                                                refine XS.bipush X294.here hx rfl (hb hby d2_36) ?_
                                                                show Steps p.tables e below (T294.setTop (mkF m 38 #[.val (.ref a0), .val (.ref a1), .val (.int (29 : Int32)), .val (.int v267)] [(.int (23 : Int32)), (.int ((24 : Int32) - (f3 v267)))])) _
                                                                refine XS.iadd X294.here hx rfl (hb hby d2_38) rfl ?_
                                                                show Steps p.tables e below (T294.setTop (mkF m 39 #[.val (.ref a0), .val (.ref a1), .val (.int (29 : Int32)), .val (.int v267)] [(.int (((24 : Int32) - (f3 v267)) + (23 : Int32)))])) _
                                                                exact retI X294 hx Bd.returns (hb hby d2_39) hr
                                                              · show Q2 Z a0 a1 ka_a0 vs_a0 ka_a1 vs_a1 h0 n0 _ T294.heap _
                                                                rw [e294]
                                                                exact ⟨congrArg (fun z => some (Value.int z)) (by subst hv267 hv258 hv249 hv240 hv231 hv222 hv213 hv204 hv195 hv186 hv177 hv168 hv159 hv150 hv141 hv132 hv123 hv114 hv105 hv96 hv87 hv78 hv69 hv60 hv51 hv42 hv33 hv24 hv15 hv6; simp only [f2, if_pos hc9, if_pos hc18, if_pos hc27, if_pos hc36, if_pos hc45, if_pos hc54, if_pos hc63, if_pos hc72, if_pos hc81, if_pos hc90, if_pos hc99, if_pos hc108, if_pos hc117, if_pos hc126, if_pos hc135, if_pos hc144, if_pos hc153, if_pos hc162, if_pos hc171, if_pos hc180, if_pos hc189, if_pos hc198, if_pos hc207, if_pos hc216, if_pos hc225, if_pos hc234, if_pos hc243, if_pos hc252, if_pos hc261, if_neg hc270]), N294, rfl⟩
                                                          · have pre295 : ∀ t, Steps p.tables e below (s₁.setTop (mkF m 32 #[.val (.ref a0), .val (.ref a1), .val (.int (28 : Int32)), .val (.int v258)] [(.int v258), (.int (32 : Int32))])) t → Steps p.tables e below (s₁.setTop (entryFrame m #[(.ref a0), (.ref a1)] 4)) t := fun t k => pre260 t (by
                                                              show Steps p.tables e below (s₁.setTop (mkF m 21 #[.val (.ref a0), .val (.ref a1), .val (.int (28 : Int32)), .val (.int v258)] [(.int v258)])) _
                                                              refine XS.ifNo X0.here hx rfl (hb hby d2_21) rfl ((if0 _ _).trans (feq hc261).1) ?_
                                                              show Steps p.tables e below (s₁.setTop (mkF m 24 #[.val (.ref a0), .val (.ref a1), .val (.int (28 : Int32)), .val (.int v258)] [])) _
                                                              refine XS.bipush X0.here hx rfl (hb hby d2_24) ?_
                                                              show Steps p.tables e below (s₁.setTop (mkF m 26 #[.val (.ref a0), .val (.ref a1), .val (.int (28 : Int32)), .val (.int v258)] [(.int (8 : Int32))])) _
                                                              refine XS.bipush X0.here hx rfl (hb hby d2_26) ?_
                                                              show Steps p.tables e below (s₁.setTop (mkF m 28 #[.val (.ref a0), .val (.ref a1), .val (.int (28 : Int32)), .val (.int v258)] [(.int (32 : Int32)), (.int (8 : Int32))])) _
                                                              refine XS.iloadN X0.here hx rfl (hb hby d2_28) rfl ?_
                                                              show Steps p.tables e below (s₁.setTop (mkF m 29 #[.val (.ref a0), .val (.ref a1), .val (.int (28 : Int32)), .val (.int v258)] [(.int (28 : Int32)), (.int (32 : Int32)), (.int (8 : Int32))])) _
                                                              refine XS.isub X0.here hx rfl (hb hby d2_29) rfl ?_
                                                              show Steps p.tables e below (s₁.setTop (mkF m 30 #[.val (.ref a0), .val (.ref a1), .val (.int (28 : Int32)), .val (.int v258)] [(.int (4 : Int32)), (.int (8 : Int32))])) _
                                                              refine XS.imul X0.here hx rfl (hb hby d2_30) rfl ?_
                                                              show Steps p.tables e below (s₁.setTop (mkF m 31 #[.val (.ref a0), .val (.ref a1), .val (.int (28 : Int32)), .val (.int v258)] [(.int (32 : Int32))])) _
                                                              refine XS.iloadN X0.here hx rfl (hb hby d2_31) rfl ?_
                                                              exact k)
                                                            obtain ⟨_, _, ⟨T296, L296, k296, n296⟩, -, X296, ⟨Lc296, hQ296, l296, y296, z296⟩, st296⟩ := Jvm.LawKit.callS X0 hx (y := (⟨"java/lang/Integer", "numberOfLeadingZeros", "(I)I"⟩ : MethodName)) hown (mvT hZ (hw _ (List.mem_of_getElem? (i := 9) rfl))) (mvT hZ (hw _ (List.mem_of_getElem? (i := 10) rfl))) (mvT hZ (hw _ (List.mem_of_getElem? (i := 11) rfl))) (mvT hZ (hw _ (List.mem_of_getElem? (i := 12) rfl))) (by decide) (backOf (W := 1) (rm3 l Z aw hw [] v258 h0 n0 Z0) hZ (hw _ (List.mem_of_getElem? (i := 12) rfl)) (hw _ (List.mem_of_getElem? (i := 11) rfl)) (by decide) (by decide)) (g := (mkF m 32 #[.val (.ref a0), .val (.ref a1), .val (.int (28 : Int32)), .val (.int v258)] [(.int v258), (.int (32 : Int32))])) rfl (by rw [hml]; rfl) (argsL := [(.int v258)]) (rest := [(.int (32 : Int32))]) (lenOf pd_0 rfl) rfl (by show 2 * 0 + _ ≤ _; exact Nat.le_of_eq rfl) (hb hby d2_32) (fun _ _ => ⟨rfl, e0, (by decide : 0 + 0 ≤ _), (by decide : 0 + 0 ≤ _)⟩)
                                                            dsimp only [Pt.U, Pt.locs, Pt.cells, Pt.slots] at X296 l296 y296 z296 st296 hQ296
                                                            subst l296 y296 z296
                                                            obtain ⟨rfl, N296q, e296⟩ := hQ296
                                                            have N296 := Fr.app N0 N296q
                                                            obtain ⟨fs, hr, hrun, hended, hW, hsame⟩ := X296.leave (v := some (.int (((32 : Int32) - (f3 v258)) + (23 : Int32)))) (fun h => by rw [Bd.returns] at h; cases h)
                                                            refine ⟨_, _, pre295 _ ?_, hrun, hended, _, _, rfl, ?_, ⟨_, rfl⟩, hW, hsame.mono (by decide) (by decide)⟩
                                                            · show Steps p.tables e below (s₁.setTop (mkF m 32 #[.val (.ref a0), .val (.ref a1), .val (.int (28 : Int32)), .val (.int v258)] [(.int v258), (.int (32 : Int32))])) _
                                                              refine st296 _ ?_
                                                              show Steps p.tables e below (T296.setTop (mkF m 35 #[.val (.ref a0), .val (.ref a1), .val (.int (28 : Int32)), .val (.int v258)] [(.int (f3 v258)), (.int (32 : Int32))])) _
                                                              refine XS.isub X296.here hx rfl (hb hby d2_35) rfl ?_
                                                              show Steps p.tables e below (T296.setTop (mkF m 36 #[.val (.ref a0), .val (.ref a1), .val (.int (28 : Int32)), .val (.int v258)] [(.int ((32 : Int32) - (f3 v258)))])) _
                                                              refine XS.bipush X296.here hx rfl (hb hby d2_36) ?_
                                                              show Steps p.tables e below (T296.setTop (mkF m 38 #[.val (.ref a0), .val (.ref a1), .val (.int (28 : Int32)), .val (.int v258)] [(.int (23 : Int32)), (.int ((32 : Int32) - (f3 v258)))])) _
                                                              refine XS.iadd X296.here hx rfl (hb hby d2_38) rfl ?_
                                                              show Steps p.tables e below (T296.setTop (mkF m 39 #[.val (.ref a0), .val (.ref a1), .val (.int (28 : Int32)), .val (.int v258)] [(.int (((32 : Int32) - (f3 v258)) + (23 : Int32)))])) _
                                                              exact retI X296 hx Bd.returns (hb hby d2_39) hr
                                                            · show Q2 Z a0 a1 ka_a0 vs_a0 ka_a1 vs_a1 h0 n0 _ T296.heap _
                                                              rw [e296]
                                                              exact ⟨congrArg (fun z => some (Value.int z)) (by subst hv258 hv249 hv240 hv231 hv222 hv213 hv204 hv195 hv186 hv177 hv168 hv159 hv150 hv141 hv132 hv123 hv114 hv105 hv96 hv87 hv78 hv69 hv60 hv51 hv42 hv33 hv24 hv15 hv6; simp only [f2, if_pos hc9, if_pos hc18, if_pos hc27, if_pos hc36, if_pos hc45, if_pos hc54, if_pos hc63, if_pos hc72, if_pos hc81, if_pos hc90, if_pos hc99, if_pos hc108, if_pos hc117, if_pos hc126, if_pos hc135, if_pos hc144, if_pos hc153, if_pos hc162, if_pos hc171, if_pos hc180, if_pos hc189, if_pos hc198, if_pos hc207, if_pos hc216, if_pos hc225, if_pos hc234, if_pos hc243, if_pos hc252, if_neg hc261]), N296, rfl⟩
                                                        · have pre297 : ∀ t, Steps p.tables e below (s₁.setTop (mkF m 32 #[.val (.ref a0), .val (.ref a1), .val (.int (27 : Int32)), .val (.int v249)] [(.int v249), (.int (40 : Int32))])) t → Steps p.tables e below (s₁.setTop (entryFrame m #[(.ref a0), (.ref a1)] 4)) t := fun t k => pre251 t (by
                                                            show Steps p.tables e below (s₁.setTop (mkF m 21 #[.val (.ref a0), .val (.ref a1), .val (.int (27 : Int32)), .val (.int v249)] [(.int v249)])) _
                                                            refine XS.ifNo X0.here hx rfl (hb hby d2_21) rfl ((if0 _ _).trans (feq hc252).1) ?_
                                                            show Steps p.tables e below (s₁.setTop (mkF m 24 #[.val (.ref a0), .val (.ref a1), .val (.int (27 : Int32)), .val (.int v249)] [])) _
                                                            refine XS.bipush X0.here hx rfl (hb hby d2_24) ?_
                                                            show Steps p.tables e below (s₁.setTop (mkF m 26 #[.val (.ref a0), .val (.ref a1), .val (.int (27 : Int32)), .val (.int v249)] [(.int (8 : Int32))])) _
                                                            refine XS.bipush X0.here hx rfl (hb hby d2_26) ?_
                                                            show Steps p.tables e below (s₁.setTop (mkF m 28 #[.val (.ref a0), .val (.ref a1), .val (.int (27 : Int32)), .val (.int v249)] [(.int (32 : Int32)), (.int (8 : Int32))])) _
                                                            refine XS.iloadN X0.here hx rfl (hb hby d2_28) rfl ?_
                                                            show Steps p.tables e below (s₁.setTop (mkF m 29 #[.val (.ref a0), .val (.ref a1), .val (.int (27 : Int32)), .val (.int v249)] [(.int (27 : Int32)), (.int (32 : Int32)), (.int (8 : Int32))])) _
                                                            refine XS.isub X0.here hx rfl (hb hby d2_29) rfl ?_
                                                            show Steps p.tables e below (s₁.setTop (mkF m 30 #[.val (.ref a0), .val (.ref a1), .val (.int (27 : Int32)), .val (.int v249)] [(.int (5 : Int32)), (.int (8 : Int32))])) _
                                                            refine XS.imul X0.here hx rfl (hb hby d2_30) rfl ?_
                                                            show Steps p.tables e below (s₁.setTop (mkF m 31 #[.val (.ref a0), .val (.ref a1), .val (.int (27 : Int32)), .val (.int v249)] [(.int (40 : Int32))])) _
                                                            refine XS.iloadN X0.here hx rfl (hb hby d2_31) rfl ?_
                                                            exact k)
                                                          obtain ⟨_, _, ⟨T298, L298, k298, n298⟩, -, X298, ⟨Lc298, hQ298, l298, y298, z298⟩, st298⟩ := Jvm.LawKit.callS X0 hx (y := (⟨"java/lang/Integer", "numberOfLeadingZeros", "(I)I"⟩ : MethodName)) hown (mvT hZ (hw _ (List.mem_of_getElem? (i := 9) rfl))) (mvT hZ (hw _ (List.mem_of_getElem? (i := 10) rfl))) (mvT hZ (hw _ (List.mem_of_getElem? (i := 11) rfl))) (mvT hZ (hw _ (List.mem_of_getElem? (i := 12) rfl))) (by decide) (backOf (W := 1) (rm3 l Z aw hw [] v249 h0 n0 Z0) hZ (hw _ (List.mem_of_getElem? (i := 12) rfl)) (hw _ (List.mem_of_getElem? (i := 11) rfl)) (by decide) (by decide)) (g := (mkF m 32 #[.val (.ref a0), .val (.ref a1), .val (.int (27 : Int32)), .val (.int v249)] [(.int v249), (.int (40 : Int32))])) rfl (by rw [hml]; rfl) (argsL := [(.int v249)]) (rest := [(.int (40 : Int32))]) (lenOf pd_0 rfl) rfl (by show 2 * 0 + _ ≤ _; exact Nat.le_of_eq rfl) (hb hby d2_32) (fun _ _ => ⟨rfl, e0, (by decide : 0 + 0 ≤ _), (by decide : 0 + 0 ≤ _)⟩)
                                                          dsimp only [Pt.U, Pt.locs, Pt.cells, Pt.slots] at X298 l298 y298 z298 st298 hQ298
                                                          subst l298 y298 z298
                                                          obtain ⟨rfl, N298q, e298⟩ := hQ298
                                                          have N298 := Fr.app N0 N298q
                                                          obtain ⟨fs, hr, hrun, hended, hW, hsame⟩ := X298.leave (v := some (.int (((40 : Int32) - (f3 v249)) + (23 : Int32)))) (fun h => by rw [Bd.returns] at h; cases h)
                                                          refine ⟨_, _, pre297 _ ?_, hrun, hended, _, _, rfl, ?_, ⟨_, rfl⟩, hW, hsame.mono (by decide) (by decide)⟩
                                                          · show Steps p.tables e below (s₁.setTop (mkF m 32 #[.val (.ref a0), .val (.ref a1), .val (.int (27 : Int32)), .val (.int v249)] [(.int v249), (.int (40 : Int32))])) _
                                                            refine st298 _ ?_
                                                            show Steps p.tables e below (T298.setTop (mkF m 35 #[.val (.ref a0), .val (.ref a1), .val (.int (27 : Int32)), .val (.int v249)] [(.int (f3 v249)), (.int (40 : Int32))])) _
                                                            refine XS.isub X298.here hx rfl (hb hby d2_35) rfl ?_
                                                            show Steps p.tables e below (T298.setTop (mkF m 36 #[.val (.ref a0), .val (.ref a1), .val (.int (27 : Int32)), .val (.int v249)] [(.int ((40 : Int32) - (f3 v249)))])) _
                                                            refine XS.bipush X298.here hx rfl (hb hby d2_36) ?_
                                                            show Steps p.tables e below (T298.setTop (mkF m 38 #[.val (.ref a0), .val (.ref a1), .val (.int (27 : Int32)), .val (.int v249)] [(.int (23 : Int32)), (.int ((40 : Int32) - (f3 v249)))])) _
                                                            refine XS.iadd X298.here hx rfl (hb hby d2_38) rfl ?_
                                                            show Steps p.tables e below (T298.setTop (mkF m 39 #[.val (.ref a0), .val (.ref a1), .val (.int (27 : Int32)), .val (.int v249)] [(.int (((40 : Int32) - (f3 v249)) + (23 : Int32)))])) _
                                                            exact retI X298 hx Bd.returns (hb hby d2_39) hr
                                                          · show Q2 Z a0 a1 ka_a0 vs_a0 ka_a1 vs_a1 h0 n0 _ T298.heap _
                                                            rw [e298]
                                                            exact ⟨congrArg (fun z => some (Value.int z)) (by subst hv249 hv240 hv231 hv222 hv213 hv204 hv195 hv186 hv177 hv168 hv159 hv150 hv141 hv132 hv123 hv114 hv105 hv96 hv87 hv78 hv69 hv60 hv51 hv42 hv33 hv24 hv15 hv6; simp only [f2, if_pos hc9, if_pos hc18, if_pos hc27, if_pos hc36, if_pos hc45, if_pos hc54, if_pos hc63, if_pos hc72, if_pos hc81, if_pos hc90, if_pos hc99, if_pos hc108, if_pos hc117, if_pos hc126, if_pos hc135, if_pos hc144, if_pos hc153, if_pos hc162, if_pos hc171, if_pos hc180, if_pos hc189, if_pos hc198, if_pos hc207, if_pos hc216, if_pos hc225, if_pos hc234, if_pos hc243, if_neg hc252]), N298, rfl⟩
                                                      · have pre299 : ∀ t, Steps p.tables e below (s₁.setTop (mkF m 32 #[.val (.ref a0), .val (.ref a1), .val (.int (26 : Int32)), .val (.int v240)] [(.int v240), (.int (48 : Int32))])) t → Steps p.tables e below (s₁.setTop (entryFrame m #[(.ref a0), (.ref a1)] 4)) t := fun t k => pre242 t (by
                                                          show Steps p.tables e below (s₁.setTop (mkF m 21 #[.val (.ref a0), .val (.ref a1), .val (.int (26 : Int32)), .val (.int v240)] [(.int v240)])) _
                                                          refine XS.ifNo X0.here hx rfl (hb hby d2_21) rfl ((if0 _ _).trans (feq hc243).1) ?_
                                                          show Steps p.tables e below (s₁.setTop (mkF m 24 #[.val (.ref a0), .val (.ref a1), .val (.int (26 : Int32)), .val (.int v240)] [])) _
                                                          refine XS.bipush X0.here hx rfl (hb hby d2_24) ?_
                                                          show Steps p.tables e below (s₁.setTop (mkF m 26 #[.val (.ref a0), .val (.ref a1), .val (.int (26 : Int32)), .val (.int v240)] [(.int (8 : Int32))])) _
                                                          refine XS.bipush X0.here hx rfl (hb hby d2_26) ?_
                                                          show Steps p.tables e below (s₁.setTop (mkF m 28 #[.val (.ref a0), .val (.ref a1), .val (.int (26 : Int32)), .val (.int v240)] [(.int (32 : Int32)), (.int (8 : Int32))])) _
                                                          refine XS.iloadN X0.here hx rfl (hb hby d2_28) rfl ?_
                                                          show Steps p.tables e below (s₁.setTop (mkF m 29 #[.val (.ref a0), .val (.ref a1), .val (.int (26 : Int32)), .val (.int v240)] [(.int (26 : Int32)), (.int (32 : Int32)), (.int (8 : Int32))])) _
                                                          refine XS.isub X0.here hx rfl (hb hby d2_29) rfl ?_
                                                          show Steps p.tables e below (s₁.setTop (mkF m 30 #[.val (.ref a0), .val (.ref a1), .val (.int (26 : Int32)), .val (.int v240)] [(.int (6 : Int32)), (.int (8 : Int32))])) _
                                                          refine XS.imul X0.here hx rfl (hb hby d2_30) rfl ?_
                                                          show Steps p.tables e below (s₁.setTop (mkF m 31 #[.val (.ref a0), .val (.ref a1), .val (.int (26 : Int32)), .val (.int v240)] [(.int (48 : Int32))])) _
                                                          refine XS.iloadN X0.here hx rfl (hb hby d2_31) rfl ?_
                                                          exact k)
                                                        obtain ⟨_, _, ⟨T300, L300, k300, n300⟩, -, X300, ⟨Lc300, hQ300, l300, y300, z300⟩, st300⟩ := Jvm.LawKit.callS X0 hx (y := (⟨"java/lang/Integer", "numberOfLeadingZeros", "(I)I"⟩ : MethodName)) hown (mvT hZ (hw _ (List.mem_of_getElem? (i := 9) rfl))) (mvT hZ (hw _ (List.mem_of_getElem? (i := 10) rfl))) (mvT hZ (hw _ (List.mem_of_getElem? (i := 11) rfl))) (mvT hZ (hw _ (List.mem_of_getElem? (i := 12) rfl))) (by decide) (backOf (W := 1) (rm3 l Z aw hw [] v240 h0 n0 Z0) hZ (hw _ (List.mem_of_getElem? (i := 12) rfl)) (hw _ (List.mem_of_getElem? (i := 11) rfl)) (by decide) (by decide)) (g := (mkF m 32 #[.val (.ref a0), .val (.ref a1), .val (.int (26 : Int32)), .val (.int v240)] [(.int v240), (.int (48 : Int32))])) rfl (by rw [hml]; rfl) (argsL := [(.int v240)]) (rest := [(.int (48 : Int32))]) (lenOf pd_0 rfl) rfl (by show 2 * 0 + _ ≤ _; exact Nat.le_of_eq rfl) (hb hby d2_32) (fun _ _ => ⟨rfl, e0, (by decide : 0 + 0 ≤ _), (by decide : 0 + 0 ≤ _)⟩)
                                                        dsimp only [Pt.U, Pt.locs, Pt.cells, Pt.slots] at X300 l300 y300 z300 st300 hQ300
                                                        subst l300 y300 z300
                                                        obtain ⟨rfl, N300q, e300⟩ := hQ300
                                                        have N300 := Fr.app N0 N300q
                                                        obtain ⟨fs, hr, hrun, hended, hW, hsame⟩ := X300.leave (v := some (.int (((48 : Int32) - (f3 v240)) + (23 : Int32)))) (fun h => by rw [Bd.returns] at h; cases h)
                                                        refine ⟨_, _, pre299 _ ?_, hrun, hended, _, _, rfl, ?_, ⟨_, rfl⟩, hW, hsame.mono (by decide) (by decide)⟩
                                                        · show Steps p.tables e below (s₁.setTop (mkF m 32 #[.val (.ref a0), .val (.ref a1), .val (.int (26 : Int32)), .val (.int v240)] [(.int v240), (.int (48 : Int32))])) _
                                                          refine st300 _ ?_
                                                          show Steps p.tables e below (T300.setTop (mkF m 35 #[.val (.ref a0), .val (.ref a1), .val (.int (26 : Int32)), .val (.int v240)] [(.int (f3 v240)), (.int (48 : Int32))])) _
                                                          refine XS.isub X300.here hx rfl (hb hby d2_35) rfl ?_
                                                          show Steps p.tables e below (T300.setTop (mkF m 36 #[.val (.ref a0), .val (.ref a1), .val (.int (26 : Int32)), .val (.int v240)] [(.int ((48 : Int32) - (f3 v240)))])) _
                                                          refine XS.bipush X300.here hx rfl (hb hby d2_36) ?_
                                                          show Steps p.tables e below (T300.setTop (mkF m 38 #[.val (.ref a0), .val (.ref a1), .val (.int (26 : Int32)), .val (.int v240)] [(.int (23 : Int32)), (.int ((48 : Int32) - (f3 v240)))])) _
                                                          refine XS.iadd X300.here hx rfl (hb hby d2_38) rfl ?_
                                                          show Steps p.tables e below (T300.setTop (mkF m 39 #[.val (.ref a0), .val (.ref a1), .val (.int (26 : Int32)), .val (.int v240)] [(.int (((48 : Int32) - (f3 v240)) + (23 : Int32)))])) _
                                                          exact retI X300 hx Bd.returns (hb hby d2_39) hr
                                                        · show Q2 Z a0 a1 ka_a0 vs_a0 ka_a1 vs_a1 h0 n0 _ T300.heap _
                                                          rw [e300]
                                                          exact ⟨congrArg (fun z => some (Value.int z)) (by subst hv240 hv231 hv222 hv213 hv204 hv195 hv186 hv177 hv168 hv159 hv150 hv141 hv132 hv123 hv114 hv105 hv96 hv87 hv78 hv69 hv60 hv51 hv42 hv33 hv24 hv15 hv6; simp only [f2, if_pos hc9, if_pos hc18, if_pos hc27, if_pos hc36, if_pos hc45, if_pos hc54, if_pos hc63, if_pos hc72, if_pos hc81, if_pos hc90, if_pos hc99, if_pos hc108, if_pos hc117, if_pos hc126, if_pos hc135, if_pos hc144, if_pos hc153, if_pos hc162, if_pos hc171, if_pos hc180, if_pos hc189, if_pos hc198, if_pos hc207, if_pos hc216, if_pos hc225, if_pos hc234, if_neg hc243]), N300, rfl⟩
                                                    · have pre301 : ∀ t, Steps p.tables e below (s₁.setTop (mkF m 32 #[.val (.ref a0), .val (.ref a1), .val (.int (25 : Int32)), .val (.int v231)] [(.int v231), (.int (56 : Int32))])) t → Steps p.tables e below (s₁.setTop (entryFrame m #[(.ref a0), (.ref a1)] 4)) t := fun t k => pre233 t (by
                                                        show Steps p.tables e below (s₁.setTop (mkF m 21 #[.val (.ref a0), .val (.ref a1), .val (.int (25 : Int32)), .val (.int v231)] [(.int v231)])) _
                                                        refine XS.ifNo X0.here hx rfl (hb hby d2_21) rfl ((if0 _ _).trans (feq hc234).1) ?_
                                                        show Steps p.tables e below (s₁.setTop (mkF m 24 #[.val (.ref a0), .val (.ref a1), .val (.int (25 : Int32)), .val (.int v231)] [])) _
                                                        refine XS.bipush X0.here hx rfl (hb hby d2_24) ?_
                                                        show Steps p.tables e below (s₁.setTop (mkF m 26 #[.val (.ref a0), .val (.ref a1), .val (.int (25 : Int32)), .val (.int v231)] [(.int (8 : Int32))])) _
                                                        refine XS.bipush X0.here hx rfl (hb hby d2_26) ?_
                                                        show Steps p.tables e below (s₁.setTop (mkF m 28 #[.val (.ref a0), .val (.ref a1), .val (.int (25 : Int32)), .val (.int v231)] [(.int (32 : Int32)), (.int (8 : Int32))])) _
                                                        refine XS.iloadN X0.here hx rfl (hb hby d2_28) rfl ?_
                                                        show Steps p.tables e below (s₁.setTop (mkF m 29 #[.val (.ref a0), .val (.ref a1), .val (.int (25 : Int32)), .val (.int v231)] [(.int (25 : Int32)), (.int (32 : Int32)), (.int (8 : Int32))])) _
                                                        refine XS.isub X0.here hx rfl (hb hby d2_29) rfl ?_
                                                        show Steps p.tables e below (s₁.setTop (mkF m 30 #[.val (.ref a0), .val (.ref a1), .val (.int (25 : Int32)), .val (.int v231)] [(.int (7 : Int32)), (.int (8 : Int32))])) _
                                                        refine XS.imul X0.here hx rfl (hb hby d2_30) rfl ?_
                                                        show Steps p.tables e below (s₁.setTop (mkF m 31 #[.val (.ref a0), .val (.ref a1), .val (.int (25 : Int32)), .val (.int v231)] [(.int (56 : Int32))])) _
                                                        refine XS.iloadN X0.here hx rfl (hb hby d2_31) rfl ?_
                                                        exact k)
                                                      obtain ⟨_, _, ⟨T302, L302, k302, n302⟩, -, X302, ⟨Lc302, hQ302, l302, y302, z302⟩, st302⟩ := Jvm.LawKit.callS X0 hx (y := (⟨"java/lang/Integer", "numberOfLeadingZeros", "(I)I"⟩ : MethodName)) hown (mvT hZ (hw _ (List.mem_of_getElem? (i := 9) rfl))) (mvT hZ (hw _ (List.mem_of_getElem? (i := 10) rfl))) (mvT hZ (hw _ (List.mem_of_getElem? (i := 11) rfl))) (mvT hZ (hw _ (List.mem_of_getElem? (i := 12) rfl))) (by decide) (backOf (W := 1) (rm3 l Z aw hw [] v231 h0 n0 Z0) hZ (hw _ (List.mem_of_getElem? (i := 12) rfl)) (hw _ (List.mem_of_getElem? (i := 11) rfl)) (by decide) (by decide)) (g := (mkF m 32 #[.val (.ref a0), .val (.ref a1), .val (.int (25 : Int32)), .val (.int v231)] [(.int v231), (.int (56 : Int32))])) rfl (by rw [hml]; rfl) (argsL := [(.int v231)]) (rest := [(.int (56 : Int32))]) (lenOf pd_0 rfl) rfl (by show 2 * 0 + _ ≤ _; exact Nat.le_of_eq rfl) (hb hby d2_32) (fun _ _ => ⟨rfl, e0, (by decide : 0 + 0 ≤ _), (by decide : 0 + 0 ≤ _)⟩)
                                                      dsimp only [Pt.U, Pt.locs, Pt.cells, Pt.slots] at X302 l302 y302 z302 st302 hQ302
                                                      subst l302 y302 z302
                                                      obtain ⟨rfl, N302q, e302⟩ := hQ302
                                                      have N302 := Fr.app N0 N302q
                                                      obtain ⟨fs, hr, hrun, hended, hW, hsame⟩ := X302.leave (v := some (.int (((56 : Int32) - (f3 v231)) + (23 : Int32)))) (fun h => by rw [Bd.returns] at h; cases h)
                                                      refine ⟨_, _, pre301 _ ?_, hrun, hended, _, _, rfl, ?_, ⟨_, rfl⟩, hW, hsame.mono (by decide) (by decide)⟩
                                                      · show Steps p.tables e below (s₁.setTop (mkF m 32 #[.val (.ref a0), .val (.ref a1), .val (.int (25 : Int32)), .val (.int v231)] [(.int v231), (.int (56 : Int32))])) _
                                                        refine st302 _ ?_
                                                        show Steps p.tables e below (T302.setTop (mkF m 35 #[.val (.ref a0), .val (.ref a1), .val (.int (25 : Int32)), .val (.int v231)] [(.int (f3 v231)), (.int (56 : Int32))])) _
                                                        refine XS.isub X302.here hx rfl (hb hby d2_35) rfl ?_
                                                        show Steps p.tables e below (T302.setTop (mkF m 36 #[.val (.ref a0), .val (.ref a1), .val (.int (25 : Int32)), .val (.int v231)] [(.int ((56 : Int32) - (f3 v231)))])) _
                                                        refine XS.bipush X302.here hx rfl (hb hby d2_36) ?_
                                                        show Steps p.tables e below (T302.setTop (mkF m 38 #[.val (.ref a0), .val (.ref a1), .val (.int (25 : Int32)), .val (.int v231)] [(.int (23 : Int32)), (.int ((56 : Int32) - (f3 v231)))])) _
                                                        refine XS.iadd X302.here hx rfl (hb hby d2_38) rfl ?_
                                                        show Steps p.tables e below (T302.setTop (mkF m 39 #[.val (.ref a0), .val (.ref a1), .val (.int (25 : Int32)), .val (.int v231)] [(.int (((56 : Int32) - (f3 v231)) + (23 : Int32)))])) _
                                                        exact retI X302 hx Bd.returns (hb hby d2_39) hr
                                                      · show Q2 Z a0 a1 ka_a0 vs_a0 ka_a1 vs_a1 h0 n0 _ T302.heap _
                                                        rw [e302]
                                                        exact ⟨congrArg (fun z => some (Value.int z)) (by subst hv231 hv222 hv213 hv204 hv195 hv186 hv177 hv168 hv159 hv150 hv141 hv132 hv123 hv114 hv105 hv96 hv87 hv78 hv69 hv60 hv51 hv42 hv33 hv24 hv15 hv6; simp only [f2, if_pos hc9, if_pos hc18, if_pos hc27, if_pos hc36, if_pos hc45, if_pos hc54, if_pos hc63, if_pos hc72, if_pos hc81, if_pos hc90, if_pos hc99, if_pos hc108, if_pos hc117, if_pos hc126, if_pos hc135, if_pos hc144, if_pos hc153, if_pos hc162, if_pos hc171, if_pos hc180, if_pos hc189, if_pos hc198, if_pos hc207, if_pos hc216, if_pos hc225, if_neg hc234]), N302, rfl⟩
                                                  · have pre303 : ∀ t, Steps p.tables e below (s₁.setTop (mkF m 32 #[.val (.ref a0), .val (.ref a1), .val (.int (24 : Int32)), .val (.int v222)] [(.int v222), (.int (64 : Int32))])) t → Steps p.tables e below (s₁.setTop (entryFrame m #[(.ref a0), (.ref a1)] 4)) t := fun t k => pre224 t (by
                                                      show Steps p.tables e below (s₁.setTop (mkF m 21 #[.val (.ref a0), .val (.ref a1), .val (.int (24 : Int32)), .val (.int v222)] [(.int v222)])) _
                                                      refine XS.ifNo X0.here hx rfl (hb hby d2_21) rfl ((if0 _ _).trans (feq hc225).1) ?_
                                                      show Steps p.tables e below (s₁.setTop (mkF m 24 #[.val (.ref a0), .val (.ref a1), .val (.int (24 : Int32)), .val (.int v222)] [])) _
                                                      refine XS.bipush X0.here hx rfl (hb hby d2_24) ?_
                                                      show Steps p.tables e below (s₁.setTop (mkF m 26 #[.val (.ref a0), .val (.ref a1), .val (.int (24 : Int32)), .val (.int v222)] [(.int (8 : Int32))])) _
                                                      refine XS.bipush X0.here hx rfl (hb hby d2_26) ?_
                                                      show Steps p.tables e below (s₁.setTop (mkF m 28 #[.val (.ref a0), .val (.ref a1), .val (.int (24 : Int32)), .val (.int v222)] [(.int (32 : Int32)), (.int (8 : Int32))])) _
                                                      refine XS.iloadN X0.here hx rfl (hb hby d2_28) rfl ?_
                                                      show Steps p.tables e below (s₁.setTop (mkF m 29 #[.val (.ref a0), .val (.ref a1), .val (.int (24 : Int32)), .val (.int v222)] [(.int (24 : Int32)), (.int (32 : Int32)), (.int (8 : Int32))])) _
                                                      refine XS.isub X0.here hx rfl (hb hby d2_29) rfl ?_
                                                      show Steps p.tables e below (s₁.setTop (mkF m 30 #[.val (.ref a0), .val (.ref a1), .val (.int (24 : Int32)), .val (.int v222)] [(.int (8 : Int32)), (.int (8 : Int32))])) _
                                                      refine XS.imul X0.here hx rfl (hb hby d2_30) rfl ?_
                                                      show Steps p.tables e below (s₁.setTop (mkF m 31 #[.val (.ref a0), .val (.ref a1), .val (.int (24 : Int32)), .val (.int v222)] [(.int (64 : Int32))])) _
                                                      refine XS.iloadN X0.here hx rfl (hb hby d2_31) rfl ?_
                                                      exact k)
                                                    obtain ⟨_, _, ⟨T304, L304, k304, n304⟩, -, X304, ⟨Lc304, hQ304, l304, y304, z304⟩, st304⟩ := Jvm.LawKit.callS X0 hx (y := (⟨"java/lang/Integer", "numberOfLeadingZeros", "(I)I"⟩ : MethodName)) hown (mvT hZ (hw _ (List.mem_of_getElem? (i := 9) rfl))) (mvT hZ (hw _ (List.mem_of_getElem? (i := 10) rfl))) (mvT hZ (hw _ (List.mem_of_getElem? (i := 11) rfl))) (mvT hZ (hw _ (List.mem_of_getElem? (i := 12) rfl))) (by decide) (backOf (W := 1) (rm3 l Z aw hw [] v222 h0 n0 Z0) hZ (hw _ (List.mem_of_getElem? (i := 12) rfl)) (hw _ (List.mem_of_getElem? (i := 11) rfl)) (by decide) (by decide)) (g := (mkF m 32 #[.val (.ref a0), .val (.ref a1), .val (.int (24 : Int32)), .val (.int v222)] [(.int v222), (.int (64 : Int32))])) rfl (by rw [hml]; rfl) (argsL := [(.int v222)]) (rest := [(.int (64 : Int32))]) (lenOf pd_0 rfl) rfl (by show 2 * 0 + _ ≤ _; exact Nat.le_of_eq rfl) (hb hby d2_32) (fun _ _ => ⟨rfl, e0, (by decide : 0 + 0 ≤ _), (by decide : 0 + 0 ≤ _)⟩)
                                                    dsimp only [Pt.U, Pt.locs, Pt.cells, Pt.slots] at X304 l304 y304 z304 st304 hQ304
                                                    subst l304 y304 z304
                                                    obtain ⟨rfl, N304q, e304⟩ := hQ304
                                                    have N304 := Fr.app N0 N304q
                                                    obtain ⟨fs, hr, hrun, hended, hW, hsame⟩ := X304.leave (v := some (.int (((64 : Int32) - (f3 v222)) + (23 : Int32)))) (fun h => by rw [Bd.returns] at h; cases h)
                                                    refine ⟨_, _, pre303 _ ?_, hrun, hended, _, _, rfl, ?_, ⟨_, rfl⟩, hW, hsame.mono (by decide) (by decide)⟩
                                                    · show Steps p.tables e below (s₁.setTop (mkF m 32 #[.val (.ref a0), .val (.ref a1), .val (.int (24 : Int32)), .val (.int v222)] [(.int v222), (.int (64 : Int32))])) _
                                                      refine st304 _ ?_
                                                      show Steps p.tables e below (T304.setTop (mkF m 35 #[.val (.ref a0), .val (.ref a1), .val (.int (24 : Int32)), .val (.int v222)] [(.int (f3 v222)), (.int (64 : Int32))])) _
                                                      refine XS.isub X304.here hx rfl (hb hby d2_35) rfl ?_
                                                      show Steps p.tables e below (T304.setTop (mkF m 36 #[.val (.ref a0), .val (.ref a1), .val (.int (24 : Int32)), .val (.int v222)] [(.int ((64 : Int32) - (f3 v222)))])) _
                                                      refine XS.bipush X304.here hx rfl (hb hby d2_36) ?_
                                                      show Steps p.tables e below (T304.setTop (mkF m 38 #[.val (.ref a0), .val (.ref a1), .val (.int (24 : Int32)), .val (.int v222)] [(.int (23 : Int32)), (.int ((64 : Int32) - (f3 v222)))])) _
                                                      refine XS.iadd X304.here hx rfl (hb hby d2_38) rfl ?_
                                                      show Steps p.tables e below (T304.setTop (mkF m 39 #[.val (.ref a0), .val (.ref a1), .val (.int (24 : Int32)), .val (.int v222)] [(.int (((64 : Int32) - (f3 v222)) + (23 : Int32)))])) _
                                                      exact retI X304 hx Bd.returns (hb hby d2_39) hr
                                                    · show Q2 Z a0 a1 ka_a0 vs_a0 ka_a1 vs_a1 h0 n0 _ T304.heap _
                                                      rw [e304]
                                                      exact ⟨congrArg (fun z => some (Value.int z)) (by subst hv222 hv213 hv204 hv195 hv186 hv177 hv168 hv159 hv150 hv141 hv132 hv123 hv114 hv105 hv96 hv87 hv78 hv69 hv60 hv51 hv42 hv33 hv24 hv15 hv6; simp only [f2, if_pos hc9, if_pos hc18, if_pos hc27, if_pos hc36, if_pos hc45, if_pos hc54, if_pos hc63, if_pos hc72, if_pos hc81, if_pos hc90, if_pos hc99, if_pos hc108, if_pos hc117, if_pos hc126, if_pos hc135, if_pos hc144, if_pos hc153, if_pos hc162, if_pos hc171, if_pos hc180, if_pos hc189, if_pos hc198, if_pos hc207, if_pos hc216, if_neg hc225]), N304, rfl⟩
                                                · have pre305 : ∀ t, Steps p.tables e below (s₁.setTop (mkF m 32 #[.val (.ref a0), .val (.ref a1), .val (.int (23 : Int32)), .val (.int v213)] [(.int v213), (.int (72 : Int32))])) t → Steps p.tables e below (s₁.setTop (entryFrame m #[(.ref a0), (.ref a1)] 4)) t := fun t k => pre215 t (by
                                                    show Steps p.tables e below (s₁.setTop (mkF m 21 #[.val (.ref a0), .val (.ref a1), .val (.int (23 : Int32)), .val (.int v213)] [(.int v213)])) _
                                                    refine XS.ifNo X0.here hx rfl (hb hby d2_21) rfl ((if0 _ _).trans (feq hc216).1) ?_
                                                    show Steps p.tables e below (s₁.setTop (mkF m 24 #[.val (.ref a0), .val (.ref a1), .val (.int (23 : Int32)), .val (.int v213)] [])) _
                                                    refine XS.bipush X0.here hx rfl (hb hby d2_24) ?_
                                                    show Steps p.tables e below (s₁.setTop (mkF m 26 #[.val (.ref a0), .val (.ref a1), .val (.int (23 : Int32)), .val (.int v213)] [(.int (8 : Int32))])) _
                                                    refine XS.bipush X0.here hx rfl (hb hby d2_26) ?_
                                                    show Steps p.tables e below (s₁.setTop (mkF m 28 #[.val (.ref a0), .val (.ref a1), .val (.int (23 : Int32)), .val (.int v213)] [(.int (32 : Int32)), (.int (8 : Int32))])) _
                                                    refine XS.iloadN X0.here hx rfl (hb hby d2_28) rfl ?_
                                                    show Steps p.tables e below (s₁.setTop (mkF m 29 #[.val (.ref a0), .val (.ref a1), .val (.int (23 : Int32)), .val (.int v213)] [(.int (23 : Int32)), (.int (32 : Int32)), (.int (8 : Int32))])) _
                                                    refine XS.isub X0.here hx rfl (hb hby d2_29) rfl ?_
                                                    show Steps p.tables e below (s₁.setTop (mkF m 30 #[.val (.ref a0), .val (.ref a1), .val (.int (23 : Int32)), .val (.int v213)] [(.int (9 : Int32)), (.int (8 : Int32))])) _
                                                    refine XS.imul X0.here hx rfl (hb hby d2_30) rfl ?_
                                                    show Steps p.tables e below (s₁.setTop (mkF m 31 #[.val (.ref a0), .val (.ref a1), .val (.int (23 : Int32)), .val (.int v213)] [(.int (72 : Int32))])) _
                                                    refine XS.iloadN X0.here hx rfl (hb hby d2_31) rfl ?_
                                                    exact k)
                                                  obtain ⟨_, _, ⟨T306, L306, k306, n306⟩, -, X306, ⟨Lc306, hQ306, l306, y306, z306⟩, st306⟩ := Jvm.LawKit.callS X0 hx (y := (⟨"java/lang/Integer", "numberOfLeadingZeros", "(I)I"⟩ : MethodName)) hown (mvT hZ (hw _ (List.mem_of_getElem? (i := 9) rfl))) (mvT hZ (hw _ (List.mem_of_getElem? (i := 10) rfl))) (mvT hZ (hw _ (List.mem_of_getElem? (i := 11) rfl))) (mvT hZ (hw _ (List.mem_of_getElem? (i := 12) rfl))) (by decide) (backOf (W := 1) (rm3 l Z aw hw [] v213 h0 n0 Z0) hZ (hw _ (List.mem_of_getElem? (i := 12) rfl)) (hw _ (List.mem_of_getElem? (i := 11) rfl)) (by decide) (by decide)) (g := (mkF m 32 #[.val (.ref a0), .val (.ref a1), .val (.int (23 : Int32)), .val (.int v213)] [(.int v213), (.int (72 : Int32))])) rfl (by rw [hml]; rfl) (argsL := [(.int v213)]) (rest := [(.int (72 : Int32))]) (lenOf pd_0 rfl) rfl (by show 2 * 0 + _ ≤ _; exact Nat.le_of_eq rfl) (hb hby d2_32) (fun _ _ => ⟨rfl, e0, (by decide : 0 + 0 ≤ _), (by decide : 0 + 0 ≤ _)⟩)
                                                  dsimp only [Pt.U, Pt.locs, Pt.cells, Pt.slots] at X306 l306 y306 z306 st306 hQ306
                                                  subst l306 y306 z306
                                                  obtain ⟨rfl, N306q, e306⟩ := hQ306
                                                  have N306 := Fr.app N0 N306q
                                                  obtain ⟨fs, hr, hrun, hended, hW, hsame⟩ := X306.leave (v := some (.int (((72 : Int32) - (f3 v213)) + (23 : Int32)))) (fun h => by rw [Bd.returns] at h; cases h)
                                                  refine ⟨_, _, pre305 _ ?_, hrun, hended, _, _, rfl, ?_, ⟨_, rfl⟩, hW, hsame.mono (by decide) (by decide)⟩
                                                  · show Steps p.tables e below (s₁.setTop (mkF m 32 #[.val (.ref a0), .val (.ref a1), .val (.int (23 : Int32)), .val (.int v213)] [(.int v213), (.int (72 : Int32))])) _
                                                    refine st306 _ ?_
                                                    show Steps p.tables e below (T306.setTop (mkF m 35 #[.val (.ref a0), .val (.ref a1), .val (.int (23 : Int32)), .val (.int v213)] [(.int (f3 v213)), (.int (72 : Int32))])) _
                                                    refine XS.isub X306.here hx rfl (hb hby d2_35) rfl ?_
                                                    show Steps p.tables e below (T306.setTop (mkF m 36 #[.val (.ref a0), .val (.ref a1), .val (.int (23 : Int32)), .val (.int v213)] [(.int ((72 : Int32) - (f3 v213)))])) _
                                                    refine XS.bipush X306.here hx rfl (hb hby d2_36) ?_
                                                    show Steps p.tables e below (T306.setTop (mkF m 38 #[.val (.ref a0), .val (.ref a1), .val (.int (23 : Int32)), .val (.int v213)] [(.int (23 : Int32)), (.int ((72 : Int32) - (f3 v213)))])) _
                                                    refine XS.iadd X306.here hx rfl (hb hby d2_38) rfl ?_
                                                    show Steps p.tables e below (T306.setTop (mkF m 39 #[.val (.ref a0), .val (.ref a1), .val (.int (23 : Int32)), .val (.int v213)] [(.int (((72 : Int32) - (f3 v213)) + (23 : Int32)))])) _
                                                    exact retI X306 hx Bd.returns (hb hby d2_39) hr
                                                  · show Q2 Z a0 a1 ka_a0 vs_a0 ka_a1 vs_a1 h0 n0 _ T306.heap _
                                                    rw [e306]
                                                    exact ⟨congrArg (fun z => some (Value.int z)) (by subst hv213 hv204 hv195 hv186 hv177 hv168 hv159 hv150 hv141 hv132 hv123 hv114 hv105 hv96 hv87 hv78 hv69 hv60 hv51 hv42 hv33 hv24 hv15 hv6; simp only [f2, if_pos hc9, if_pos hc18, if_pos hc27, if_pos hc36, if_pos hc45, if_pos hc54, if_pos hc63, if_pos hc72, if_pos hc81, if_pos hc90, if_pos hc99, if_pos hc108, if_pos hc117, if_pos hc126, if_pos hc135, if_pos hc144, if_pos hc153, if_pos hc162, if_pos hc171, if_pos hc180, if_pos hc189, if_pos hc198, if_pos hc207, if_neg hc216]), N306, rfl⟩
                                              · have pre307 : ∀ t, Steps p.tables e below (s₁.setTop (mkF m 32 #[.val (.ref a0), .val (.ref a1), .val (.int (22 : Int32)), .val (.int v204)] [(.int v204), (.int (80 : Int32))])) t → Steps p.tables e below (s₁.setTop (entryFrame m #[(.ref a0), (.ref a1)] 4)) t := fun t k => pre206 t (by
                                                  show Steps p.tables e below (s₁.setTop (mkF m 21 #[.val (.ref a0), .val (.ref a1), .val (.int (22 : Int32)), .val (.int v204)] [(.int v204)])) _
                                                  refine XS.ifNo X0.here hx rfl (hb hby d2_21) rfl ((if0 _ _).trans (feq hc207).1) ?_
                                                  show Steps p.tables e below (s₁.setTop (mkF m 24 #[.val (.ref a0), .val (.ref a1), .val (.int (22 : Int32)), .val (.int v204)] [])) _
                                                  refine XS.bipush X0.here hx rfl (hb hby d2_24) ?_
                                                  show Steps p.tables e below (s₁.setTop (mkF m 26 #[.val (.ref a0), .val (.ref a1), .val (.int (22 : Int32)), .val (.int v204)] [(.int (8 : Int32))])) _
                                                  refine XS.bipush X0.here hx rfl (hb hby d2_26) ?_
                                                  show Steps p.tables e below (s₁.setTop (mkF m 28 #[.val (.ref a0), .val (.ref a1), .val (.int (22 : Int32)), .val (.int v204)] [(.int (32 : Int32)), (.int (8 : Int32))])) _
                                                  refine XS.iloadN X0.here hx rfl (hb hby d2_28) rfl ?_
                                                  show Steps p.tables e below (s₁.setTop (mkF m 29 #[.val (.ref a0), .val (.ref a1), .val (.int (22 : Int32)), .val (.int v204)] [(.int (22 : Int32)), (.int (32 : Int32)), (.int (8 : Int32))])) _
                                                  refine XS.isub X0.here hx rfl (hb hby d2_29) rfl ?_
                                                  show Steps p.tables e below (s₁.setTop (mkF m 30 #[.val (.ref a0), .val (.ref a1), .val (.int (22 : Int32)), .val (.int v204)] [(.int (10 : Int32)), (.int (8 : Int32))])) _
                                                  refine XS.imul X0.here hx rfl (hb hby d2_30) rfl ?_
                                                  show Steps p.tables e below (s₁.setTop (mkF m 31 #[.val (.ref a0), .val (.ref a1), .val (.int (22 : Int32)), .val (.int v204)] [(.int (80 : Int32))])) _
                                                  refine XS.iloadN X0.here hx rfl (hb hby d2_31) rfl ?_
                                                  exact k)
                                                obtain ⟨_, _, ⟨T308, L308, k308, n308⟩, -, X308, ⟨Lc308, hQ308, l308, y308, z308⟩, st308⟩ := Jvm.LawKit.callS X0 hx (y := (⟨"java/lang/Integer", "numberOfLeadingZeros", "(I)I"⟩ : MethodName)) hown (mvT hZ (hw _ (List.mem_of_getElem? (i := 9) rfl))) (mvT hZ (hw _ (List.mem_of_getElem? (i := 10) rfl))) (mvT hZ (hw _ (List.mem_of_getElem? (i := 11) rfl))) (mvT hZ (hw _ (List.mem_of_getElem? (i := 12) rfl))) (by decide) (backOf (W := 1) (rm3 l Z aw hw [] v204 h0 n0 Z0) hZ (hw _ (List.mem_of_getElem? (i := 12) rfl)) (hw _ (List.mem_of_getElem? (i := 11) rfl)) (by decide) (by decide)) (g := (mkF m 32 #[.val (.ref a0), .val (.ref a1), .val (.int (22 : Int32)), .val (.int v204)] [(.int v204), (.int (80 : Int32))])) rfl (by rw [hml]; rfl) (argsL := [(.int v204)]) (rest := [(.int (80 : Int32))]) (lenOf pd_0 rfl) rfl (by show 2 * 0 + _ ≤ _; exact Nat.le_of_eq rfl) (hb hby d2_32) (fun _ _ => ⟨rfl, e0, (by decide : 0 + 0 ≤ _), (by decide : 0 + 0 ≤ _)⟩)
                                                dsimp only [Pt.U, Pt.locs, Pt.cells, Pt.slots] at X308 l308 y308 z308 st308 hQ308
                                                subst l308 y308 z308
                                                obtain ⟨rfl, N308q, e308⟩ := hQ308
                                                have N308 := Fr.app N0 N308q
                                                obtain ⟨fs, hr, hrun, hended, hW, hsame⟩ := X308.leave (v := some (.int (((80 : Int32) - (f3 v204)) + (23 : Int32)))) (fun h => by rw [Bd.returns] at h; cases h)
                                                refine ⟨_, _, pre307 _ ?_, hrun, hended, _, _, rfl, ?_, ⟨_, rfl⟩, hW, hsame.mono (by decide) (by decide)⟩
                                                · show Steps p.tables e below (s₁.setTop (mkF m 32 #[.val (.ref a0), .val (.ref a1), .val (.int (22 : Int32)), .val (.int v204)] [(.int v204), (.int (80 : Int32))])) _
                                                  refine st308 _ ?_
                                                  show Steps p.tables e below (T308.setTop (mkF m 35 #[.val (.ref a0), .val (.ref a1), .val (.int (22 : Int32)), .val (.int v204)] [(.int (f3 v204)), (.int (80 : Int32))])) _
                                                  refine XS.isub X308.here hx rfl (hb hby d2_35) rfl ?_
                                                  show Steps p.tables e below (T308.setTop (mkF m 36 #[.val (.ref a0), .val (.ref a1), .val (.int (22 : Int32)), .val (.int v204)] [(.int ((80 : Int32) - (f3 v204)))])) _
                                                  refine XS.bipush X308.here hx rfl (hb hby d2_36) ?_
                                                  show Steps p.tables e below (T308.setTop (mkF m 38 #[.val (.ref a0), .val (.ref a1), .val (.int (22 : Int32)), .val (.int v204)] [(.int (23 : Int32)), (.int ((80 : Int32) - (f3 v204)))])) _
                                                  refine XS.iadd X308.here hx rfl (hb hby d2_38) rfl ?_
                                                  show Steps p.tables e below (T308.setTop (mkF m 39 #[.val (.ref a0), .val (.ref a1), .val (.int (22 : Int32)), .val (.int v204)] [(.int (((80 : Int32) - (f3 v204)) + (23 : Int32)))])) _
                                                  exact retI X308 hx Bd.returns (hb hby d2_39) hr
                                                · show Q2 Z a0 a1 ka_a0 vs_a0 ka_a1 vs_a1 h0 n0 _ T308.heap _
                                                  rw [e308]
                                                  exact ⟨congrArg (fun z => some (Value.int z)) (by subst hv204 hv195 hv186 hv177 hv168 hv159 hv150 hv141 hv132 hv123 hv114 hv105 hv96 hv87 hv78 hv69 hv60 hv51 hv42 hv33 hv24 hv15 hv6; simp only [f2, if_pos hc9, if_pos hc18, if_pos hc27, if_pos hc36, if_pos hc45, if_pos hc54, if_pos hc63, if_pos hc72, if_pos hc81, if_pos hc90, if_pos hc99, if_pos hc108, if_pos hc117, if_pos hc126, if_pos hc135, if_pos hc144, if_pos hc153, if_pos hc162, if_pos hc171, if_pos hc180, if_pos hc189, if_pos hc198, if_neg hc207]), N308, rfl⟩
                                            · have pre309 : ∀ t, Steps p.tables e below (s₁.setTop (mkF m 32 #[.val (.ref a0), .val (.ref a1), .val (.int (21 : Int32)), .val (.int v195)] [(.int v195), (.int (88 : Int32))])) t → Steps p.tables e below (s₁.setTop (entryFrame m #[(.ref a0), (.ref a1)] 4)) t := fun t k => pre197 t (by
                                                show Steps p.tables e below (s₁.setTop (mkF m 21 #[.val (.ref a0), .val (.ref a1), .val (.int (21 : Int32)), .val (.int v195)] [(.int v195)])) _
                                                refine XS.ifNo X0.here hx rfl (hb hby d2_21) rfl ((if0 _ _).trans (feq hc198).1) ?_
                                                show Steps p.tables e below (s₁.setTop (mkF m 24 #[.val (.ref a0), .val (.ref a1), .val (.int (21 : Int32)), .val (.int v195)] [])) _
                                                refine XS.bipush X0.here hx rfl (hb hby d2_24) ?_
                                                show Steps p.tables e below (s₁.setTop (mkF m 26 #[.val (.ref a0), .val (.ref a1), .val (.int (21 : Int32)), .val (.int v195)] [(.int (8 : Int32))])) _
                                                refine XS.bipush X0.here hx rfl (hb hby d2_26) ?_
                                                show Steps p.tables e below (s₁.setTop (mkF m 28 #[.val (.ref a0), .val (.ref a1), .val (.int (21 : Int32)), .val (.int v195)] [(.int (32 : Int32)), (.int (8 : Int32))])) _
                                                refine XS.iloadN X0.here hx rfl (hb hby d2_28) rfl ?_
                                                show Steps p.tables e below (s₁.setTop (mkF m 29 #[.val (.ref a0), .val (.ref a1), .val (.int (21 : Int32)), .val (.int v195)] [(.int (21 : Int32)), (.int (32 : Int32)), (.int (8 : Int32))])) _
                                                refine XS.isub X0.here hx rfl (hb hby d2_29) rfl ?_
                                                show Steps p.tables e below (s₁.setTop (mkF m 30 #[.val (.ref a0), .val (.ref a1), .val (.int (21 : Int32)), .val (.int v195)] [(.int (11 : Int32)), (.int (8 : Int32))])) _
                                                refine XS.imul X0.here hx rfl (hb hby d2_30) rfl ?_
                                                show Steps p.tables e below (s₁.setTop (mkF m 31 #[.val (.ref a0), .val (.ref a1), .val (.int (21 : Int32)), .val (.int v195)] [(.int (88 : Int32))])) _
                                                refine XS.iloadN X0.here hx rfl (hb hby d2_31) rfl ?_
                                                exact k)
                                              obtain ⟨_, _, ⟨T310, L310, k310, n310⟩, -, X310, ⟨Lc310, hQ310, l310, y310, z310⟩, st310⟩ := Jvm.LawKit.callS X0 hx (y := (⟨"java/lang/Integer", "numberOfLeadingZeros", "(I)I"⟩ : MethodName)) hown (mvT hZ (hw _ (List.mem_of_getElem? (i := 9) rfl))) (mvT hZ (hw _ (List.mem_of_getElem? (i := 10) rfl))) (mvT hZ (hw _ (List.mem_of_getElem? (i := 11) rfl))) (mvT hZ (hw _ (List.mem_of_getElem? (i := 12) rfl))) (by decide) (backOf (W := 1) (rm3 l Z aw hw [] v195 h0 n0 Z0) hZ (hw _ (List.mem_of_getElem? (i := 12) rfl)) (hw _ (List.mem_of_getElem? (i := 11) rfl)) (by decide) (by decide)) (g := (mkF m 32 #[.val (.ref a0), .val (.ref a1), .val (.int (21 : Int32)), .val (.int v195)] [(.int v195), (.int (88 : Int32))])) rfl (by rw [hml]; rfl) (argsL := [(.int v195)]) (rest := [(.int (88 : Int32))]) (lenOf pd_0 rfl) rfl (by show 2 * 0 + _ ≤ _; exact Nat.le_of_eq rfl) (hb hby d2_32) (fun _ _ => ⟨rfl, e0, (by decide : 0 + 0 ≤ _), (by decide : 0 + 0 ≤ _)⟩)
                                              dsimp only [Pt.U, Pt.locs, Pt.cells, Pt.slots] at X310 l310 y310 z310 st310 hQ310
                                              subst l310 y310 z310
                                              obtain ⟨rfl, N310q, e310⟩ := hQ310
                                              have N310 := Fr.app N0 N310q
                                              obtain ⟨fs, hr, hrun, hended, hW, hsame⟩ := X310.leave (v := some (.int (((88 : Int32) - (f3 v195)) + (23 : Int32)))) (fun h => by rw [Bd.returns] at h; cases h)
                                              refine ⟨_, _, pre309 _ ?_, hrun, hended, _, _, rfl, ?_, ⟨_, rfl⟩, hW, hsame.mono (by decide) (by decide)⟩
                                              · show Steps p.tables e below (s₁.setTop (mkF m 32 #[.val (.ref a0), .val (.ref a1), .val (.int (21 : Int32)), .val (.int v195)] [(.int v195), (.int (88 : Int32))])) _
                                                refine st310 _ ?_
                                                show Steps p.tables e below (T310.setTop (mkF m 35 #[.val (.ref a0), .val (.ref a1), .val (.int (21 : Int32)), .val (.int v195)] [(.int (f3 v195)), (.int (88 : Int32))])) _
                                                refine XS.isub X310.here hx rfl (hb hby d2_35) rfl ?_
                                                show Steps p.tables e below (T310.setTop (mkF m 36 #[.val (.ref a0), .val (.ref a1), .val (.int (21 : Int32)), .val (.int v195)] [(.int ((88 : Int32) - (f3 v195)))])) _
                                                refine XS.bipush X310.here hx rfl (hb hby d2_36) ?_
                                                show Steps p.tables e below (T310.setTop (mkF m 38 #[.val (.ref a0), .val (.ref a1), .val (.int (21 : Int32)), .val (.int v195)] [(.int (23 : Int32)), (.int ((88 : Int32) - (f3 v195)))])) _
                                                refine XS.iadd X310.here hx rfl (hb hby d2_38) rfl ?_
                                                show Steps p.tables e below (T310.setTop (mkF m 39 #[.val (.ref a0), .val (.ref a1), .val (.int (21 : Int32)), .val (.int v195)] [(.int (((88 : Int32) - (f3 v195)) + (23 : Int32)))])) _
                                                exact retI X310 hx Bd.returns (hb hby d2_39) hr
                                              · show Q2 Z a0 a1 ka_a0 vs_a0 ka_a1 vs_a1 h0 n0 _ T310.heap _
                                                rw [e310]
                                                exact ⟨congrArg (fun z => some (Value.int z)) (by subst hv195 hv186 hv177 hv168 hv159 hv150 hv141 hv132 hv123 hv114 hv105 hv96 hv87 hv78 hv69 hv60 hv51 hv42 hv33 hv24 hv15 hv6; simp only [f2, if_pos hc9, if_pos hc18, if_pos hc27, if_pos hc36, if_pos hc45, if_pos hc54, if_pos hc63, if_pos hc72, if_pos hc81, if_pos hc90, if_pos hc99, if_pos hc108, if_pos hc117, if_pos hc126, if_pos hc135, if_pos hc144, if_pos hc153, if_pos hc162, if_pos hc171, if_pos hc180, if_pos hc189, if_neg hc198]), N310, rfl⟩
                                          · have pre311 : ∀ t, Steps p.tables e below (s₁.setTop (mkF m 32 #[.val (.ref a0), .val (.ref a1), .val (.int (20 : Int32)), .val (.int v186)] [(.int v186), (.int (96 : Int32))])) t → Steps p.tables e below (s₁.setTop (entryFrame m #[(.ref a0), (.ref a1)] 4)) t := fun t k => pre188 t (by
                                              show Steps p.tables e below (s₁.setTop (mkF m 21 #[.val (.ref a0), .val (.ref a1), .val (.int (20 : Int32)), .val (.int v186)] [(.int v186)])) _
                                              refine XS.ifNo X0.here hx rfl (hb hby d2_21) rfl ((if0 _ _).trans (feq hc189).1) ?_
                                              show Steps p.tables e below (s₁.setTop (mkF m 24 #[.val (.ref a0), .val (.ref a1), .val (.int (20 : Int32)), .val (.int v186)] [])) _
                                              refine XS.bipush X0.here hx rfl (hb hby d2_24) ?_
                                              show Steps p.tables e below (s₁.setTop (mkF m 26 #[.val (.ref a0), .val (.ref a1), .val (.int (20 : Int32)), .val (.int v186)] [(.int (8 : Int32))])) _
                                              refine XS.bipush X0.here hx rfl (hb hby d2_26) ?_
                                              show Steps p.tables e below (s₁.setTop (mkF m 28 #[.val (.ref a0), .val (.ref a1), .val (.int (20 : Int32)), .val (.int v186)] [(.int (32 : Int32)), (.int (8 : Int32))])) _
                                              refine XS.iloadN X0.here hx rfl (hb hby d2_28) rfl ?_
                                              show Steps p.tables e below (s₁.setTop (mkF m 29 #[.val (.ref a0), .val (.ref a1), .val (.int (20 : Int32)), .val (.int v186)] [(.int (20 : Int32)), (.int (32 : Int32)), (.int (8 : Int32))])) _
                                              refine XS.isub X0.here hx rfl (hb hby d2_29) rfl ?_
                                              show Steps p.tables e below (s₁.setTop (mkF m 30 #[.val (.ref a0), .val (.ref a1), .val (.int (20 : Int32)), .val (.int v186)] [(.int (12 : Int32)), (.int (8 : Int32))])) _
                                              refine XS.imul X0.here hx rfl (hb hby d2_30) rfl ?_
                                              show Steps p.tables e below (s₁.setTop (mkF m 31 #[.val (.ref a0), .val (.ref a1), .val (.int (20 : Int32)), .val (.int v186)] [(.int (96 : Int32))])) _
                                              refine XS.iloadN X0.here hx rfl (hb hby d2_31) rfl ?_
                                              exact k)
                                            obtain ⟨_, _, ⟨T312, L312, k312, n312⟩, -, X312, ⟨Lc312, hQ312, l312, y312, z312⟩, st312⟩ := Jvm.LawKit.callS X0 hx (y := (⟨"java/lang/Integer", "numberOfLeadingZeros", "(I)I"⟩ : MethodName)) hown (mvT hZ (hw _ (List.mem_of_getElem? (i := 9) rfl))) (mvT hZ (hw _ (List.mem_of_getElem? (i := 10) rfl))) (mvT hZ (hw _ (List.mem_of_getElem? (i := 11) rfl))) (mvT hZ (hw _ (List.mem_of_getElem? (i := 12) rfl))) (by decide) (backOf (W := 1) (rm3 l Z aw hw [] v186 h0 n0 Z0) hZ (hw _ (List.mem_of_getElem? (i := 12) rfl)) (hw _ (List.mem_of_getElem? (i := 11) rfl)) (by decide) (by decide)) (g := (mkF m 32 #[.val (.ref a0), .val (.ref a1), .val (.int (20 : Int32)), .val (.int v186)] [(.int v186), (.int (96 : Int32))])) rfl (by rw [hml]; rfl) (argsL := [(.int v186)]) (rest := [(.int (96 : Int32))]) (lenOf pd_0 rfl) rfl (by show 2 * 0 + _ ≤ _; exact Nat.le_of_eq rfl) (hb hby d2_32) (fun _ _ => ⟨rfl, e0, (by decide : 0 + 0 ≤ _), (by decide : 0 + 0 ≤ _)⟩)
                                            dsimp only [Pt.U, Pt.locs, Pt.cells, Pt.slots] at X312 l312 y312 z312 st312 hQ312
                                            subst l312 y312 z312
                                            obtain ⟨rfl, N312q, e312⟩ := hQ312
                                            have N312 := Fr.app N0 N312q
                                            obtain ⟨fs, hr, hrun, hended, hW, hsame⟩ := X312.leave (v := some (.int (((96 : Int32) - (f3 v186)) + (23 : Int32)))) (fun h => by rw [Bd.returns] at h; cases h)
                                            refine ⟨_, _, pre311 _ ?_, hrun, hended, _, _, rfl, ?_, ⟨_, rfl⟩, hW, hsame.mono (by decide) (by decide)⟩
                                            · show Steps p.tables e below (s₁.setTop (mkF m 32 #[.val (.ref a0), .val (.ref a1), .val (.int (20 : Int32)), .val (.int v186)] [(.int v186), (.int (96 : Int32))])) _
                                              refine st312 _ ?_
                                              show Steps p.tables e below (T312.setTop (mkF m 35 #[.val (.ref a0), .val (.ref a1), .val (.int (20 : Int32)), .val (.int v186)] [(.int (f3 v186)), (.int (96 : Int32))])) _
                                              refine XS.isub X312.here hx rfl (hb hby d2_35) rfl ?_
                                              show Steps p.tables e below (T312.setTop (mkF m 36 #[.val (.ref a0), .val (.ref a1), .val (.int (20 : Int32)), .val (.int v186)] [(.int ((96 : Int32) - (f3 v186)))])) _
                                              refine XS.bipush X312.here hx rfl (hb hby d2_36) ?_
                                              show Steps p.tables e below (T312.setTop (mkF m 38 #[.val (.ref a0), .val (.ref a1), .val (.int (20 : Int32)), .val (.int v186)] [(.int (23 : Int32)), (.int ((96 : Int32) - (f3 v186)))])) _
                                              refine XS.iadd X312.here hx rfl (hb hby d2_38) rfl ?_
                                              show Steps p.tables e below (T312.setTop (mkF m 39 #[.val (.ref a0), .val (.ref a1), .val (.int (20 : Int32)), .val (.int v186)] [(.int (((96 : Int32) - (f3 v186)) + (23 : Int32)))])) _
                                              exact retI X312 hx Bd.returns (hb hby d2_39) hr
                                            · show Q2 Z a0 a1 ka_a0 vs_a0 ka_a1 vs_a1 h0 n0 _ T312.heap _
                                              rw [e312]
                                              exact ⟨congrArg (fun z => some (Value.int z)) (by subst hv186 hv177 hv168 hv159 hv150 hv141 hv132 hv123 hv114 hv105 hv96 hv87 hv78 hv69 hv60 hv51 hv42 hv33 hv24 hv15 hv6; simp only [f2, if_pos hc9, if_pos hc18, if_pos hc27, if_pos hc36, if_pos hc45, if_pos hc54, if_pos hc63, if_pos hc72, if_pos hc81, if_pos hc90, if_pos hc99, if_pos hc108, if_pos hc117, if_pos hc126, if_pos hc135, if_pos hc144, if_pos hc153, if_pos hc162, if_pos hc171, if_pos hc180, if_neg hc189]), N312, rfl⟩
                                        · have pre313 : ∀ t, Steps p.tables e below (s₁.setTop (mkF m 32 #[.val (.ref a0), .val (.ref a1), .val (.int (19 : Int32)), .val (.int v177)] [(.int v177), (.int (104 : Int32))])) t → Steps p.tables e below (s₁.setTop (entryFrame m #[(.ref a0), (.ref a1)] 4)) t := fun t k => pre179 t (by
                                            show Steps p.tables e below (s₁.setTop (mkF m 21 #[.val (.ref a0), .val (.ref a1), .val (.int (19 : Int32)), .val (.int v177)] [(.int v177)])) _
                                            refine XS.ifNo X0.here hx rfl (hb hby d2_21) rfl ((if0 _ _).trans (feq hc180).1) ?_
                                            show Steps p.tables e below (s₁.setTop (mkF m 24 #[.val (.ref a0), .val (.ref a1), .val (.int (19 : Int32)), .val (.int v177)] [])) _
                                            refine XS.bipush X0.here hx rfl (hb hby d2_24) ?_
                                            show Steps p.tables e below (s₁.setTop (mkF m 26 #[.val (.ref a0), .val (.ref a1), .val (.int (19 : Int32)), .val (.int v177)] [(.int (8 : Int32))])) _
                                            refine XS.bipush X0.here hx rfl (hb hby d2_26) ?_
                                            show Steps p.tables e below (s₁.setTop (mkF m 28 #[.val (.ref a0), .val (.ref a1), .val (.int (19 : Int32)), .val (.int v177)] [(.int (32 : Int32)), (.int (8 : Int32))])) _
                                            refine XS.iloadN X0.here hx rfl (hb hby d2_28) rfl ?_
                                            show Steps p.tables e below (s₁.setTop (mkF m 29 #[.val (.ref a0), .val (.ref a1), .val (.int (19 : Int32)), .val (.int v177)] [(.int (19 : Int32)), (.int (32 : Int32)), (.int (8 : Int32))])) _
                                            refine XS.isub X0.here hx rfl (hb hby d2_29) rfl ?_
                                            show Steps p.tables e below (s₁.setTop (mkF m 30 #[.val (.ref a0), .val (.ref a1), .val (.int (19 : Int32)), .val (.int v177)] [(.int (13 : Int32)), (.int (8 : Int32))])) _
                                            refine XS.imul X0.here hx rfl (hb hby d2_30) rfl ?_
                                            show Steps p.tables e below (s₁.setTop (mkF m 31 #[.val (.ref a0), .val (.ref a1), .val (.int (19 : Int32)), .val (.int v177)] [(.int (104 : Int32))])) _
                                            refine XS.iloadN X0.here hx rfl (hb hby d2_31) rfl ?_
                                            exact k)
                                          obtain ⟨_, _, ⟨T314, L314, k314, n314⟩, -, X314, ⟨Lc314, hQ314, l314, y314, z314⟩, st314⟩ := Jvm.LawKit.callS X0 hx (y := (⟨"java/lang/Integer", "numberOfLeadingZeros", "(I)I"⟩ : MethodName)) hown (mvT hZ (hw _ (List.mem_of_getElem? (i := 9) rfl))) (mvT hZ (hw _ (List.mem_of_getElem? (i := 10) rfl))) (mvT hZ (hw _ (List.mem_of_getElem? (i := 11) rfl))) (mvT hZ (hw _ (List.mem_of_getElem? (i := 12) rfl))) (by decide) (backOf (W := 1) (rm3 l Z aw hw [] v177 h0 n0 Z0) hZ (hw _ (List.mem_of_getElem? (i := 12) rfl)) (hw _ (List.mem_of_getElem? (i := 11) rfl)) (by decide) (by decide)) (g := (mkF m 32 #[.val (.ref a0), .val (.ref a1), .val (.int (19 : Int32)), .val (.int v177)] [(.int v177), (.int (104 : Int32))])) rfl (by rw [hml]; rfl) (argsL := [(.int v177)]) (rest := [(.int (104 : Int32))]) (lenOf pd_0 rfl) rfl (by show 2 * 0 + _ ≤ _; exact Nat.le_of_eq rfl) (hb hby d2_32) (fun _ _ => ⟨rfl, e0, (by decide : 0 + 0 ≤ _), (by decide : 0 + 0 ≤ _)⟩)
                                          dsimp only [Pt.U, Pt.locs, Pt.cells, Pt.slots] at X314 l314 y314 z314 st314 hQ314
                                          subst l314 y314 z314
                                          obtain ⟨rfl, N314q, e314⟩ := hQ314
                                          have N314 := Fr.app N0 N314q
                                          obtain ⟨fs, hr, hrun, hended, hW, hsame⟩ := X314.leave (v := some (.int (((104 : Int32) - (f3 v177)) + (23 : Int32)))) (fun h => by rw [Bd.returns] at h; cases h)
                                          refine ⟨_, _, pre313 _ ?_, hrun, hended, _, _, rfl, ?_, ⟨_, rfl⟩, hW, hsame.mono (by decide) (by decide)⟩
                                          · show Steps p.tables e below (s₁.setTop (mkF m 32 #[.val (.ref a0), .val (.ref a1), .val (.int (19 : Int32)), .val (.int v177)] [(.int v177), (.int (104 : Int32))])) _
                                            refine st314 _ ?_
                                            show Steps p.tables e below (T314.setTop (mkF m 35 #[.val (.ref a0), .val (.ref a1), .val (.int (19 : Int32)), .val (.int v177)] [(.int (f3 v177)), (.int (104 : Int32))])) _
                                            refine XS.isub X314.here hx rfl (hb hby d2_35) rfl ?_
                                            show Steps p.tables e below (T314.setTop (mkF m 36 #[.val (.ref a0), .val (.ref a1), .val (.int (19 : Int32)), .val (.int v177)] [(.int ((104 : Int32) - (f3 v177)))])) _
                                            refine XS.bipush X314.here hx rfl (hb hby d2_36) ?_
                                            show Steps p.tables e below (T314.setTop (mkF m 38 #[.val (.ref a0), .val (.ref a1), .val (.int (19 : Int32)), .val (.int v177)] [(.int (23 : Int32)), (.int ((104 : Int32) - (f3 v177)))])) _
                                            refine XS.iadd X314.here hx rfl (hb hby d2_38) rfl ?_
                                            show Steps p.tables e below (T314.setTop (mkF m 39 #[.val (.ref a0), .val (.ref a1), .val (.int (19 : Int32)), .val (.int v177)] [(.int (((104 : Int32) - (f3 v177)) + (23 : Int32)))])) _
                                            exact retI X314 hx Bd.returns (hb hby d2_39) hr
                                          · show Q2 Z a0 a1 ka_a0 vs_a0 ka_a1 vs_a1 h0 n0 _ T314.heap _
                                            rw [e314]
                                            exact ⟨congrArg (fun z => some (Value.int z)) (by subst hv177 hv168 hv159 hv150 hv141 hv132 hv123 hv114 hv105 hv96 hv87 hv78 hv69 hv60 hv51 hv42 hv33 hv24 hv15 hv6; simp only [f2, if_pos hc9, if_pos hc18, if_pos hc27, if_pos hc36, if_pos hc45, if_pos hc54, if_pos hc63, if_pos hc72, if_pos hc81, if_pos hc90, if_pos hc99, if_pos hc108, if_pos hc117, if_pos hc126, if_pos hc135, if_pos hc144, if_pos hc153, if_pos hc162, if_pos hc171, if_neg hc180]), N314, rfl⟩
                                      · have pre315 : ∀ t, Steps p.tables e below (s₁.setTop (mkF m 32 #[.val (.ref a0), .val (.ref a1), .val (.int (18 : Int32)), .val (.int v168)] [(.int v168), (.int (112 : Int32))])) t → Steps p.tables e below (s₁.setTop (entryFrame m #[(.ref a0), (.ref a1)] 4)) t := fun t k => pre170 t (by
                                          show Steps p.tables e below (s₁.setTop (mkF m 21 #[.val (.ref a0), .val (.ref a1), .val (.int (18 : Int32)), .val (.int v168)] [(.int v168)])) _
                                          refine XS.ifNo X0.here hx rfl (hb hby d2_21) rfl ((if0 _ _).trans (feq hc171).1) ?_
                                          show Steps p.tables e below (s₁.setTop (mkF m 24 #[.val (.ref a0), .val (.ref a1), .val (.int (18 : Int32)), .val (.int v168)] [])) _
                                          refine XS.bipush X0.here hx rfl (hb hby d2_24) ?_
                                          show Steps p.tables e below (s₁.setTop (mkF m 26 #[.val (.ref a0), .val (.ref a1), .val (.int (18 : Int32)), .val (.int v168)] [(.int (8 : Int32))])) _
                                          refine XS.bipush X0.here hx rfl (hb hby d2_26) ?_
                                          show Steps p.tables e below (s₁.setTop (mkF m 28 #[.val (.ref a0), .val (.ref a1), .val (.int (18 : Int32)), .val (.int v168)] [(.int (32 : Int32)), (.int (8 : Int32))])) _
                                          refine XS.iloadN X0.here hx rfl (hb hby d2_28) rfl ?_
                                          show Steps p.tables e below (s₁.setTop (mkF m 29 #[.val (.ref a0), .val (.ref a1), .val (.int (18 : Int32)), .val (.int v168)] [(.int (18 : Int32)), (.int (32 : Int32)), (.int (8 : Int32))])) _
                                          refine XS.isub X0.here hx rfl (hb hby d2_29) rfl ?_
                                          show Steps p.tables e below (s₁.setTop (mkF m 30 #[.val (.ref a0), .val (.ref a1), .val (.int (18 : Int32)), .val (.int v168)] [(.int (14 : Int32)), (.int (8 : Int32))])) _
                                          refine XS.imul X0.here hx rfl (hb hby d2_30) rfl ?_
                                          show Steps p.tables e below (s₁.setTop (mkF m 31 #[.val (.ref a0), .val (.ref a1), .val (.int (18 : Int32)), .val (.int v168)] [(.int (112 : Int32))])) _
                                          refine XS.iloadN X0.here hx rfl (hb hby d2_31) rfl ?_
                                          exact k)
                                        obtain ⟨_, _, ⟨T316, L316, k316, n316⟩, -, X316, ⟨Lc316, hQ316, l316, y316, z316⟩, st316⟩ := Jvm.LawKit.callS X0 hx (y := (⟨"java/lang/Integer", "numberOfLeadingZeros", "(I)I"⟩ : MethodName)) hown (mvT hZ (hw _ (List.mem_of_getElem? (i := 9) rfl))) (mvT hZ (hw _ (List.mem_of_getElem? (i := 10) rfl))) (mvT hZ (hw _ (List.mem_of_getElem? (i := 11) rfl))) (mvT hZ (hw _ (List.mem_of_getElem? (i := 12) rfl))) (by decide) (backOf (W := 1) (rm3 l Z aw hw [] v168 h0 n0 Z0) hZ (hw _ (List.mem_of_getElem? (i := 12) rfl)) (hw _ (List.mem_of_getElem? (i := 11) rfl)) (by decide) (by decide)) (g := (mkF m 32 #[.val (.ref a0), .val (.ref a1), .val (.int (18 : Int32)), .val (.int v168)] [(.int v168), (.int (112 : Int32))])) rfl (by rw [hml]; rfl) (argsL := [(.int v168)]) (rest := [(.int (112 : Int32))]) (lenOf pd_0 rfl) rfl (by show 2 * 0 + _ ≤ _; exact Nat.le_of_eq rfl) (hb hby d2_32) (fun _ _ => ⟨rfl, e0, (by decide : 0 + 0 ≤ _), (by decide : 0 + 0 ≤ _)⟩)
                                        dsimp only [Pt.U, Pt.locs, Pt.cells, Pt.slots] at X316 l316 y316 z316 st316 hQ316
                                        subst l316 y316 z316
                                        obtain ⟨rfl, N316q, e316⟩ := hQ316
                                        have N316 := Fr.app N0 N316q
                                        obtain ⟨fs, hr, hrun, hended, hW, hsame⟩ := X316.leave (v := some (.int (((112 : Int32) - (f3 v168)) + (23 : Int32)))) (fun h => by rw [Bd.returns] at h; cases h)
                                        refine ⟨_, _, pre315 _ ?_, hrun, hended, _, _, rfl, ?_, ⟨_, rfl⟩, hW, hsame.mono (by decide) (by decide)⟩
                                        · show Steps p.tables e below (s₁.setTop (mkF m 32 #[.val (.ref a0), .val (.ref a1), .val (.int (18 : Int32)), .val (.int v168)] [(.int v168), (.int (112 : Int32))])) _
                                          refine st316 _ ?_
                                          show Steps p.tables e below (T316.setTop (mkF m 35 #[.val (.ref a0), .val (.ref a1), .val (.int (18 : Int32)), .val (.int v168)] [(.int (f3 v168)), (.int (112 : Int32))])) _
                                          refine XS.isub X316.here hx rfl (hb hby d2_35) rfl ?_
                                          show Steps p.tables e below (T316.setTop (mkF m 36 #[.val (.ref a0), .val (.ref a1), .val (.int (18 : Int32)), .val (.int v168)] [(.int ((112 : Int32) - (f3 v168)))])) _
                                          refine XS.bipush X316.here hx rfl (hb hby d2_36) ?_
                                          show Steps p.tables e below (T316.setTop (mkF m 38 #[.val (.ref a0), .val (.ref a1), .val (.int (18 : Int32)), .val (.int v168)] [(.int (23 : Int32)), (.int ((112 : Int32) - (f3 v168)))])) _
                                          refine XS.iadd X316.here hx rfl (hb hby d2_38) rfl ?_
                                          show Steps p.tables e below (T316.setTop (mkF m 39 #[.val (.ref a0), .val (.ref a1), .val (.int (18 : Int32)), .val (.int v168)] [(.int (((112 : Int32) - (f3 v168)) + (23 : Int32)))])) _
                                          exact retI X316 hx Bd.returns (hb hby d2_39) hr
                                        · show Q2 Z a0 a1 ka_a0 vs_a0 ka_a1 vs_a1 h0 n0 _ T316.heap _
                                          rw [e316]
                                          exact ⟨congrArg (fun z => some (Value.int z)) (by subst hv168 hv159 hv150 hv141 hv132 hv123 hv114 hv105 hv96 hv87 hv78 hv69 hv60 hv51 hv42 hv33 hv24 hv15 hv6; simp only [f2, if_pos hc9, if_pos hc18, if_pos hc27, if_pos hc36, if_pos hc45, if_pos hc54, if_pos hc63, if_pos hc72, if_pos hc81, if_pos hc90, if_pos hc99, if_pos hc108, if_pos hc117, if_pos hc126, if_pos hc135, if_pos hc144, if_pos hc153, if_pos hc162, if_neg hc171]), N316, rfl⟩
                                    · have pre317 : ∀ t, Steps p.tables e below (s₁.setTop (mkF m 32 #[.val (.ref a0), .val (.ref a1), .val (.int (17 : Int32)), .val (.int v159)] [(.int v159), (.int (120 : Int32))])) t → Steps p.tables e below (s₁.setTop (entryFrame m #[(.ref a0), (.ref a1)] 4)) t := fun t k => pre161 t (by
                                        show Steps p.tables e below (s₁.setTop (mkF m 21 #[.val (.ref a0), .val (.ref a1), .val (.int (17 : Int32)), .val (.int v159)] [(.int v159)])) _
                                        refine XS.ifNo X0.here hx rfl (hb hby d2_21) rfl ((if0 _ _).trans (feq hc162).1) ?_
                                        show Steps p.tables e below (s₁.setTop (mkF m 24 #[.val (.ref a0), .val (.ref a1), .val (.int (17 : Int32)), .val (.int v159)] [])) _
                                        refine XS.bipush X0.here hx rfl (hb hby d2_24) ?_
                                        show Steps p.tables e below (s₁.setTop (mkF m 26 #[.val (.ref a0), .val (.ref a1), .val (.int (17 : Int32)), .val (.int v159)] [(.int (8 : Int32))])) _
                                        refine XS.bipush X0.here hx rfl (hb hby d2_26) ?_
                                        show Steps p.tables e below (s₁.setTop (mkF m 28 #[.val (.ref a0), .val (.ref a1), .val (.int (17 : Int32)), .val (.int v159)] [(.int (32 : Int32)), (.int (8 : Int32))])) _
                                        refine XS.iloadN X0.here hx rfl (hb hby d2_28) rfl ?_
                                        show Steps p.tables e below (s₁.setTop (mkF m 29 #[.val (.ref a0), .val (.ref a1), .val (.int (17 : Int32)), .val (.int v159)] [(.int (17 : Int32)), (.int (32 : Int32)), (.int (8 : Int32))])) _
                                        refine XS.isub X0.here hx rfl (hb hby d2_29) rfl ?_
                                        show Steps p.tables e below (s₁.setTop (mkF m 30 #[.val (.ref a0), .val (.ref a1), .val (.int (17 : Int32)), .val (.int v159)] [(.int (15 : Int32)), (.int (8 : Int32))])) _
                                        refine XS.imul X0.here hx rfl (hb hby d2_30) rfl ?_
                                        show Steps p.tables e below (s₁.setTop (mkF m 31 #[.val (.ref a0), .val (.ref a1), .val (.int (17 : Int32)), .val (.int v159)] [(.int (120 : Int32))])) _
                                        refine XS.iloadN X0.here hx rfl (hb hby d2_31) rfl ?_
                                        exact k)
                                      obtain ⟨_, _, ⟨T318, L318, k318, n318⟩, -, X318, ⟨Lc318, hQ318, l318, y318, z318⟩, st318⟩ := Jvm.LawKit.callS X0 hx (y := (⟨"java/lang/Integer", "numberOfLeadingZeros", "(I)I"⟩ : MethodName)) hown (mvT hZ (hw _ (List.mem_of_getElem? (i := 9) rfl))) (mvT hZ (hw _ (List.mem_of_getElem? (i := 10) rfl))) (mvT hZ (hw _ (List.mem_of_getElem? (i := 11) rfl))) (mvT hZ (hw _ (List.mem_of_getElem? (i := 12) rfl))) (by decide) (backOf (W := 1) (rm3 l Z aw hw [] v159 h0 n0 Z0) hZ (hw _ (List.mem_of_getElem? (i := 12) rfl)) (hw _ (List.mem_of_getElem? (i := 11) rfl)) (by decide) (by decide)) (g := (mkF m 32 #[.val (.ref a0), .val (.ref a1), .val (.int (17 : Int32)), .val (.int v159)] [(.int v159), (.int (120 : Int32))])) rfl (by rw [hml]; rfl) (argsL := [(.int v159)]) (rest := [(.int (120 : Int32))]) (lenOf pd_0 rfl) rfl (by show 2 * 0 + _ ≤ _; exact Nat.le_of_eq rfl) (hb hby d2_32) (fun _ _ => ⟨rfl, e0, (by decide : 0 + 0 ≤ _), (by decide : 0 + 0 ≤ _)⟩)
                                      dsimp only [Pt.U, Pt.locs, Pt.cells, Pt.slots] at X318 l318 y318 z318 st318 hQ318
                                      subst l318 y318 z318
                                      obtain ⟨rfl, N318q, e318⟩ := hQ318
                                      have N318 := Fr.app N0 N318q
                                      obtain ⟨fs, hr, hrun, hended, hW, hsame⟩ := X318.leave (v := some (.int (((120 : Int32) - (f3 v159)) + (23 : Int32)))) (fun h => by rw [Bd.returns] at h; cases h)
                                      refine ⟨_, _, pre317 _ ?_, hrun, hended, _, _, rfl, ?_, ⟨_, rfl⟩, hW, hsame.mono (by decide) (by decide)⟩
                                      · show Steps p.tables e below (s₁.setTop (mkF m 32 #[.val (.ref a0), .val (.ref a1), .val (.int (17 : Int32)), .val (.int v159)] [(.int v159), (.int (120 : Int32))])) _
                                        refine st318 _ ?_
                                        show Steps p.tables e below (T318.setTop (mkF m 35 #[.val (.ref a0), .val (.ref a1), .val (.int (17 : Int32)), .val (.int v159)] [(.int (f3 v159)), (.int (120 : Int32))])) _
                                        refine XS.isub X318.here hx rfl (hb hby d2_35) rfl ?_
                                        show Steps p.tables e below (T318.setTop (mkF m 36 #[.val (.ref a0), .val (.ref a1), .val (.int (17 : Int32)), .val (.int v159)] [(.int ((120 : Int32) - (f3 v159)))])) _
                                        refine XS.bipush X318.here hx rfl (hb hby d2_36) ?_
                                        show Steps p.tables e below (T318.setTop (mkF m 38 #[.val (.ref a0), .val (.ref a1), .val (.int (17 : Int32)), .val (.int v159)] [(.int (23 : Int32)), (.int ((120 : Int32) - (f3 v159)))])) _
                                        refine XS.iadd X318.here hx rfl (hb hby d2_38) rfl ?_
                                        show Steps p.tables e below (T318.setTop (mkF m 39 #[.val (.ref a0), .val (.ref a1), .val (.int (17 : Int32)), .val (.int v159)] [(.int (((120 : Int32) - (f3 v159)) + (23 : Int32)))])) _
                                        exact retI X318 hx Bd.returns (hb hby d2_39) hr
                                      · show Q2 Z a0 a1 ka_a0 vs_a0 ka_a1 vs_a1 h0 n0 _ T318.heap _
                                        rw [e318]
                                        exact ⟨congrArg (fun z => some (Value.int z)) (by subst hv159 hv150 hv141 hv132 hv123 hv114 hv105 hv96 hv87 hv78 hv69 hv60 hv51 hv42 hv33 hv24 hv15 hv6; simp only [f2, if_pos hc9, if_pos hc18, if_pos hc27, if_pos hc36, if_pos hc45, if_pos hc54, if_pos hc63, if_pos hc72, if_pos hc81, if_pos hc90, if_pos hc99, if_pos hc108, if_pos hc117, if_pos hc126, if_pos hc135, if_pos hc144, if_pos hc153, if_neg hc162]), N318, rfl⟩
                                  · have pre319 : ∀ t, Steps p.tables e below (s₁.setTop (mkF m 32 #[.val (.ref a0), .val (.ref a1), .val (.int (16 : Int32)), .val (.int v150)] [(.int v150), (.int (128 : Int32))])) t → Steps p.tables e below (s₁.setTop (entryFrame m #[(.ref a0), (.ref a1)] 4)) t := fun t k => pre152 t (by
                                      show Steps p.tables e below (s₁.setTop (mkF m 21 #[.val (.ref a0), .val (.ref a1), .val (.int (16 : Int32)), .val (.int v150)] [(.int v150)])) _
                                      refine XS.ifNo X0.here hx rfl (hb hby d2_21) rfl ((if0 _ _).trans (feq hc153).1) ?_
                                      show Steps p.tables e below (s₁.setTop (mkF m 24 #[.val (.ref a0), .val (.ref a1), .val (.int (16 : Int32)), .val (.int v150)] [])) _
                                      refine XS.bipush X0.here hx rfl (hb hby d2_24) ?_
                                      show Steps p.tables e below (s₁.setTop (mkF m 26 #[.val (.ref a0), .val (.ref a1), .val (.int (16 : Int32)), .val (.int v150)] [(.int (8 : Int32))])) _
                                      refine XS.bipush X0.here hx rfl (hb hby d2_26) ?_
                                      show Steps p.tables e below (s₁.setTop (mkF m 28 #[.val (.ref a0), .val (.ref a1), .val (.int (16 : Int32)), .val (.int v150)] [(.int (32 : Int32)), (.int (8 : Int32))])) _
                                      refine XS.iloadN X0.here hx rfl (hb hby d2_28) rfl ?_
                                      show Steps p.tables e below (s₁.setTop (mkF m 29 #[.val (.ref a0), .val (.ref a1), .val (.int (16 : Int32)), .val (.int v150)] [(.int (16 : Int32)), (.int (32 : Int32)), (.int (8 : Int32))])) _
                                      refine XS.isub X0.here hx rfl (hb hby d2_29) rfl ?_
                                      show Steps p.tables e below (s₁.setTop (mkF m 30 #[.val (.ref a0), .val (.ref a1), .val (.int (16 : Int32)), .val (.int v150)] [(.int (16 : Int32)), (.int (8 : Int32))])) _
                                      refine XS.imul X0.here hx rfl (hb hby d2_30) rfl ?_
                                      show Steps p.tables e below (s₁.setTop (mkF m 31 #[.val (.ref a0), .val (.ref a1), .val (.int (16 : Int32)), .val (.int v150)] [(.int (128 : Int32))])) _
                                      refine XS.iloadN X0.here hx rfl (hb hby d2_31) rfl ?_
                                      exact k)
                                    obtain ⟨_, _, ⟨T320, L320, k320, n320⟩, -, X320, ⟨Lc320, hQ320, l320, y320, z320⟩, st320⟩ := Jvm.LawKit.callS X0 hx (y := (⟨"java/lang/Integer", "numberOfLeadingZeros", "(I)I"⟩ : MethodName)) hown (mvT hZ (hw _ (List.mem_of_getElem? (i := 9) rfl))) (mvT hZ (hw _ (List.mem_of_getElem? (i := 10) rfl))) (mvT hZ (hw _ (List.mem_of_getElem? (i := 11) rfl))) (mvT hZ (hw _ (List.mem_of_getElem? (i := 12) rfl))) (by decide) (backOf (W := 1) (rm3 l Z aw hw [] v150 h0 n0 Z0) hZ (hw _ (List.mem_of_getElem? (i := 12) rfl)) (hw _ (List.mem_of_getElem? (i := 11) rfl)) (by decide) (by decide)) (g := (mkF m 32 #[.val (.ref a0), .val (.ref a1), .val (.int (16 : Int32)), .val (.int v150)] [(.int v150), (.int (128 : Int32))])) rfl (by rw [hml]; rfl) (argsL := [(.int v150)]) (rest := [(.int (128 : Int32))]) (lenOf pd_0 rfl) rfl (by show 2 * 0 + _ ≤ _; exact Nat.le_of_eq rfl) (hb hby d2_32) (fun _ _ => ⟨rfl, e0, (by decide : 0 + 0 ≤ _), (by decide : 0 + 0 ≤ _)⟩)
                                    dsimp only [Pt.U, Pt.locs, Pt.cells, Pt.slots] at X320 l320 y320 z320 st320 hQ320
                                    subst l320 y320 z320
                                    obtain ⟨rfl, N320q, e320⟩ := hQ320
                                    have N320 := Fr.app N0 N320q
                                    obtain ⟨fs, hr, hrun, hended, hW, hsame⟩ := X320.leave (v := some (.int (((128 : Int32) - (f3 v150)) + (23 : Int32)))) (fun h => by rw [Bd.returns] at h; cases h)
                                    refine ⟨_, _, pre319 _ ?_, hrun, hended, _, _, rfl, ?_, ⟨_, rfl⟩, hW, hsame.mono (by decide) (by decide)⟩
                                    · show Steps p.tables e below (s₁.setTop (mkF m 32 #[.val (.ref a0), .val (.ref a1), .val (.int (16 : Int32)), .val (.int v150)] [(.int v150), (.int (128 : Int32))])) _
                                      refine st320 _ ?_
                                      show Steps p.tables e below (T320.setTop (mkF m 35 #[.val (.ref a0), .val (.ref a1), .val (.int (16 : Int32)), .val (.int v150)] [(.int (f3 v150)), (.int (128 : Int32))])) _
                                      refine XS.isub X320.here hx rfl (hb hby d2_35) rfl ?_
                                      show Steps p.tables e below (T320.setTop (mkF m 36 #[.val (.ref a0), .val (.ref a1), .val (.int (16 : Int32)), .val (.int v150)] [(.int ((128 : Int32) - (f3 v150)))])) _
                                      refine XS.bipush X320.here hx rfl (hb hby d2_36) ?_
                                      show Steps p.tables e below (T320.setTop (mkF m 38 #[.val (.ref a0), .val (.ref a1), .val (.int (16 : Int32)), .val (.int v150)] [(.int (23 : Int32)), (.int ((128 : Int32) - (f3 v150)))])) _
                                      refine XS.iadd X320.here hx rfl (hb hby d2_38) rfl ?_
                                      show Steps p.tables e below (T320.setTop (mkF m 39 #[.val (.ref a0), .val (.ref a1), .val (.int (16 : Int32)), .val (.int v150)] [(.int (((128 : Int32) - (f3 v150)) + (23 : Int32)))])) _
                                      exact retI X320 hx Bd.returns (hb hby d2_39) hr
                                    · show Q2 Z a0 a1 ka_a0 vs_a0 ka_a1 vs_a1 h0 n0 _ T320.heap _
                                      rw [e320]
                                      exact ⟨congrArg (fun z => some (Value.int z)) (by subst hv150 hv141 hv132 hv123 hv114 hv105 hv96 hv87 hv78 hv69 hv60 hv51 hv42 hv33 hv24 hv15 hv6; simp only [f2, if_pos hc9, if_pos hc18, if_pos hc27, if_pos hc36, if_pos hc45, if_pos hc54, if_pos hc63, if_pos hc72, if_pos hc81, if_pos hc90, if_pos hc99, if_pos hc108, if_pos hc117, if_pos hc126, if_pos hc135, if_pos hc144, if_neg hc153]), N320, rfl⟩
                                · have pre321 : ∀ t, Steps p.tables e below (s₁.setTop (mkF m 32 #[.val (.ref a0), .val (.ref a1), .val (.int (15 : Int32)), .val (.int v141)] [(.int v141), (.int (136 : Int32))])) t → Steps p.tables e below (s₁.setTop (entryFrame m #[(.ref a0), (.ref a1)] 4)) t := fun t k => pre143 t (by
                                    show Steps p.tables e below (s₁.setTop (mkF m 21 #[.val (.ref a0), .val (.ref a1), .val (.int (15 : Int32)), .val (.int v141)] [(.int v141)])) _
                                    refine XS.ifNo X0.here hx rfl (hb hby d2_21) rfl ((if0 _ _).trans (feq hc144).1) ?_
                                    show Steps p.tables e below (s₁.setTop (mkF m 24 #[.val (.ref a0), .val (.ref a1), .val (.int (15 : Int32)), .val (.int v141)] [])) _
                                    refine XS.bipush X0.here hx rfl (hb hby d2_24) ?_
                                    show Steps p.tables e below (s₁.setTop (mkF m 26 #[.val (.ref a0), .val (.ref a1), .val (.int (15 : Int32)), .val (.int v141)] [(.int (8 : Int32))])) _
                                    refine XS.bipush X0.here hx rfl (hb hby d2_26) ?_
                                    show Steps p.tables e below (s₁.setTop (mkF m 28 #[.val (.ref a0), .val (.ref a1), .val (.int (15 : Int32)), .val (.int v141)] [(.int (32 : Int32)), (.int (8 : Int32))])) _
                                    refine XS.iloadN X0.here hx rfl (hb hby d2_28) rfl ?_
                                    show Steps p.tables e below (s₁.setTop (mkF m 29 #[.val (.ref a0), .val (.ref a1), .val (.int (15 : Int32)), .val (.int v141)] [(.int (15 : Int32)), (.int (32 : Int32)), (.int (8 : Int32))])) _
                                    refine XS.isub X0.here hx rfl (hb hby d2_29) rfl ?_
                                    show Steps p.tables e below (s₁.setTop (mkF m 30 #[.val (.ref a0), .val (.ref a1), .val (.int (15 : Int32)), .val (.int v141)] [(.int (17 : Int32)), (.int (8 : Int32))])) _
                                    refine XS.imul X0.here hx rfl (hb hby d2_30) rfl ?_
                                    show Steps p.tables e below (s₁.setTop (mkF m 31 #[.val (.ref a0), .val (.ref a1), .val (.int (15 : Int32)), .val (.int v141)] [(.int (136 : Int32))])) _
                                    refine XS.iloadN X0.here hx rfl (hb hby d2_31) rfl ?_
                                    exact k)
                                  obtain ⟨_, _, ⟨T322, L322, k322, n322⟩, -, X322, ⟨Lc322, hQ322, l322, y322, z322⟩, st322⟩ := Jvm.LawKit.callS X0 hx (y := (⟨"java/lang/Integer", "numberOfLeadingZeros", "(I)I"⟩ : MethodName)) hown (mvT hZ (hw _ (List.mem_of_getElem? (i := 9) rfl))) (mvT hZ (hw _ (List.mem_of_getElem? (i := 10) rfl))) (mvT hZ (hw _ (List.mem_of_getElem? (i := 11) rfl))) (mvT hZ (hw _ (List.mem_of_getElem? (i := 12) rfl))) (by decide) (backOf (W := 1) (rm3 l Z aw hw [] v141 h0 n0 Z0) hZ (hw _ (List.mem_of_getElem? (i := 12) rfl)) (hw _ (List.mem_of_getElem? (i := 11) rfl)) (by decide) (by decide)) (g := (mkF m 32 #[.val (.ref a0), .val (.ref a1), .val (.int (15 : Int32)), .val (.int v141)] [(.int v141), (.int (136 : Int32))])) rfl (by rw [hml]; rfl) (argsL := [(.int v141)]) (rest := [(.int (136 : Int32))]) (lenOf pd_0 rfl) rfl (by show 2 * 0 + _ ≤ _; exact Nat.le_of_eq rfl) (hb hby d2_32) (fun _ _ => ⟨rfl, e0, (by decide : 0 + 0 ≤ _), (by decide : 0 + 0 ≤ _)⟩)
                                  dsimp only [Pt.U, Pt.locs, Pt.cells, Pt.slots] at X322 l322 y322 z322 st322 hQ322
                                  subst l322 y322 z322
                                  obtain ⟨rfl, N322q, e322⟩ := hQ322
                                  have N322 := Fr.app N0 N322q
                                  obtain ⟨fs, hr, hrun, hended, hW, hsame⟩ := X322.leave (v := some (.int (((136 : Int32) - (f3 v141)) + (23 : Int32)))) (fun h => by rw [Bd.returns] at h; cases h)
                                  refine ⟨_, _, pre321 _ ?_, hrun, hended, _, _, rfl, ?_, ⟨_, rfl⟩, hW, hsame.mono (by decide) (by decide)⟩
                                  · show Steps p.tables e below (s₁.setTop (mkF m 32 #[.val (.ref a0), .val (.ref a1), .val (.int (15 : Int32)), .val (.int v141)] [(.int v141), (.int (136 : Int32))])) _
                                    refine st322 _ ?_
                                    show Steps p.tables e below (T322.setTop (mkF m 35 #[.val (.ref a0), .val (.ref a1), .val (.int (15 : Int32)), .val (.int v141)] [(.int (f3 v141)), (.int (136 : Int32))])) _
                                    refine XS.isub X322.here hx rfl (hb hby d2_35) rfl ?_
                                    show Steps p.tables e below (T322.setTop (mkF m 36 #[.val (.ref a0), .val (.ref a1), .val (.int (15 : Int32)), .val (.int v141)] [(.int ((136 : Int32) - (f3 v141)))])) _
                                    refine XS.bipush X322.here hx rfl (hb hby d2_36) ?_
                                    show Steps p.tables e below (T322.setTop (mkF m 38 #[.val (.ref a0), .val (.ref a1), .val (.int (15 : Int32)), .val (.int v141)] [(.int (23 : Int32)), (.int ((136 : Int32) - (f3 v141)))])) _
                                    refine XS.iadd X322.here hx rfl (hb hby d2_38) rfl ?_
                                    show Steps p.tables e below (T322.setTop (mkF m 39 #[.val (.ref a0), .val (.ref a1), .val (.int (15 : Int32)), .val (.int v141)] [(.int (((136 : Int32) - (f3 v141)) + (23 : Int32)))])) _
                                    exact retI X322 hx Bd.returns (hb hby d2_39) hr
                                  · show Q2 Z a0 a1 ka_a0 vs_a0 ka_a1 vs_a1 h0 n0 _ T322.heap _
                                    rw [e322]
                                    exact ⟨congrArg (fun z => some (Value.int z)) (by subst hv141 hv132 hv123 hv114 hv105 hv96 hv87 hv78 hv69 hv60 hv51 hv42 hv33 hv24 hv15 hv6; simp only [f2, if_pos hc9, if_pos hc18, if_pos hc27, if_pos hc36, if_pos hc45, if_pos hc54, if_pos hc63, if_pos hc72, if_pos hc81, if_pos hc90, if_pos hc99, if_pos hc108, if_pos hc117, if_pos hc126, if_pos hc135, if_neg hc144]), N322, rfl⟩
                              · have pre323 : ∀ t, Steps p.tables e below (s₁.setTop (mkF m 32 #[.val (.ref a0), .val (.ref a1), .val (.int (14 : Int32)), .val (.int v132)] [(.int v132), (.int (144 : Int32))])) t → Steps p.tables e below (s₁.setTop (entryFrame m #[(.ref a0), (.ref a1)] 4)) t := fun t k => pre134 t (by
                                  show Steps p.tables e below (s₁.setTop (mkF m 21 #[.val (.ref a0), .val (.ref a1), .val (.int (14 : Int32)), .val (.int v132)] [(.int v132)])) _
                                  refine XS.ifNo X0.here hx rfl (hb hby d2_21) rfl ((if0 _ _).trans (feq hc135).1) ?_
                                  show Steps p.tables e below (s₁.setTop (mkF m 24 #[.val (.ref a0), .val (.ref a1), .val (.int (14 : Int32)), .val (.int v132)] [])) _
                                  refine XS.bipush X0.here hx rfl (hb hby d2_24) ?_
                                  show Steps p.tables e below (s₁.setTop (mkF m 26 #[.val (.ref a0), .val (.ref a1), .val (.int (14 : Int32)), .val (.int v132)] [(.int (8 : Int32))])) _
                                  refine XS.bipush X0.here hx rfl (hb hby d2_26) ?_
                                  show Steps p.tables e below (s₁.setTop (mkF m 28 #[.val (.ref a0), .val (.ref a1), .val (.int (14 : Int32)), .val (.int v132)] [(.int (32 : Int32)), (.int (8 : Int32))])) _
                                  refine XS.iloadN X0.here hx rfl (hb hby d2_28) rfl ?_
                                  show Steps p.tables e below (s₁.setTop (mkF m 29 #[.val (.ref a0), .val (.ref a1), .val (.int (14 : Int32)), .val (.int v132)] [(.int (14 : Int32)), (.int (32 : Int32)), (.int (8 : Int32))])) _
                                  refine XS.isub X0.here hx rfl (hb hby d2_29) rfl ?_
                                  show Steps p.tables e below (s₁.setTop (mkF m 30 #[.val (.ref a0), .val (.ref a1), .val (.int (14 : Int32)), .val (.int v132)] [(.int (18 : Int32)), (.int (8 : Int32))])) _
                                  refine XS.imul X0.here hx rfl (hb hby d2_30) rfl ?_
                                  show Steps p.tables e below (s₁.setTop (mkF m 31 #[.val (.ref a0), .val (.ref a1), .val (.int (14 : Int32)), .val (.int v132)] [(.int (144 : Int32))])) _
                                  refine XS.iloadN X0.here hx rfl (hb hby d2_31) rfl ?_
                                  exact k)
                                obtain ⟨_, _, ⟨T324, L324, k324, n324⟩, -, X324, ⟨Lc324, hQ324, l324, y324, z324⟩, st324⟩ := Jvm.LawKit.callS X0 hx (y := (⟨"java/lang/Integer", "numberOfLeadingZeros", "(I)I"⟩ : MethodName)) hown (mvT hZ (hw _ (List.mem_of_getElem? (i := 9) rfl))) (mvT hZ (hw _ (List.mem_of_getElem? (i := 10) rfl))) (mvT hZ (hw _ (List.mem_of_getElem? (i := 11) rfl))) (mvT hZ (hw _ (List.mem_of_getElem? (i := 12) rfl))) (by decide) (backOf (W := 1) (rm3 l Z aw hw [] v132 h0 n0 Z0) hZ (hw _ (List.mem_of_getElem? (i := 12) rfl)) (hw _ (List.mem_of_getElem? (i := 11) rfl)) (by decide) (by decide)) (g := (mkF m 32 #[.val (.ref a0), .val (.ref a1), .val (.int (14 : Int32)), .val (.int v132)] [(.int v132), (.int (144 : Int32))])) rfl (by rw [hml]; rfl) (argsL := [(.int v132)]) (rest := [(.int (144 : Int32))]) (lenOf pd_0 rfl) rfl (by show 2 * 0 + _ ≤ _; exact Nat.le_of_eq rfl) (hb hby d2_32) (fun _ _ => ⟨rfl, e0, (by decide : 0 + 0 ≤ _), (by decide : 0 + 0 ≤ _)⟩)
                                dsimp only [Pt.U, Pt.locs, Pt.cells, Pt.slots] at X324 l324 y324 z324 st324 hQ324
                                subst l324 y324 z324
                                obtain ⟨rfl, N324q, e324⟩ := hQ324
                                have N324 := Fr.app N0 N324q
                                obtain ⟨fs, hr, hrun, hended, hW, hsame⟩ := X324.leave (v := some (.int (((144 : Int32) - (f3 v132)) + (23 : Int32)))) (fun h => by rw [Bd.returns] at h; cases h)
                                refine ⟨_, _, pre323 _ ?_, hrun, hended, _, _, rfl, ?_, ⟨_, rfl⟩, hW, hsame.mono (by decide) (by decide)⟩
                                · show Steps p.tables e below (s₁.setTop (mkF m 32 #[.val (.ref a0), .val (.ref a1), .val (.int (14 : Int32)), .val (.int v132)] [(.int v132), (.int (144 : Int32))])) _
                                  refine st324 _ ?_
                                  show Steps p.tables e below (T324.setTop (mkF m 35 #[.val (.ref a0), .val (.ref a1), .val (.int (14 : Int32)), .val (.int v132)] [(.int (f3 v132)), (.int (144 : Int32))])) _
                                  refine XS.isub X324.here hx rfl (hb hby d2_35) rfl ?_
                                  show Steps p.tables e below (T324.setTop (mkF m 36 #[.val (.ref a0), .val (.ref a1), .val (.int (14 : Int32)), .val (.int v132)] [(.int ((144 : Int32) - (f3 v132)))])) _
                                  refine XS.bipush X324.here hx rfl (hb hby d2_36) ?_
                                  show Steps p.tables e below (T324.setTop (mkF m 38 #[.val (.ref a0), .val (.ref a1), .val (.int (14 : Int32)), .val (.int v132)] [(.int (23 : Int32)), (.int ((144 : Int32) - (f3 v132)))])) _
                                  refine XS.iadd X324.here hx rfl (hb hby d2_38) rfl ?_
                                  show Steps p.tables e below (T324.setTop (mkF m 39 #[.val (.ref a0), .val (.ref a1), .val (.int (14 : Int32)), .val (.int v132)] [(.int (((144 : Int32) - (f3 v132)) + (23 : Int32)))])) _
                                  exact retI X324 hx Bd.returns (hb hby d2_39) hr
                                · show Q2 Z a0 a1 ka_a0 vs_a0 ka_a1 vs_a1 h0 n0 _ T324.heap _
                                  rw [e324]
                                  exact ⟨congrArg (fun z => some (Value.int z)) (by subst hv132 hv123 hv114 hv105 hv96 hv87 hv78 hv69 hv60 hv51 hv42 hv33 hv24 hv15 hv6; simp only [f2, if_pos hc9, if_pos hc18, if_pos hc27, if_pos hc36, if_pos hc45, if_pos hc54, if_pos hc63, if_pos hc72, if_pos hc81, if_pos hc90, if_pos hc99, if_pos hc108, if_pos hc117, if_pos hc126, if_neg hc135]), N324, rfl⟩
                            · have pre325 : ∀ t, Steps p.tables e below (s₁.setTop (mkF m 32 #[.val (.ref a0), .val (.ref a1), .val (.int (13 : Int32)), .val (.int v123)] [(.int v123), (.int (152 : Int32))])) t → Steps p.tables e below (s₁.setTop (entryFrame m #[(.ref a0), (.ref a1)] 4)) t := fun t k => pre125 t (by
                                show Steps p.tables e below (s₁.setTop (mkF m 21 #[.val (.ref a0), .val (.ref a1), .val (.int (13 : Int32)), .val (.int v123)] [(.int v123)])) _
                                refine XS.ifNo X0.here hx rfl (hb hby d2_21) rfl ((if0 _ _).trans (feq hc126).1) ?_
                                show Steps p.tables e below (s₁.setTop (mkF m 24 #[.val (.ref a0), .val (.ref a1), .val (.int (13 : Int32)), .val (.int v123)] [])) _
                                refine XS.bipush X0.here hx rfl (hb hby d2_24) ?_
                                show Steps p.tables e below (s₁.setTop (mkF m 26 #[.val (.ref a0), .val (.ref a1), .val (.int (13 : Int32)), .val (.int v123)] [(.int (8 : Int32))])) _
                                refine XS.bipush X0.here hx rfl (hb hby d2_26) ?_
                                show Steps p.tables e below (s₁.setTop (mkF m 28 #[.val (.ref a0), .val (.ref a1), .val (.int (13 : Int32)), .val (.int v123)] [(.int (32 : Int32)), (.int (8 : Int32))])) _
                                refine XS.iloadN X0.here hx rfl (hb hby d2_28) rfl ?_
                                show Steps p.tables e below (s₁.setTop (mkF m 29 #[.val (.ref a0), .val (.ref a1), .val (.int (13 : Int32)), .val (.int v123)] [(.int (13 : Int32)), (.int (32 : Int32)), (.int (8 : Int32))])) _
                                refine XS.isub X0.here hx rfl (hb hby d2_29) rfl ?_
                                show Steps p.tables e below (s₁.setTop (mkF m 30 #[.val (.ref a0), .val (.ref a1), .val (.int (13 : Int32)), .val (.int v123)] [(.int (19 : Int32)), (.int (8 : Int32))])) _
                                refine XS.imul X0.here hx rfl (hb hby d2_30) rfl ?_
                                show Steps p.tables e below (s₁.setTop (mkF m 31 #[.val (.ref a0), .val (.ref a1), .val (.int (13 : Int32)), .val (.int v123)] [(.int (152 : Int32))])) _
                                refine XS.iloadN X0.here hx rfl (hb hby d2_31) rfl ?_
                                exact k)
                              obtain ⟨_, _, ⟨T326, L326, k326, n326⟩, -, X326, ⟨Lc326, hQ326, l326, y326, z326⟩, st326⟩ := Jvm.LawKit.callS X0 hx (y := (⟨"java/lang/Integer", "numberOfLeadingZeros", "(I)I"⟩ : MethodName)) hown (mvT hZ (hw _ (List.mem_of_getElem? (i := 9) rfl))) (mvT hZ (hw _ (List.mem_of_getElem? (i := 10) rfl))) (mvT hZ (hw _ (List.mem_of_getElem? (i := 11) rfl))) (mvT hZ (hw _ (List.mem_of_getElem? (i := 12) rfl))) (by decide) (backOf (W := 1) (rm3 l Z aw hw [] v123 h0 n0 Z0) hZ (hw _ (List.mem_of_getElem? (i := 12) rfl)) (hw _ (List.mem_of_getElem? (i := 11) rfl)) (by decide) (by decide)) (g := (mkF m 32 #[.val (.ref a0), .val (.ref a1), .val (.int (13 : Int32)), .val (.int v123)] [(.int v123), (.int (152 : Int32))])) rfl (by rw [hml]; rfl) (argsL := [(.int v123)]) (rest := [(.int (152 : Int32))]) (lenOf pd_0 rfl) rfl (by show 2 * 0 + _ ≤ _; exact Nat.le_of_eq rfl) (hb hby d2_32) (fun _ _ => ⟨rfl, e0, (by decide : 0 + 0 ≤ _), (by decide : 0 + 0 ≤ _)⟩)
                              dsimp only [Pt.U, Pt.locs, Pt.cells, Pt.slots] at X326 l326 y326 z326 st326 hQ326
                              subst l326 y326 z326
                              obtain ⟨rfl, N326q, e326⟩ := hQ326
                              have N326 := Fr.app N0 N326q
                              obtain ⟨fs, hr, hrun, hended, hW, hsame⟩ := X326.leave (v := some (.int (((152 : Int32) - (f3 v123)) + (23 : Int32)))) (fun h => by rw [Bd.returns] at h; cases h)
                              refine ⟨_, _, pre325 _ ?_, hrun, hended, _, _, rfl, ?_, ⟨_, rfl⟩, hW, hsame.mono (by decide) (by decide)⟩
                              · show Steps p.tables e below (s₁.setTop (mkF m 32 #[.val (.ref a0), .val (.ref a1), .val (.int (13 : Int32)), .val (.int v123)] [(.int v123), (.int (152 : Int32))])) _
                                refine st326 _ ?_
                                show Steps p.tables e below (T326.setTop (mkF m 35 #[.val (.ref a0), .val (.ref a1), .val (.int (13 : Int32)), .val (.int v123)] [(.int (f3 v123)), (.int (152 : Int32))])) _
                                refine XS.isub X326.here hx rfl (hb hby d2_35) rfl ?_
                                show Steps p.tables e below (T326.setTop (mkF m 36 #[.val (.ref a0), .val (.ref a1), .val (.int (13 : Int32)), .val (.int v123)] [(.int ((152 : Int32) - (f3 v123)))])) _
                                refine XS.bipush X326.here hx rfl (hb hby d2_36) ?_
                                show Steps p.tables e below (T326.setTop (mkF m 38 #[.val (.ref a0), .val (.ref a1), .val (.int (13 : Int32)), .val (.int v123)] [(.int (23 : Int32)), (.int ((152 : Int32) - (f3 v123)))])) _
                                refine XS.iadd X326.here hx rfl (hb hby d2_38) rfl ?_
                                show Steps p.tables e below (T326.setTop (mkF m 39 #[.val (.ref a0), .val (.ref a1), .val (.int (13 : Int32)), .val (.int v123)] [(.int (((152 : Int32) - (f3 v123)) + (23 : Int32)))])) _
                                exact retI X326 hx Bd.returns (hb hby d2_39) hr
                              · show Q2 Z a0 a1 ka_a0 vs_a0 ka_a1 vs_a1 h0 n0 _ T326.heap _
                                rw [e326]
                                exact ⟨congrArg (fun z => some (Value.int z)) (by subst hv123 hv114 hv105 hv96 hv87 hv78 hv69 hv60 hv51 hv42 hv33 hv24 hv15 hv6; simp only [f2, if_pos hc9, if_pos hc18, if_pos hc27, if_pos hc36, if_pos hc45, if_pos hc54, if_pos hc63, if_pos hc72, if_pos hc81, if_pos hc90, if_pos hc99, if_pos hc108, if_pos hc117, if_neg hc126]), N326, rfl⟩
                          · have pre327 : ∀ t, Steps p.tables e below (s₁.setTop (mkF m 32 #[.val (.ref a0), .val (.ref a1), .val (.int (12 : Int32)), .val (.int v114)] [(.int v114), (.int (160 : Int32))])) t → Steps p.tables e below (s₁.setTop (entryFrame m #[(.ref a0), (.ref a1)] 4)) t := fun t k => pre116 t (by
                              show Steps p.tables e below (s₁.setTop (mkF m 21 #[.val (.ref a0), .val (.ref a1), .val (.int (12 : Int32)), .val (.int v114)] [(.int v114)])) _
                              refine XS.ifNo X0.here hx rfl (hb hby d2_21) rfl ((if0 _ _).trans (feq hc117).1) ?_
                              show Steps p.tables e below (s₁.setTop (mkF m 24 #[.val (.ref a0), .val (.ref a1), .val (.int (12 : Int32)), .val (.int v114)] [])) _
                              refine XS.bipush X0.here hx rfl (hb hby d2_24) ?_
                              show Steps p.tables e below (s₁.setTop (mkF m 26 #[.val (.ref a0), .val (.ref a1), .val (.int (12 : Int32)), .val (.int v114)] [(.int (8 : Int32))])) _
                              refine XS.bipush X0.here hx rfl (hb hby d2_26) ?_
                              show Steps p.tables e below (s₁.setTop (mkF m 28 #[.val (.ref a0), .val (.ref a1), .val (.int (12 : Int32)), .val (.int v114)] [(.int (32 : Int32)), (.int (8 : Int32))])) _
                              refine XS.iloadN X0.here hx rfl (hb hby d2_28) rfl ?_
                              show Steps p.tables e below (s₁.setTop (mkF m 29 #[.val (.ref a0), .val (.ref a1), .val (.int (12 : Int32)), .val (.int v114)] [(.int (12 : Int32)), (.int (32 : Int32)), (.int (8 : Int32))])) _
                              refine XS.isub X0.here hx rfl (hb hby d2_29) rfl ?_
                              show Steps p.tables e below (s₁.setTop (mkF m 30 #[.val (.ref a0), .val (.ref a1), .val (.int (12 : Int32)), .val (.int v114)] [(.int (20 : Int32)), (.int (8 : Int32))])) _
                              refine XS.imul X0.here hx rfl (hb hby d2_30) rfl ?_
                              show Steps p.tables e below (s₁.setTop (mkF m 31 #[.val (.ref a0), .val (.ref a1), .val (.int (12 : Int32)), .val (.int v114)] [(.int (160 : Int32))])) _
                              refine XS.iloadN X0.here hx rfl (hb hby d2_31) rfl ?_
                              exact k)
                            obtain ⟨_, _, ⟨T328, L328, k328, n328⟩, -, X328, ⟨Lc328, hQ328, l328, y328, z328⟩, st328⟩ := Jvm.LawKit.callS X0 hx (y := (⟨"java/lang/Integer", "numberOfLeadingZeros", "(I)I"⟩ : MethodName)) hown (mvT hZ (hw _ (List.mem_of_getElem? (i := 9) rfl))) (mvT hZ (hw _ (List.mem_of_getElem? (i := 10) rfl))) (mvT hZ (hw _ (List.mem_of_getElem? (i := 11) rfl))) (mvT hZ (hw _ (List.mem_of_getElem? (i := 12) rfl))) (by decide) (backOf (W := 1) (rm3 l Z aw hw [] v114 h0 n0 Z0) hZ (hw _ (List.mem_of_getElem? (i := 12) rfl)) (hw _ (List.mem_of_getElem? (i := 11) rfl)) (by decide) (by decide)) (g := (mkF m 32 #[.val (.ref a0), .val (.ref a1), .val (.int (12 : Int32)), .val (.int v114)] [(.int v114), (.int (160 : Int32))])) rfl (by rw [hml]; rfl) (argsL := [(.int v114)]) (rest := [(.int (160 : Int32))]) (lenOf pd_0 rfl) rfl (by show 2 * 0 + _ ≤ _; exact Nat.le_of_eq rfl) (hb hby d2_32) (fun _ _ => ⟨rfl, e0, (by decide : 0 + 0 ≤ _), (by decide : 0 + 0 ≤ _)⟩)
                            dsimp only [Pt.U, Pt.locs, Pt.cells, Pt.slots] at X328 l328 y328 z328 st328 hQ328
                            subst l328 y328 z328
                            obtain ⟨rfl, N328q, e328⟩ := hQ328
                            have N328 := Fr.app N0 N328q
                            obtain ⟨fs, hr, hrun, hended, hW, hsame⟩ := X328.leave (v := some (.int (((160 : Int32) - (f3 v114)) + (23 : Int32)))) (fun h => by rw [Bd.returns] at h; cases h)
                            refine ⟨_, _, pre327 _ ?_, hrun, hended, _, _, rfl, ?_, ⟨_, rfl⟩, hW, hsame.mono (by decide) (by decide)⟩
                            · show Steps p.tables e below (s₁.setTop (mkF m 32 #[.val (.ref a0), .val (.ref a1), .val (.int (12 : Int32)), .val (.int v114)] [(.int v114), (.int (160 : Int32))])) _
                              refine st328 _ ?_
                              show Steps p.tables e below (T328.setTop (mkF m 35 #[.val (.ref a0), .val (.ref a1), .val (.int (12 : Int32)), .val (.int v114)] [(.int (f3 v114)), (.int (160 : Int32))])) _
                              refine XS.isub X328.here hx rfl (hb hby d2_35) rfl ?_
                              show Steps p.tables e below (T328.setTop (mkF m 36 #[.val (.ref a0), .val (.ref a1), .val (.int (12 : Int32)), .val (.int v114)] [(.int ((160 : Int32) - (f3 v114)))])) _
                              refine XS.bipush X328.here hx rfl (hb hby d2_36) ?_
                              show Steps p.tables e below (T328.setTop (mkF m 38 #[.val (.ref a0), .val (.ref a1), .val (.int (12 : Int32)), .val (.int v114)] [(.int (23 : Int32)), (.int ((160 : Int32) - (f3 v114)))])) _
                              refine XS.iadd X328.here hx rfl (hb hby d2_38) rfl ?_
                              show Steps p.tables e below (T328.setTop (mkF m 39 #[.val (.ref a0), .val (.ref a1), .val (.int (12 : Int32)), .val (.int v114)] [(.int (((160 : Int32) - (f3 v114)) + (23 : Int32)))])) _
                              exact retI X328 hx Bd.returns (hb hby d2_39) hr
                            · show Q2 Z a0 a1 ka_a0 vs_a0 ka_a1 vs_a1 h0 n0 _ T328.heap _
                              rw [e328]
                              exact ⟨congrArg (fun z => some (Value.int z)) (by subst hv114 hv105 hv96 hv87 hv78 hv69 hv60 hv51 hv42 hv33 hv24 hv15 hv6; simp only [f2, if_pos hc9, if_pos hc18, if_pos hc27, if_pos hc36, if_pos hc45, if_pos hc54, if_pos hc63, if_pos hc72, if_pos hc81, if_pos hc90, if_pos hc99, if_pos hc108, if_neg hc117]), N328, rfl⟩
                        · have pre329 : ∀ t, Steps p.tables e below (s₁.setTop (mkF m 32 #[.val (.ref a0), .val (.ref a1), .val (.int (11 : Int32)), .val (.int v105)] [(.int v105), (.int (168 : Int32))])) t → Steps p.tables e below (s₁.setTop (entryFrame m #[(.ref a0), (.ref a1)] 4)) t := fun t k => pre107 t (by
                            show Steps p.tables e below (s₁.setTop (mkF m 21 #[.val (.ref a0), .val (.ref a1), .val (.int (11 : Int32)), .val (.int v105)] [(.int v105)])) _
                            refine XS.ifNo X0.here hx rfl (hb hby d2_21) rfl ((if0 _ _).trans (feq hc108).1) ?_
                            show Steps p.tables e below (s₁.setTop (mkF m 24 #[.val (.ref a0), .val (.ref a1), .val (.int (11 : Int32)), .val (.int v105)] [])) _
                            refine XS.bipush X0.here hx rfl (hb hby d2_24) ?_
                            show Steps p.tables e below (s₁.setTop (mkF m 26 #[.val (.ref a0), .val (.ref a1), .val (.int (11 : Int32)), .val (.int v105)] [(.int (8 : Int32))])) _
                            refine XS.bipush X0.here hx rfl (hb hby d2_26) ?_
                            show Steps p.tables e below (s₁.setTop (mkF m 28 #[.val (.ref a0), .val (.ref a1), .val (.int (11 : Int32)), .val (.int v105)] [(.int (32 : Int32)), (.int (8 : Int32))])) _
                            refine XS.iloadN X0.here hx rfl (hb hby d2_28) rfl ?_
                            show Steps p.tables e below (s₁.setTop (mkF m 29 #[.val (.ref a0), .val (.ref a1), .val (.int (11 : Int32)), .val (.int v105)] [(.int (11 : Int32)), (.int (32 : Int32)), (.int (8 : Int32))])) _
                            refine XS.isub X0.here hx rfl (hb hby d2_29) rfl ?_
                            show Steps p.tables e below (s₁.setTop (mkF m 30 #[.val (.ref a0), .val (.ref a1), .val (.int (11 : Int32)), .val (.int v105)] [(.int (21 : Int32)), (.int (8 : Int32))])) _
                            refine XS.imul X0.here hx rfl (hb hby d2_30) rfl ?_
                            show Steps p.tables e below (s₁.setTop (mkF m 31 #[.val (.ref a0), .val (.ref a1), .val (.int (11 : Int32)), .val (.int v105)] [(.int (168 : Int32))])) _
                            refine XS.iloadN X0.here hx rfl (hb hby d2_31) rfl ?_
                            exact k)
                          obtain ⟨_, _, ⟨T330, L330, k330, n330⟩, -, X330, ⟨Lc330, hQ330, l330, y330, z330⟩, st330⟩ := Jvm.LawKit.callS X0 hx (y := (⟨"java/lang/Integer", "numberOfLeadingZeros", "(I)I"⟩ : MethodName)) hown (mvT hZ (hw _ (List.mem_of_getElem? (i := 9) rfl))) (mvT hZ (hw _ (List.mem_of_getElem? (i := 10) rfl))) (mvT hZ (hw _ (List.mem_of_getElem? (i := 11) rfl))) (mvT hZ (hw _ (List.mem_of_getElem? (i := 12) rfl))) (by decide) (backOf (W := 1) (rm3 l Z aw hw [] v105 h0 n0 Z0) hZ (hw _ (List.mem_of_getElem? (i := 12) rfl)) (hw _ (List.mem_of_getElem? (i := 11) rfl)) (by decide) (by decide)) (g := (mkF m 32 #[.val (.ref a0), .val (.ref a1), .val (.int (11 : Int32)), .val (.int v105)] [(.int v105), (.int (168 : Int32))])) rfl (by rw [hml]; rfl) (argsL := [(.int v105)]) (rest := [(.int (168 : Int32))]) (lenOf pd_0 rfl) rfl (by show 2 * 0 + _ ≤ _; exact Nat.le_of_eq rfl) (hb hby d2_32) (fun _ _ => ⟨rfl, e0, (by decide : 0 + 0 ≤ _), (by decide : 0 + 0 ≤ _)⟩)
                          dsimp only [Pt.U, Pt.locs, Pt.cells, Pt.slots] at X330 l330 y330 z330 st330 hQ330
                          subst l330 y330 z330
                          obtain ⟨rfl, N330q, e330⟩ := hQ330
                          have N330 := Fr.app N0 N330q
                          obtain ⟨fs, hr, hrun, hended, hW, hsame⟩ := X330.leave (v := some (.int (((168 : Int32) - (f3 v105)) + (23 : Int32)))) (fun h => by rw [Bd.returns] at h; cases h)
                          refine ⟨_, _, pre329 _ ?_, hrun, hended, _, _, rfl, ?_, ⟨_, rfl⟩, hW, hsame.mono (by decide) (by decide)⟩
                          · show Steps p.tables e below (s₁.setTop (mkF m 32 #[.val (.ref a0), .val (.ref a1), .val (.int (11 : Int32)), .val (.int v105)] [(.int v105), (.int (168 : Int32))])) _
                            refine st330 _ ?_
                            show Steps p.tables e below (T330.setTop (mkF m 35 #[.val (.ref a0), .val (.ref a1), .val (.int (11 : Int32)), .val (.int v105)] [(.int (f3 v105)), (.int (168 : Int32))])) _
                            refine XS.isub X330.here hx rfl (hb hby d2_35) rfl ?_
                            show Steps p.tables e below (T330.setTop (mkF m 36 #[.val (.ref a0), .val (.ref a1), .val (.int (11 : Int32)), .val (.int v105)] [(.int ((168 : Int32) - (f3 v105)))])) _
                            refine XS.bipush X330.here hx rfl (hb hby d2_36) ?_
                            show Steps p.tables e below (T330.setTop (mkF m 38 #[.val (.ref a0), .val (.ref a1), .val (.int (11 : Int32)), .val (.int v105)] [(.int (23 : Int32)), (.int ((168 : Int32) - (f3 v105)))])) _
                            refine XS.iadd X330.here hx rfl (hb hby d2_38) rfl ?_
                            show Steps p.tables e below (T330.setTop (mkF m 39 #[.val (.ref a0), .val (.ref a1), .val (.int (11 : Int32)), .val (.int v105)] [(.int (((168 : Int32) - (f3 v105)) + (23 : Int32)))])) _
                            exact retI X330 hx Bd.returns (hb hby d2_39) hr
                          · show Q2 Z a0 a1 ka_a0 vs_a0 ka_a1 vs_a1 h0 n0 _ T330.heap _
                            rw [e330]
                            exact ⟨congrArg (fun z => some (Value.int z)) (by subst hv105 hv96 hv87 hv78 hv69 hv60 hv51 hv42 hv33 hv24 hv15 hv6; simp only [f2, if_pos hc9, if_pos hc18, if_pos hc27, if_pos hc36, if_pos hc45, if_pos hc54, if_pos hc63, if_pos hc72, if_pos hc81, if_pos hc90, if_pos hc99, if_neg hc108]), N330, rfl⟩
                      · have pre331 : ∀ t, Steps p.tables e below (s₁.setTop (mkF m 32 #[.val (.ref a0), .val (.ref a1), .val (.int (10 : Int32)), .val (.int v96)] [(.int v96), (.int (176 : Int32))])) t → Steps p.tables e below (s₁.setTop (entryFrame m #[(.ref a0), (.ref a1)] 4)) t := fun t k => pre98 t (by
                          show Steps p.tables e below (s₁.setTop (mkF m 21 #[.val (.ref a0), .val (.ref a1), .val (.int (10 : Int32)), .val (.int v96)] [(.int v96)])) _
                          refine XS.ifNo X0.here hx rfl (hb hby d2_21) rfl ((if0 _ _).trans (feq hc99).1) ?_
                          show Steps p.tables e below (s₁.setTop (mkF m 24 #[.val (.ref a0), .val (.ref a1), .val (.int (10 : Int32)), .val (.int v96)] [])) _
                          refine XS.bipush X0.here hx rfl (hb hby d2_24) ?_
                          show Steps p.tables e below (s₁.setTop (mkF m 26 #[.val (.ref a0), .val (.ref a1), .val (.int (10 : Int32)), .val (.int v96)] [(.int (8 : Int32))])) _
                          refine XS.bipush X0.here hx rfl (hb hby d2_26) ?_
                          show Steps p.tables e below (s₁.setTop (mkF m 28 #[.val (.ref a0), .val (.ref a1), .val (.int (10 : Int32)), .val (.int v96)] [(.int (32 : Int32)), (.int (8 : Int32))])) _
                          refine XS.iloadN X0.here hx rfl (hb hby d2_28) rfl ?_
                          show Steps p.tables e below (s₁.setTop (mkF m 29 #[.val (.ref a0), .val (.ref a1), .val (.int (10 : Int32)), .val (.int v96)] [(.int (10 : Int32)), (.int (32 : Int32)), (.int (8 : Int32))])) _
                          refine XS.isub X0.here hx rfl (hb hby d2_29) rfl ?_
                          show Steps p.tables e below (s₁.setTop (mkF m 30 #[.val (.ref a0), .val (.ref a1), .val (.int (10 : Int32)), .val (.int v96)] [(.int (22 : Int32)), (.int (8 : Int32))])) _
                          refine XS.imul X0.here hx rfl (hb hby d2_30) rfl ?_
                          show Steps p.tables e below (s₁.setTop (mkF m 31 #[.val (.ref a0), .val (.ref a1), .val (.int (10 : Int32)), .val (.int v96)] [(.int (176 : Int32))])) _
                          refine XS.iloadN X0.here hx rfl (hb hby d2_31) rfl ?_
                          exact k)
                        obtain ⟨_, _, ⟨T332, L332, k332, n332⟩, -, X332, ⟨Lc332, hQ332, l332, y332, z332⟩, st332⟩ := Jvm.LawKit.callS X0 hx (y := (⟨"java/lang/Integer", "numberOfLeadingZeros", "(I)I"⟩ : MethodName)) hown (mvT hZ (hw _ (List.mem_of_getElem? (i := 9) rfl))) (mvT hZ (hw _ (List.mem_of_getElem? (i := 10) rfl))) (mvT hZ (hw _ (List.mem_of_getElem? (i := 11) rfl))) (mvT hZ (hw _ (List.mem_of_getElem? (i := 12) rfl))) (by decide) (backOf (W := 1) (rm3 l Z aw hw [] v96 h0 n0 Z0) hZ (hw _ (List.mem_of_getElem? (i := 12) rfl)) (hw _ (List.mem_of_getElem? (i := 11) rfl)) (by decide) (by decide)) (g := (mkF m 32 #[.val (.ref a0), .val (.ref a1), .val (.int (10 : Int32)), .val (.int v96)] [(.int v96), (.int (176 : Int32))])) rfl (by rw [hml]; rfl) (argsL := [(.int v96)]) (rest := [(.int (176 : Int32))]) (lenOf pd_0 rfl) rfl (by show 2 * 0 + _ ≤ _; exact Nat.le_of_eq rfl) (hb hby d2_32) (fun _ _ => ⟨rfl, e0, (by decide : 0 + 0 ≤ _), (by decide : 0 + 0 ≤ _)⟩)
                        dsimp only [Pt.U, Pt.locs, Pt.cells, Pt.slots] at X332 l332 y332 z332 st332 hQ332
                        subst l332 y332 z332
                        obtain ⟨rfl, N332q, e332⟩ := hQ332
                        have N332 := Fr.app N0 N332q
                        obtain ⟨fs, hr, hrun, hended, hW, hsame⟩ := X332.leave (v := some (.int (((176 : Int32) - (f3 v96)) + (23 : Int32)))) (fun h => by rw [Bd.returns] at h; cases h)
                        refine ⟨_, _, pre331 _ ?_, hrun, hended, _, _, rfl, ?_, ⟨_, rfl⟩, hW, hsame.mono (by decide) (by decide)⟩
                        · show Steps p.tables e below (s₁.setTop (mkF m 32 #[.val (.ref a0), .val (.ref a1), .val (.int (10 : Int32)), .val (.int v96)] [(.int v96), (.int (176 : Int32))])) _
                          refine st332 _ ?_
                          show Steps p.tables e below (T332.setTop (mkF m 35 #[.val (.ref a0), .val (.ref a1), .val (.int (10 : Int32)), .val (.int v96)] [(.int (f3 v96)), (.int (176 : Int32))])) _
                          refine XS.isub X332.here hx rfl (hb hby d2_35) rfl ?_
                          show Steps p.tables e below (T332.setTop (mkF m 36 #[.val (.ref a0), .val (.ref a1), .val (.int (10 : Int32)), .val (.int v96)] [(.int ((176 : Int32) - (f3 v96)))])) _
                          refine XS.bipush X332.here hx rfl (hb hby d2_36) ?_
                          show Steps p.tables e below (T332.setTop (mkF m 38 #[.val (.ref a0), .val (.ref a1), .val (.int (10 : Int32)), .val (.int v96)] [(.int (23 : Int32)), (.int ((176 : Int32) - (f3 v96)))])) _
                          refine XS.iadd X332.here hx rfl (hb hby d2_38) rfl ?_
                          show Steps p.tables e below (T332.setTop (mkF m 39 #[.val (.ref a0), .val (.ref a1), .val (.int (10 : Int32)), .val (.int v96)] [(.int (((176 : Int32) - (f3 v96)) + (23 : Int32)))])) _
                          exact retI X332 hx Bd.returns (hb hby d2_39) hr
                        · show Q2 Z a0 a1 ka_a0 vs_a0 ka_a1 vs_a1 h0 n0 _ T332.heap _
                          rw [e332]
                          exact ⟨congrArg (fun z => some (Value.int z)) (by subst hv96 hv87 hv78 hv69 hv60 hv51 hv42 hv33 hv24 hv15 hv6; simp only [f2, if_pos hc9, if_pos hc18, if_pos hc27, if_pos hc36, if_pos hc45, if_pos hc54, if_pos hc63, if_pos hc72, if_pos hc81, if_pos hc90, if_neg hc99]), N332, rfl⟩
                    · have pre333 : ∀ t, Steps p.tables e below (s₁.setTop (mkF m 32 #[.val (.ref a0), .val (.ref a1), .val (.int (9 : Int32)), .val (.int v87)] [(.int v87), (.int (184 : Int32))])) t → Steps p.tables e below (s₁.setTop (entryFrame m #[(.ref a0), (.ref a1)] 4)) t := fun t k => pre89 t (by
                        show Steps p.tables e below (s₁.setTop (mkF m 21 #[.val (.ref a0), .val (.ref a1), .val (.int (9 : Int32)), .val (.int v87)] [(.int v87)])) _
                        refine XS.ifNo X0.here hx rfl (hb hby d2_21) rfl ((if0 _ _).trans (feq hc90).1) ?_
                        show Steps p.tables e below (s₁.setTop (mkF m 24 #[.val (.ref a0), .val (.ref a1), .val (.int (9 : Int32)), .val (.int v87)] [])) _
                        refine XS.bipush X0.here hx rfl (hb hby d2_24) ?_
                        show Steps p.tables e below (s₁.setTop (mkF m 26 #[.val (.ref a0), .val (.ref a1), .val (.int (9 : Int32)), .val (.int v87)] [(.int (8 : Int32))])) _
                        refine XS.bipush X0.here hx rfl (hb hby d2_26) ?_
                        show Steps p.tables e below (s₁.setTop (mkF m 28 #[.val (.ref a0), .val (.ref a1), .val (.int (9 : Int32)), .val (.int v87)] [(.int (32 : Int32)), (.int (8 : Int32))])) _
                        refine XS.iloadN X0.here hx rfl (hb hby d2_28) rfl ?_
                        show Steps p.tables e below (s₁.setTop (mkF m 29 #[.val (.ref a0), .val (.ref a1), .val (.int (9 : Int32)), .val (.int v87)] [(.int (9 : Int32)), (.int (32 : Int32)), (.int (8 : Int32))])) _
                        refine XS.isub X0.here hx rfl (hb hby d2_29) rfl ?_
                        show Steps p.tables e below (s₁.setTop (mkF m 30 #[.val (.ref a0), .val (.ref a1), .val (.int (9 : Int32)), .val (.int v87)] [(.int (23 : Int32)), (.int (8 : Int32))])) _
                        refine XS.imul X0.here hx rfl (hb hby d2_30) rfl ?_
                        show Steps p.tables e below (s₁.setTop (mkF m 31 #[.val (.ref a0), .val (.ref a1), .val (.int (9 : Int32)), .val (.int v87)] [(.int (184 : Int32))])) _
                        refine XS.iloadN X0.here hx rfl (hb hby d2_31) rfl ?_
                        exact k)
                      obtain ⟨_, _, ⟨T334, L334, k334, n334⟩, -, X334, ⟨Lc334, hQ334, l334, y334, z334⟩, st334⟩ := Jvm.LawKit.callS X0 hx (y := (⟨"java/lang/Integer", "numberOfLeadingZeros", "(I)I"⟩ : MethodName)) hown (mvT hZ (hw _ (List.mem_of_getElem? (i := 9) rfl))) (mvT hZ (hw _ (List.mem_of_getElem? (i := 10) rfl))) (mvT hZ (hw _ (List.mem_of_getElem? (i := 11) rfl))) (mvT hZ (hw _ (List.mem_of_getElem? (i := 12) rfl))) (by decide) (backOf (W := 1) (rm3 l Z aw hw [] v87 h0 n0 Z0) hZ (hw _ (List.mem_of_getElem? (i := 12) rfl)) (hw _ (List.mem_of_getElem? (i := 11) rfl)) (by decide) (by decide)) (g := (mkF m 32 #[.val (.ref a0), .val (.ref a1), .val (.int (9 : Int32)), .val (.int v87)] [(.int v87), (.int (184 : Int32))])) rfl (by rw [hml]; rfl) (argsL := [(.int v87)]) (rest := [(.int (184 : Int32))]) (lenOf pd_0 rfl) rfl (by show 2 * 0 + _ ≤ _; exact Nat.le_of_eq rfl) (hb hby d2_32) (fun _ _ => ⟨rfl, e0, (by decide : 0 + 0 ≤ _), (by decide : 0 + 0 ≤ _)⟩)
                      dsimp only [Pt.U, Pt.locs, Pt.cells, Pt.slots] at X334 l334 y334 z334 st334 hQ334
                      subst l334 y334 z334
                      obtain ⟨rfl, N334q, e334⟩ := hQ334
                      have N334 := Fr.app N0 N334q
                      obtain ⟨fs, hr, hrun, hended, hW, hsame⟩ := X334.leave (v := some (.int (((184 : Int32) - (f3 v87)) + (23 : Int32)))) (fun h => by rw [Bd.returns] at h; cases h)
                      refine ⟨_, _, pre333 _ ?_, hrun, hended, _, _, rfl, ?_, ⟨_, rfl⟩, hW, hsame.mono (by decide) (by decide)⟩
                      · show Steps p.tables e below (s₁.setTop (mkF m 32 #[.val (.ref a0), .val (.ref a1), .val (.int (9 : Int32)), .val (.int v87)] [(.int v87), (.int (184 : Int32))])) _
                        refine st334 _ ?_
                        show Steps p.tables e below (T334.setTop (mkF m 35 #[.val (.ref a0), .val (.ref a1), .val (.int (9 : Int32)), .val (.int v87)] [(.int (f3 v87)), (.int (184 : Int32))])) _
                        refine XS.isub X334.here hx rfl (hb hby d2_35) rfl ?_
                        show Steps p.tables e below (T334.setTop (mkF m 36 #[.val (.ref a0), .val (.ref a1), .val (.int (9 : Int32)), .val (.int v87)] [(.int ((184 : Int32) - (f3 v87)))])) _
                        refine XS.bipush X334.here hx rfl (hb hby d2_36) ?_
                        show Steps p.tables e below (T334.setTop (mkF m 38 #[.val (.ref a0), .val (.ref a1), .val (.int (9 : Int32)), .val (.int v87)] [(.int (23 : Int32)), (.int ((184 : Int32) - (f3 v87)))])) _
                        refine XS.iadd X334.here hx rfl (hb hby d2_38) rfl ?_
                        show Steps p.tables e below (T334.setTop (mkF m 39 #[.val (.ref a0), .val (.ref a1), .val (.int (9 : Int32)), .val (.int v87)] [(.int (((184 : Int32) - (f3 v87)) + (23 : Int32)))])) _
                        exact retI X334 hx Bd.returns (hb hby d2_39) hr
                      · show Q2 Z a0 a1 ka_a0 vs_a0 ka_a1 vs_a1 h0 n0 _ T334.heap _
                        rw [e334]
                        exact ⟨congrArg (fun z => some (Value.int z)) (by subst hv87 hv78 hv69 hv60 hv51 hv42 hv33 hv24 hv15 hv6; simp only [f2, if_pos hc9, if_pos hc18, if_pos hc27, if_pos hc36, if_pos hc45, if_pos hc54, if_pos hc63, if_pos hc72, if_pos hc81, if_neg hc90]), N334, rfl⟩
                  · have pre335 : ∀ t, Steps p.tables e below (s₁.setTop (mkF m 32 #[.val (.ref a0), .val (.ref a1), .val (.int (8 : Int32)), .val (.int v78)] [(.int v78), (.int (192 : Int32))])) t → Steps p.tables e below (s₁.setTop (entryFrame m #[(.ref a0), (.ref a1)] 4)) t := fun t k => pre80 t (by
                      show Steps p.tables e below (s₁.setTop (mkF m 21 #[.val (.ref a0), .val (.ref a1), .val (.int (8 : Int32)), .val (.int v78)] [(.int v78)])) _
                      refine XS.ifNo X0.here hx rfl (hb hby d2_21) rfl ((if0 _ _).trans (feq hc81).1) ?_
                      show Steps p.tables e below (s₁.setTop (mkF m 24 #[.val (.ref a0), .val (.ref a1), .val (.int (8 : Int32)), .val (.int v78)] [])) _
                      refine XS.bipush X0.here hx rfl (hb hby d2_24) ?_
                      show Steps p.tables e below (s₁.setTop (mkF m 26 #[.val (.ref a0), .val (.ref a1), .val (.int (8 : Int32)), .val (.int v78)] [(.int (8 : Int32))])) _
                      refine XS.bipush X0.here hx rfl (hb hby d2_26) ?_
                      show Steps p.tables e below (s₁.setTop (mkF m 28 #[.val (.ref a0), .val (.ref a1), .val (.int (8 : Int32)), .val (.int v78)] [(.int (32 : Int32)), (.int (8 : Int32))])) _
                      refine XS.iloadN X0.here hx rfl (hb hby d2_28) rfl ?_
                      show Steps p.tables e below (s₁.setTop (mkF m 29 #[.val (.ref a0), .val (.ref a1), .val (.int (8 : Int32)), .val (.int v78)] [(.int (8 : Int32)), (.int (32 : Int32)), (.int (8 : Int32))])) _
                      refine XS.isub X0.here hx rfl (hb hby d2_29) rfl ?_
                      show Steps p.tables e below (s₁.setTop (mkF m 30 #[.val (.ref a0), .val (.ref a1), .val (.int (8 : Int32)), .val (.int v78)] [(.int (24 : Int32)), (.int (8 : Int32))])) _
                      refine XS.imul X0.here hx rfl (hb hby d2_30) rfl ?_
                      show Steps p.tables e below (s₁.setTop (mkF m 31 #[.val (.ref a0), .val (.ref a1), .val (.int (8 : Int32)), .val (.int v78)] [(.int (192 : Int32))])) _
                      refine XS.iloadN X0.here hx rfl (hb hby d2_31) rfl ?_
                      exact k)
                    obtain ⟨_, _, ⟨T336, L336, k336, n336⟩, -, X336, ⟨Lc336, hQ336, l336, y336, z336⟩, st336⟩ := Jvm.LawKit.callS X0 hx (y := (⟨"java/lang/Integer", "numberOfLeadingZeros", "(I)I"⟩ : MethodName)) hown (mvT hZ (hw _ (List.mem_of_getElem? (i := 9) rfl))) (mvT hZ (hw _ (List.mem_of_getElem? (i := 10) rfl))) (mvT hZ (hw _ (List.mem_of_getElem? (i := 11) rfl))) (mvT hZ (hw _ (List.mem_of_getElem? (i := 12) rfl))) (by decide) (backOf (W := 1) (rm3 l Z aw hw [] v78 h0 n0 Z0) hZ (hw _ (List.mem_of_getElem? (i := 12) rfl)) (hw _ (List.mem_of_getElem? (i := 11) rfl)) (by decide) (by decide)) (g := (mkF m 32 #[.val (.ref a0), .val (.ref a1), .val (.int (8 : Int32)), .val (.int v78)] [(.int v78), (.int (192 : Int32))])) rfl (by rw [hml]; rfl) (argsL := [(.int v78)]) (rest := [(.int (192 : Int32))]) (lenOf pd_0 rfl) rfl (by show 2 * 0 + _ ≤ _; exact Nat.le_of_eq rfl) (hb hby d2_32) (fun _ _ => ⟨rfl, e0, (by decide : 0 + 0 ≤ _), (by decide : 0 + 0 ≤ _)⟩)
                    dsimp only [Pt.U, Pt.locs, Pt.cells, Pt.slots] at X336 l336 y336 z336 st336 hQ336
                    subst l336 y336 z336
                    obtain ⟨rfl, N336q, e336⟩ := hQ336
                    have N336 := Fr.app N0 N336q
                    obtain ⟨fs, hr, hrun, hended, hW, hsame⟩ := X336.leave (v := some (.int (((192 : Int32) - (f3 v78)) + (23 : Int32)))) (fun h => by rw [Bd.returns] at h; cases h)
                    refine ⟨_, _, pre335 _ ?_, hrun, hended, _, _, rfl, ?_, ⟨_, rfl⟩, hW, hsame.mono (by decide) (by decide)⟩
                    · show Steps p.tables e below (s₁.setTop (mkF m 32 #[.val (.ref a0), .val (.ref a1), .val (.int (8 : Int32)), .val (.int v78)] [(.int v78), (.int (192 : Int32))])) _
                      refine st336 _ ?_
                      show Steps p.tables e below (T336.setTop (mkF m 35 #[.val (.ref a0), .val (.ref a1), .val (.int (8 : Int32)), .val (.int v78)] [(.int (f3 v78)), (.int (192 : Int32))])) _
                      refine XS.isub X336.here hx rfl (hb hby d2_35) rfl ?_
                      show Steps p.tables e below (T336.setTop (mkF m 36 #[.val (.ref a0), .val (.ref a1), .val (.int (8 : Int32)), .val (.int v78)] [(.int ((192 : Int32) - (f3 v78)))])) _
                      refine XS.bipush X336.here hx rfl (hb hby d2_36) ?_
                      show Steps p.tables e below (T336.setTop (mkF m 38 #[.val (.ref a0), .val (.ref a1), .val (.int (8 : Int32)), .val (.int v78)] [(.int (23 : Int32)), (.int ((192 : Int32) - (f3 v78)))])) _
                      refine XS.iadd X336.here hx rfl (hb hby d2_38) rfl ?_
                      show Steps p.tables e below (T336.setTop (mkF m 39 #[.val (.ref a0), .val (.ref a1), .val (.int (8 : Int32)), .val (.int v78)] [(.int (((192 : Int32) - (f3 v78)) + (23 : Int32)))])) _
                      exact retI X336 hx Bd.returns (hb hby d2_39) hr
                    · show Q2 Z a0 a1 ka_a0 vs_a0 ka_a1 vs_a1 h0 n0 _ T336.heap _
                      rw [e336]
                      exact ⟨congrArg (fun z => some (Value.int z)) (by subst hv78 hv69 hv60 hv51 hv42 hv33 hv24 hv15 hv6; simp only [f2, if_pos hc9, if_pos hc18, if_pos hc27, if_pos hc36, if_pos hc45, if_pos hc54, if_pos hc63, if_pos hc72, if_neg hc81]), N336, rfl⟩
                · have pre337 : ∀ t, Steps p.tables e below (s₁.setTop (mkF m 32 #[.val (.ref a0), .val (.ref a1), .val (.int (7 : Int32)), .val (.int v69)] [(.int v69), (.int (200 : Int32))])) t → Steps p.tables e below (s₁.setTop (entryFrame m #[(.ref a0), (.ref a1)] 4)) t := fun t k => pre71 t (by
                    show Steps p.tables e below (s₁.setTop (mkF m 21 #[.val (.ref a0), .val (.ref a1), .val (.int (7 : Int32)), .val (.int v69)] [(.int v69)])) _
                    refine XS.ifNo X0.here hx rfl (hb hby d2_21) rfl ((if0 _ _).trans (feq hc72).1) ?_
                    show Steps p.tables e below (s₁.setTop (mkF m 24 #[.val (.ref a0), .val (.ref a1), .val (.int (7 : Int32)), .val (.int v69)] [])) _
                    refine XS.bipush X0.here hx rfl (hb hby d2_24) ?_
                    show Steps p.tables e below (s₁.setTop (mkF m 26 #[.val (.ref a0), .val (.ref a1), .val (.int (7 : Int32)), .val (.int v69)] [(.int (8 : Int32))])) _
                    refine XS.bipush X0.here hx rfl (hb hby d2_26) ?_
                    show Steps p.tables e below (s₁.setTop (mkF m 28 #[.val (.ref a0), .val (.ref a1), .val (.int (7 : Int32)), .val (.int v69)] [(.int (32 : Int32)), (.int (8 : Int32))])) _
                    refine XS.iloadN X0.here hx rfl (hb hby d2_28) rfl ?_
                    show Steps p.tables e below (s₁.setTop (mkF m 29 #[.val (.ref a0), .val (.ref a1), .val (.int (7 : Int32)), .val (.int v69)] [(.int (7 : Int32)), (.int (32 : Int32)), (.int (8 : Int32))])) _
                    refine XS.isub X0.here hx rfl (hb hby d2_29) rfl ?_
                    show Steps p.tables e below (s₁.setTop (mkF m 30 #[.val (.ref a0), .val (.ref a1), .val (.int (7 : Int32)), .val (.int v69)] [(.int (25 : Int32)), (.int (8 : Int32))])) _
                    refine XS.imul X0.here hx rfl (hb hby d2_30) rfl ?_
                    show Steps p.tables e below (s₁.setTop (mkF m 31 #[.val (.ref a0), .val (.ref a1), .val (.int (7 : Int32)), .val (.int v69)] [(.int (200 : Int32))])) _
                    refine XS.iloadN X0.here hx rfl (hb hby d2_31) rfl ?_
                    exact k)
                  obtain ⟨_, _, ⟨T338, L338, k338, n338⟩, -, X338, ⟨Lc338, hQ338, l338, y338, z338⟩, st338⟩ := Jvm.LawKit.callS X0 hx (y := (⟨"java/lang/Integer", "numberOfLeadingZeros", "(I)I"⟩ : MethodName)) hown (mvT hZ (hw _ (List.mem_of_getElem? (i := 9) rfl))) (mvT hZ (hw _ (List.mem_of_getElem? (i := 10) rfl))) (mvT hZ (hw _ (List.mem_of_getElem? (i := 11) rfl))) (mvT hZ (hw _ (List.mem_of_getElem? (i := 12) rfl))) (by decide) (backOf (W := 1) (rm3 l Z aw hw [] v69 h0 n0 Z0) hZ (hw _ (List.mem_of_getElem? (i := 12) rfl)) (hw _ (List.mem_of_getElem? (i := 11) rfl)) (by decide) (by decide)) (g := (mkF m 32 #[.val (.ref a0), .val (.ref a1), .val (.int (7 : Int32)), .val (.int v69)] [(.int v69), (.int (200 : Int32))])) rfl (by rw [hml]; rfl) (argsL := [(.int v69)]) (rest := [(.int (200 : Int32))]) (lenOf pd_0 rfl) rfl (by show 2 * 0 + _ ≤ _; exact Nat.le_of_eq rfl) (hb hby d2_32) (fun _ _ => ⟨rfl, e0, (by decide : 0 + 0 ≤ _), (by decide : 0 + 0 ≤ _)⟩)
                  dsimp only [Pt.U, Pt.locs, Pt.cells, Pt.slots] at X338 l338 y338 z338 st338 hQ338
                  subst l338 y338 z338
                  obtain ⟨rfl, N338q, e338⟩ := hQ338
                  have N338 := Fr.app N0 N338q
                  obtain ⟨fs, hr, hrun, hended, hW, hsame⟩ := X338.leave (v := some (.int (((200 : Int32) - (f3 v69)) + (23 : Int32)))) (fun h => by rw [Bd.returns] at h; cases h)
                  refine ⟨_, _, pre337 _ ?_, hrun, hended, _, _, rfl, ?_, ⟨_, rfl⟩, hW, hsame.mono (by decide) (by decide)⟩
                  · show Steps p.tables e below (s₁.setTop (mkF m 32 #[.val (.ref a0), .val (.ref a1), .val (.int (7 : Int32)), .val (.int v69)] [(.int v69), (.int (200 : Int32))])) _
                    refine st338 _ ?_
                    show Steps p.tables e below (T338.setTop (mkF m 35 #[.val (.ref a0), .val (.ref a1), .val (.int (7 : Int32)), .val (.int v69)] [(.int (f3 v69)), (.int (200 : Int32))])) _
                    refine XS.isub X338.here hx rfl (hb hby d2_35) rfl ?_
                    show Steps p.tables e below (T338.setTop (mkF m 36 #[.val (.ref a0), .val (.ref a1), .val (.int (7 : Int32)), .val (.int v69)] [(.int ((200 : Int32) - (f3 v69)))])) _
                    refine XS.bipush X338.here hx rfl (hb hby d2_36) ?_
                    show Steps p.tables e below (T338.setTop (mkF m 38 #[.val (.ref a0), .val (.ref a1), .val (.int (7 : Int32)), .val (.int v69)] [(.int (23 : Int32)), (.int ((200 : Int32) - (f3 v69)))])) _
                    refine XS.iadd X338.here hx rfl (hb hby d2_38) rfl ?_
                    show Steps p.tables e below (T338.setTop (mkF m 39 #[.val (.ref a0), .val (.ref a1), .val (.int (7 : Int32)), .val (.int v69)] [(.int (((200 : Int32) - (f3 v69)) + (23 : Int32)))])) _
                    exact retI X338 hx Bd.returns (hb hby d2_39) hr
                  · show Q2 Z a0 a1 ka_a0 vs_a0 ka_a1 vs_a1 h0 n0 _ T338.heap _
                    rw [e338]
                    exact ⟨congrArg (fun z => some (Value.int z)) (by subst hv69 hv60 hv51 hv42 hv33 hv24 hv15 hv6; simp only [f2, if_pos hc9, if_pos hc18, if_pos hc27, if_pos hc36, if_pos hc45, if_pos hc54, if_pos hc63, if_neg hc72]), N338, rfl⟩
              · have pre339 : ∀ t, Steps p.tables e below (s₁.setTop (mkF m 32 #[.val (.ref a0), .val (.ref a1), .val (.int (6 : Int32)), .val (.int v60)] [(.int v60), (.int (208 : Int32))])) t → Steps p.tables e below (s₁.setTop (entryFrame m #[(.ref a0), (.ref a1)] 4)) t := fun t k => pre62 t (by
                  show Steps p.tables e below (s₁.setTop (mkF m 21 #[.val (.ref a0), .val (.ref a1), .val (.int (6 : Int32)), .val (.int v60)] [(.int v60)])) _
                  refine XS.ifNo X0.here hx rfl (hb hby d2_21) rfl ((if0 _ _).trans (feq hc63).1) ?_
                  show Steps p.tables e below (s₁.setTop (mkF m 24 #[.val (.ref a0), .val (.ref a1), .val (.int (6 : Int32)), .val (.int v60)] [])) _
                  refine XS.bipush X0.here hx rfl (hb hby d2_24) ?_
                  show Steps p.tables e below (s₁.setTop (mkF m 26 #[.val (.ref a0), .val (.ref a1), .val (.int (6 : Int32)), .val (.int v60)] [(.int (8 : Int32))])) _
                  refine XS.bipush X0.here hx rfl (hb hby d2_26) ?_
                  show Steps p.tables e below (s₁.setTop (mkF m 28 #[.val (.ref a0), .val (.ref a1), .val (.int (6 : Int32)), .val (.int v60)] [(.int (32 : Int32)), (.int (8 : Int32))])) _
                  refine XS.iloadN X0.here hx rfl (hb hby d2_28) rfl ?_
                  show Steps p.tables e below (s₁.setTop (mkF m 29 #[.val (.ref a0), .val (.ref a1), .val (.int (6 : Int32)), .val (.int v60)] [(.int (6 : Int32)), (.int (32 : Int32)), (.int (8 : Int32))])) _
                  refine XS.isub X0.here hx rfl (hb hby d2_29) rfl ?_
                  show Steps p.tables e below (s₁.setTop (mkF m 30 #[.val (.ref a0), .val (.ref a1), .val (.int (6 : Int32)), .val (.int v60)] [(.int (26 : Int32)), (.int (8 : Int32))])) _
                  refine XS.imul X0.here hx rfl (hb hby d2_30) rfl ?_
                  show Steps p.tables e below (s₁.setTop (mkF m 31 #[.val (.ref a0), .val (.ref a1), .val (.int (6 : Int32)), .val (.int v60)] [(.int (208 : Int32))])) _
                  refine XS.iloadN X0.here hx rfl (hb hby d2_31) rfl ?_
                  exact k)
                obtain ⟨_, _, ⟨T340, L340, k340, n340⟩, -, X340, ⟨Lc340, hQ340, l340, y340, z340⟩, st340⟩ := Jvm.LawKit.callS X0 hx (y := (⟨"java/lang/Integer", "numberOfLeadingZeros", "(I)I"⟩ : MethodName)) hown (mvT hZ (hw _ (List.mem_of_getElem? (i := 9) rfl))) (mvT hZ (hw _ (List.mem_of_getElem? (i := 10) rfl))) (mvT hZ (hw _ (List.mem_of_getElem? (i := 11) rfl))) (mvT hZ (hw _ (List.mem_of_getElem? (i := 12) rfl))) (by decide) (backOf (W := 1) (rm3 l Z aw hw [] v60 h0 n0 Z0) hZ (hw _ (List.mem_of_getElem? (i := 12) rfl)) (hw _ (List.mem_of_getElem? (i := 11) rfl)) (by decide) (by decide)) (g := (mkF m 32 #[.val (.ref a0), .val (.ref a1), .val (.int (6 : Int32)), .val (.int v60)] [(.int v60), (.int (208 : Int32))])) rfl (by rw [hml]; rfl) (argsL := [(.int v60)]) (rest := [(.int (208 : Int32))]) (lenOf pd_0 rfl) rfl (by show 2 * 0 + _ ≤ _; exact Nat.le_of_eq rfl) (hb hby d2_32) (fun _ _ => ⟨rfl, e0, (by decide : 0 + 0 ≤ _), (by decide : 0 + 0 ≤ _)⟩)
                dsimp only [Pt.U, Pt.locs, Pt.cells, Pt.slots] at X340 l340 y340 z340 st340 hQ340
                subst l340 y340 z340
                obtain ⟨rfl, N340q, e340⟩ := hQ340
                have N340 := Fr.app N0 N340q
                obtain ⟨fs, hr, hrun, hended, hW, hsame⟩ := X340.leave (v := some (.int (((208 : Int32) - (f3 v60)) + (23 : Int32)))) (fun h => by rw [Bd.returns] at h; cases h)
                refine ⟨_, _, pre339 _ ?_, hrun, hended, _, _, rfl, ?_, ⟨_, rfl⟩, hW, hsame.mono (by decide) (by decide)⟩
                · show Steps p.tables e below (s₁.setTop (mkF m 32 #[.val (.ref a0), .val (.ref a1), .val (.int (6 : Int32)), .val (.int v60)] [(.int v60), (.int (208 : Int32))])) _
                  refine st340 _ ?_
                  show Steps p.tables e below (T340.setTop (mkF m 35 #[.val (.ref a0), .val (.ref a1), .val (.int (6 : Int32)), .val (.int v60)] [(.int (f3 v60)), (.int (208 : Int32))])) _
                  refine XS.isub X340.here hx rfl (hb hby d2_35) rfl ?_
                  show Steps p.tables e below (T340.setTop (mkF m 36 #[.val (.ref a0), .val (.ref a1), .val (.int (6 : Int32)), .val (.int v60)] [(.int ((208 : Int32) - (f3 v60)))])) _
                  refine XS.bipush X340.here hx rfl (hb hby d2_36) ?_
                  show Steps p.tables e below (T340.setTop (mkF m 38 #[.val (.ref a0), .val (.ref a1), .val (.int (6 : Int32)), .val (.int v60)] [(.int (23 : Int32)), (.int ((208 : Int32) - (f3 v60)))])) _
                  refine XS.iadd X340.here hx rfl (hb hby d2_38) rfl ?_
                  show Steps p.tables e below (T340.setTop (mkF m 39 #[.val (.ref a0), .val (.ref a1), .val (.int (6 : Int32)), .val (.int v60)] [(.int (((208 : Int32) - (f3 v60)) + (23 : Int32)))])) _
                  exact retI X340 hx Bd.returns (hb hby d2_39) hr
                · show Q2 Z a0 a1 ka_a0 vs_a0 ka_a1 vs_a1 h0 n0 _ T340.heap _
                  rw [e340]
                  exact ⟨congrArg (fun z => some (Value.int z)) (by subst hv60 hv51 hv42 hv33 hv24 hv15 hv6; simp only [f2, if_pos hc9, if_pos hc18, if_pos hc27, if_pos hc36, if_pos hc45, if_pos hc54, if_neg hc63]), N340, rfl⟩
            · have pre341 : ∀ t, Steps p.tables e below (s₁.setTop (mkF m 32 #[.val (.ref a0), .val (.ref a1), .val (.int (5 : Int32)), .val (.int v51)] [(.int v51), (.int (216 : Int32))])) t → Steps p.tables e below (s₁.setTop (entryFrame m #[(.ref a0), (.ref a1)] 4)) t := fun t k => pre53 t (by
                show Steps p.tables e below (s₁.setTop (mkF m 21 #[.val (.ref a0), .val (.ref a1), .val (.int (5 : Int32)), .val (.int v51)] [(.int v51)])) _
                refine XS.ifNo X0.here hx rfl (hb hby d2_21) rfl ((if0 _ _).trans (feq hc54).1) ?_
                show Steps p.tables e below (s₁.setTop (mkF m 24 #[.val (.ref a0), .val (.ref a1), .val (.int (5 : Int32)), .val (.int v51)] [])) _
                refine XS.bipush X0.here hx rfl (hb hby d2_24) ?_
                show Steps p.tables e below (s₁.setTop (mkF m 26 #[.val (.ref a0), .val (.ref a1), .val (.int (5 : Int32)), .val (.int v51)] [(.int (8 : Int32))])) _
                refine XS.bipush X0.here hx rfl (hb hby d2_26) ?_
                show Steps p.tables e below (s₁.setTop (mkF m 28 #[.val (.ref a0), .val (.ref a1), .val (.int (5 : Int32)), .val (.int v51)] [(.int (32 : Int32)), (.int (8 : Int32))])) _
                refine XS.iloadN X0.here hx rfl (hb hby d2_28) rfl ?_
                show Steps p.tables e below (s₁.setTop (mkF m 29 #[.val (.ref a0), .val (.ref a1), .val (.int (5 : Int32)), .val (.int v51)] [(.int (5 : Int32)), (.int (32 : Int32)), (.int (8 : Int32))])) _
                refine XS.isub X0.here hx rfl (hb hby d2_29) rfl ?_
                show Steps p.tables e below (s₁.setTop (mkF m 30 #[.val (.ref a0), .val (.ref a1), .val (.int (5 : Int32)), .val (.int v51)] [(.int (27 : Int32)), (.int (8 : Int32))])) _
                refine XS.imul X0.here hx rfl (hb hby d2_30) rfl ?_
                show Steps p.tables e below (s₁.setTop (mkF m 31 #[.val (.ref a0), .val (.ref a1), .val (.int (5 : Int32)), .val (.int v51)] [(.int (216 : Int32))])) _
                refine XS.iloadN X0.here hx rfl (hb hby d2_31) rfl ?_
                exact k)
              obtain ⟨_, _, ⟨T342, L342, k342, n342⟩, -, X342, ⟨Lc342, hQ342, l342, y342, z342⟩, st342⟩ := Jvm.LawKit.callS X0 hx (y := (⟨"java/lang/Integer", "numberOfLeadingZeros", "(I)I"⟩ : MethodName)) hown (mvT hZ (hw _ (List.mem_of_getElem? (i := 9) rfl))) (mvT hZ (hw _ (List.mem_of_getElem? (i := 10) rfl))) (mvT hZ (hw _ (List.mem_of_getElem? (i := 11) rfl))) (mvT hZ (hw _ (List.mem_of_getElem? (i := 12) rfl))) (by decide) (backOf (W := 1) (rm3 l Z aw hw [] v51 h0 n0 Z0) hZ (hw _ (List.mem_of_getElem? (i := 12) rfl)) (hw _ (List.mem_of_getElem? (i := 11) rfl)) (by decide) (by decide)) (g := (mkF m 32 #[.val (.ref a0), .val (.ref a1), .val (.int (5 : Int32)), .val (.int v51)] [(.int v51), (.int (216 : Int32))])) rfl (by rw [hml]; rfl) (argsL := [(.int v51)]) (rest := [(.int (216 : Int32))]) (lenOf pd_0 rfl) rfl (by show 2 * 0 + _ ≤ _; exact Nat.le_of_eq rfl) (hb hby d2_32) (fun _ _ => ⟨rfl, e0, (by decide : 0 + 0 ≤ _), (by decide : 0 + 0 ≤ _)⟩)
              dsimp only [Pt.U, Pt.locs, Pt.cells, Pt.slots] at X342 l342 y342 z342 st342 hQ342
              subst l342 y342 z342
              obtain ⟨rfl, N342q, e342⟩ := hQ342
              have N342 := Fr.app N0 N342q
              obtain ⟨fs, hr, hrun, hended, hW, hsame⟩ := X342.leave (v := some (.int (((216 : Int32) - (f3 v51)) + (23 : Int32)))) (fun h => by rw [Bd.returns] at h; cases h)
              refine ⟨_, _, pre341 _ ?_, hrun, hended, _, _, rfl, ?_, ⟨_, rfl⟩, hW, hsame.mono (by decide) (by decide)⟩
              · show Steps p.tables e below (s₁.setTop (mkF m 32 #[.val (.ref a0), .val (.ref a1), .val (.int (5 : Int32)), .val (.int v51)] [(.int v51), (.int (216 : Int32))])) _
                refine st342 _ ?_
                show Steps p.tables e below (T342.setTop (mkF m 35 #[.val (.ref a0), .val (.ref a1), .val (.int (5 : Int32)), .val (.int v51)] [(.int (f3 v51)), (.int (216 : Int32))])) _
                refine XS.isub X342.here hx rfl (hb hby d2_35) rfl ?_
                show Steps p.tables e below (T342.setTop (mkF m 36 #[.val (.ref a0), .val (.ref a1), .val (.int (5 : Int32)), .val (.int v51)] [(.int ((216 : Int32) - (f3 v51)))])) _
                refine XS.bipush X342.here hx rfl (hb hby d2_36) ?_
                show Steps p.tables e below (T342.setTop (mkF m 38 #[.val (.ref a0), .val (.ref a1), .val (.int (5 : Int32)), .val (.int v51)] [(.int (23 : Int32)), (.int ((216 : Int32) - (f3 v51)))])) _
                refine XS.iadd X342.here hx rfl (hb hby d2_38) rfl ?_
                show Steps p.tables e below (T342.setTop (mkF m 39 #[.val (.ref a0), .val (.ref a1), .val (.int (5 : Int32)), .val (.int v51)] [(.int (((216 : Int32) - (f3 v51)) + (23 : Int32)))])) _
                exact retI X342 hx Bd.returns (hb hby d2_39) hr
              · show Q2 Z a0 a1 ka_a0 vs_a0 ka_a1 vs_a1 h0 n0 _ T342.heap _
                rw [e342]
                exact ⟨congrArg (fun z => some (Value.int z)) (by subst hv51 hv42 hv33 hv24 hv15 hv6; simp only [f2, if_pos hc9, if_pos hc18, if_pos hc27, if_pos hc36, if_pos hc45, if_neg hc54]), N342, rfl⟩
          · have pre343 : ∀ t, Steps p.tables e below (s₁.setTop (mkF m 32 #[.val (.ref a0), .val (.ref a1), .val (.int (4 : Int32)), .val (.int v42)] [(.int v42), (.int (224 : Int32))])) t → Steps p.tables e below (s₁.setTop (entryFrame m #[(.ref a0), (.ref a1)] 4)) t := fun t k => pre44 t (by
              show Steps p.tables e below (s₁.setTop (mkF m 21 #[.val (.ref a0), .val (.ref a1), .val (.int (4 : Int32)), .val (.int v42)] [(.int v42)])) _
              refine XS.ifNo X0.here hx rfl (hb hby d2_21) rfl ((if0 _ _).trans (feq hc45).1) ?_
              show Steps p.tables e below (s₁.setTop (mkF m 24 #[.val (.ref a0), .val (.ref a1), .val (.int (4 : Int32)), .val (.int v42)] [])) _
              refine XS.bipush X0.here hx rfl (hb hby d2_24) ?_
              show Steps p.tables e below (s₁.setTop (mkF m 26 #[.val (.ref a0), .val (.ref a1), .val (.int (4 : Int32)), .val (.int v42)] [(.int (8 : Int32))])) _
              refine XS.bipush X0.here hx rfl (hb hby d2_26) ?_
              show Steps p.tables e below (s₁.setTop (mkF m 28 #[.val (.ref a0), .val (.ref a1), .val (.int (4 : Int32)), .val (.int v42)] [(.int (32 : Int32)), (.int (8 : Int32))])) _
              refine XS.iloadN X0.here hx rfl (hb hby d2_28) rfl ?_
              show Steps p.tables e below (s₁.setTop (mkF m 29 #[.val (.ref a0), .val (.ref a1), .val (.int (4 : Int32)), .val (.int v42)] [(.int (4 : Int32)), (.int (32 : Int32)), (.int (8 : Int32))])) _
              refine XS.isub X0.here hx rfl (hb hby d2_29) rfl ?_
              show Steps p.tables e below (s₁.setTop (mkF m 30 #[.val (.ref a0), .val (.ref a1), .val (.int (4 : Int32)), .val (.int v42)] [(.int (28 : Int32)), (.int (8 : Int32))])) _
              refine XS.imul X0.here hx rfl (hb hby d2_30) rfl ?_
              show Steps p.tables e below (s₁.setTop (mkF m 31 #[.val (.ref a0), .val (.ref a1), .val (.int (4 : Int32)), .val (.int v42)] [(.int (224 : Int32))])) _
              refine XS.iloadN X0.here hx rfl (hb hby d2_31) rfl ?_
              exact k)
            obtain ⟨_, _, ⟨T344, L344, k344, n344⟩, -, X344, ⟨Lc344, hQ344, l344, y344, z344⟩, st344⟩ := Jvm.LawKit.callS X0 hx (y := (⟨"java/lang/Integer", "numberOfLeadingZeros", "(I)I"⟩ : MethodName)) hown (mvT hZ (hw _ (List.mem_of_getElem? (i := 9) rfl))) (mvT hZ (hw _ (List.mem_of_getElem? (i := 10) rfl))) (mvT hZ (hw _ (List.mem_of_getElem? (i := 11) rfl))) (mvT hZ (hw _ (List.mem_of_getElem? (i := 12) rfl))) (by decide) (backOf (W := 1) (rm3 l Z aw hw [] v42 h0 n0 Z0) hZ (hw _ (List.mem_of_getElem? (i := 12) rfl)) (hw _ (List.mem_of_getElem? (i := 11) rfl)) (by decide) (by decide)) (g := (mkF m 32 #[.val (.ref a0), .val (.ref a1), .val (.int (4 : Int32)), .val (.int v42)] [(.int v42), (.int (224 : Int32))])) rfl (by rw [hml]; rfl) (argsL := [(.int v42)]) (rest := [(.int (224 : Int32))]) (lenOf pd_0 rfl) rfl (by show 2 * 0 + _ ≤ _; exact Nat.le_of_eq rfl) (hb hby d2_32) (fun _ _ => ⟨rfl, e0, (by decide : 0 + 0 ≤ _), (by decide : 0 + 0 ≤ _)⟩)
            dsimp only [Pt.U, Pt.locs, Pt.cells, Pt.slots] at X344 l344 y344 z344 st344 hQ344
            subst l344 y344 z344
            obtain ⟨rfl, N344q, e344⟩ := hQ344
            have N344 := Fr.app N0 N344q
            obtain ⟨fs, hr, hrun, hended, hW, hsame⟩ := X344.leave (v := some (.int (((224 : Int32) - (f3 v42)) + (23 : Int32)))) (fun h => by rw [Bd.returns] at h; cases h)
            refine ⟨_, _, pre343 _ ?_, hrun, hended, _, _, rfl, ?_, ⟨_, rfl⟩, hW, hsame.mono (by decide) (by decide)⟩
            · show Steps p.tables e below (s₁.setTop (mkF m 32 #[.val (.ref a0), .val (.ref a1), .val (.int (4 : Int32)), .val (.int v42)] [(.int v42), (.int (224 : Int32))])) _
              refine st344 _ ?_
              show Steps p.tables e below (T344.setTop (mkF m 35 #[.val (.ref a0), .val (.ref a1), .val (.int (4 : Int32)), .val (.int v42)] [(.int (f3 v42)), (.int (224 : Int32))])) _
              refine XS.isub X344.here hx rfl (hb hby d2_35) rfl ?_
              show Steps p.tables e below (T344.setTop (mkF m 36 #[.val (.ref a0), .val (.ref a1), .val (.int (4 : Int32)), .val (.int v42)] [(.int ((224 : Int32) - (f3 v42)))])) _
              refine XS.bipush X344.here hx rfl (hb hby d2_36) ?_
              show Steps p.tables e below (T344.setTop (mkF m 38 #[.val (.ref a0), .val (.ref a1), .val (.int (4 : Int32)), .val (.int v42)] [(.int (23 : Int32)), (.int ((224 : Int32) - (f3 v42)))])) _
              refine XS.iadd X344.here hx rfl (hb hby d2_38) rfl ?_
              show Steps p.tables e below (T344.setTop (mkF m 39 #[.val (.ref a0), .val (.ref a1), .val (.int (4 : Int32)), .val (.int v42)] [(.int (((224 : Int32) - (f3 v42)) + (23 : Int32)))])) _
              exact retI X344 hx Bd.returns (hb hby d2_39) hr
            · show Q2 Z a0 a1 ka_a0 vs_a0 ka_a1 vs_a1 h0 n0 _ T344.heap _
              rw [e344]
              exact ⟨congrArg (fun z => some (Value.int z)) (by subst hv42 hv33 hv24 hv15 hv6; simp only [f2, if_pos hc9, if_pos hc18, if_pos hc27, if_pos hc36, if_neg hc45]), N344, rfl⟩
        · have pre345 : ∀ t, Steps p.tables e below (s₁.setTop (mkF m 32 #[.val (.ref a0), .val (.ref a1), .val (.int (3 : Int32)), .val (.int v33)] [(.int v33), (.int (232 : Int32))])) t → Steps p.tables e below (s₁.setTop (entryFrame m #[(.ref a0), (.ref a1)] 4)) t := fun t k => pre35 t (by
            show Steps p.tables e below (s₁.setTop (mkF m 21 #[.val (.ref a0), .val (.ref a1), .val (.int (3 : Int32)), .val (.int v33)] [(.int v33)])) _
            refine XS.ifNo X0.here hx rfl (hb hby d2_21) rfl ((if0 _ _).trans (feq hc36).1) ?_
            show Steps p.tables e below (s₁.setTop (mkF m 24 #[.val (.ref a0), .val (.ref a1), .val (.int (3 : Int32)), .val (.int v33)] [])) _
            refine XS.bipush X0.here hx rfl (hb hby d2_24) ?_
            show Steps p.tables e below (s₁.setTop (mkF m 26 #[.val (.ref a0), .val (.ref a1), .val (.int (3 : Int32)), .val (.int v33)] [(.int (8 : Int32))])) _
            refine XS.bipush X0.here hx rfl (hb hby d2_26) ?_
            show Steps p.tables e below (s₁.setTop (mkF m 28 #[.val (.ref a0), .val (.ref a1), .val (.int (3 : Int32)), .val (.int v33)] [(.int (32 : Int32)), (.int (8 : Int32))])) _
            refine XS.iloadN X0.here hx rfl (hb hby d2_28) rfl ?_
            show Steps p.tables e below (s₁.setTop (mkF m 29 #[.val (.ref a0), .val (.ref a1), .val (.int (3 : Int32)), .val (.int v33)] [(.int (3 : Int32)), (.int (32 : Int32)), (.int (8 : Int32))])) _
            refine XS.isub X0.here hx rfl (hb hby d2_29) rfl ?_
            show Steps p.tables e below (s₁.setTop (mkF m 30 #[.val (.ref a0), .val (.ref a1), .val (.int (3 : Int32)), .val (.int v33)] [(.int (29 : Int32)), (.int (8 : Int32))])) _
            refine XS.imul X0.here hx rfl (hb hby d2_30) rfl ?_
            show Steps p.tables e below (s₁.setTop (mkF m 31 #[.val (.ref a0), .val (.ref a1), .val (.int (3 : Int32)), .val (.int v33)] [(.int (232 : Int32))])) _
            refine XS.iloadN X0.here hx rfl (hb hby d2_31) rfl ?_
            exact k)
          obtain ⟨_, _, ⟨T346, L346, k346, n346⟩, -, X346, ⟨Lc346, hQ346, l346, y346, z346⟩, st346⟩ := Jvm.LawKit.callS X0 hx (y := (⟨"java/lang/Integer", "numberOfLeadingZeros", "(I)I"⟩ : MethodName)) hown (mvT hZ (hw _ (List.mem_of_getElem? (i := 9) rfl))) (mvT hZ (hw _ (List.mem_of_getElem? (i := 10) rfl))) (mvT hZ (hw _ (List.mem_of_getElem? (i := 11) rfl))) (mvT hZ (hw _ (List.mem_of_getElem? (i := 12) rfl))) (by decide) (backOf (W := 1) (rm3 l Z aw hw [] v33 h0 n0 Z0) hZ (hw _ (List.mem_of_getElem? (i := 12) rfl)) (hw _ (List.mem_of_getElem? (i := 11) rfl)) (by decide) (by decide)) (g := (mkF m 32 #[.val (.ref a0), .val (.ref a1), .val (.int (3 : Int32)), .val (.int v33)] [(.int v33), (.int (232 : Int32))])) rfl (by rw [hml]; rfl) (argsL := [(.int v33)]) (rest := [(.int (232 : Int32))]) (lenOf pd_0 rfl) rfl (by show 2 * 0 + _ ≤ _; exact Nat.le_of_eq rfl) (hb hby d2_32) (fun _ _ => ⟨rfl, e0, (by decide : 0 + 0 ≤ _), (by decide : 0 + 0 ≤ _)⟩)
          dsimp only [Pt.U, Pt.locs, Pt.cells, Pt.slots] at X346 l346 y346 z346 st346 hQ346
          subst l346 y346 z346
          obtain ⟨rfl, N346q, e346⟩ := hQ346
          have N346 := Fr.app N0 N346q
          obtain ⟨fs, hr, hrun, hended, hW, hsame⟩ := X346.leave (v := some (.int (((232 : Int32) - (f3 v33)) + (23 : Int32)))) (fun h => by rw [Bd.returns] at h; cases h)
          refine ⟨_, _, pre345 _ ?_, hrun, hended, _, _, rfl, ?_, ⟨_, rfl⟩, hW, hsame.mono (by decide) (by decide)⟩
          · show Steps p.tables e below (s₁.setTop (mkF m 32 #[.val (.ref a0), .val (.ref a1), .val (.int (3 : Int32)), .val (.int v33)] [(.int v33), (.int (232 : Int32))])) _
            refine st346 _ ?_
            show Steps p.tables e below (T346.setTop (mkF m 35 #[.val (.ref a0), .val (.ref a1), .val (.int (3 : Int32)), .val (.int v33)] [(.int (f3 v33)), (.int (232 : Int32))])) _
            refine XS.isub X346.here hx rfl (hb hby d2_35) rfl ?_
            show Steps p.tables e below (T346.setTop (mkF m 36 #[.val (.ref a0), .val (.ref a1), .val (.int (3 : Int32)), .val (.int v33)] [(.int ((232 : Int32) - (f3 v33)))])) _
            refine XS.bipush X346.here hx rfl (hb hby d2_36) ?_
            show Steps p.tables e below (T346.setTop (mkF m 38 #[.val (.ref a0), .val (.ref a1), .val (.int (3 : Int32)), .val (.int v33)] [(.int (23 : Int32)), (.int ((232 : Int32) - (f3 v33)))])) _
            refine XS.iadd X346.here hx rfl (hb hby d2_38) rfl ?_
            show Steps p.tables e below (T346.setTop (mkF m 39 #[.val (.ref a0), .val (.ref a1), .val (.int (3 : Int32)), .val (.int v33)] [(.int (((232 : Int32) - (f3 v33)) + (23 : Int32)))])) _
            exact retI X346 hx Bd.returns (hb hby d2_39) hr
          · show Q2 Z a0 a1 ka_a0 vs_a0 ka_a1 vs_a1 h0 n0 _ T346.heap _
            rw [e346]
            exact ⟨congrArg (fun z => some (Value.int z)) (by subst hv33 hv24 hv15 hv6; simp only [f2, if_pos hc9, if_pos hc18, if_pos hc27, if_neg hc36]), N346, rfl⟩
      · have pre347 : ∀ t, Steps p.tables e below (s₁.setTop (mkF m 32 #[.val (.ref a0), .val (.ref a1), .val (.int (2 : Int32)), .val (.int v24)] [(.int v24), (.int (240 : Int32))])) t → Steps p.tables e below (s₁.setTop (entryFrame m #[(.ref a0), (.ref a1)] 4)) t := fun t k => pre26 t (by
          show Steps p.tables e below (s₁.setTop (mkF m 21 #[.val (.ref a0), .val (.ref a1), .val (.int (2 : Int32)), .val (.int v24)] [(.int v24)])) _
          refine XS.ifNo X0.here hx rfl (hb hby d2_21) rfl ((if0 _ _).trans (feq hc27).1) ?_
          show Steps p.tables e below (s₁.setTop (mkF m 24 #[.val (.ref a0), .val (.ref a1), .val (.int (2 : Int32)), .val (.int v24)] [])) _
          refine XS.bipush X0.here hx rfl (hb hby d2_24) ?_
          show Steps p.tables e below (s₁.setTop (mkF m 26 #[.val (.ref a0), .val (.ref a1), .val (.int (2 : Int32)), .val (.int v24)] [(.int (8 : Int32))])) _
          refine XS.bipush X0.here hx rfl (hb hby d2_26) ?_
          show Steps p.tables e below (s₁.setTop (mkF m 28 #[.val (.ref a0), .val (.ref a1), .val (.int (2 : Int32)), .val (.int v24)] [(.int (32 : Int32)), (.int (8 : Int32))])) _
          refine XS.iloadN X0.here hx rfl (hb hby d2_28) rfl ?_
          show Steps p.tables e below (s₁.setTop (mkF m 29 #[.val (.ref a0), .val (.ref a1), .val (.int (2 : Int32)), .val (.int v24)] [(.int (2 : Int32)), (.int (32 : Int32)), (.int (8 : Int32))])) _
          refine XS.isub X0.here hx rfl (hb hby d2_29) rfl ?_
          show Steps p.tables e below (s₁.setTop (mkF m 30 #[.val (.ref a0), .val (.ref a1), .val (.int (2 : Int32)), .val (.int v24)] [(.int (30 : Int32)), (.int (8 : Int32))])) _
          refine XS.imul X0.here hx rfl (hb hby d2_30) rfl ?_
          show Steps p.tables e below (s₁.setTop (mkF m 31 #[.val (.ref a0), .val (.ref a1), .val (.int (2 : Int32)), .val (.int v24)] [(.int (240 : Int32))])) _
          refine XS.iloadN X0.here hx rfl (hb hby d2_31) rfl ?_
          exact k)
        obtain ⟨_, _, ⟨T348, L348, k348, n348⟩, -, X348, ⟨Lc348, hQ348, l348, y348, z348⟩, st348⟩ := Jvm.LawKit.callS X0 hx (y := (⟨"java/lang/Integer", "numberOfLeadingZeros", "(I)I"⟩ : MethodName)) hown (mvT hZ (hw _ (List.mem_of_getElem? (i := 9) rfl))) (mvT hZ (hw _ (List.mem_of_getElem? (i := 10) rfl))) (mvT hZ (hw _ (List.mem_of_getElem? (i := 11) rfl))) (mvT hZ (hw _ (List.mem_of_getElem? (i := 12) rfl))) (by decide) (backOf (W := 1) (rm3 l Z aw hw [] v24 h0 n0 Z0) hZ (hw _ (List.mem_of_getElem? (i := 12) rfl)) (hw _ (List.mem_of_getElem? (i := 11) rfl)) (by decide) (by decide)) (g := (mkF m 32 #[.val (.ref a0), .val (.ref a1), .val (.int (2 : Int32)), .val (.int v24)] [(.int v24), (.int (240 : Int32))])) rfl (by rw [hml]; rfl) (argsL := [(.int v24)]) (rest := [(.int (240 : Int32))]) (lenOf pd_0 rfl) rfl (by show 2 * 0 + _ ≤ _; exact Nat.le_of_eq rfl) (hb hby d2_32) (fun _ _ => ⟨rfl, e0, (by decide : 0 + 0 ≤ _), (by decide : 0 + 0 ≤ _)⟩)
        dsimp only [Pt.U, Pt.locs, Pt.cells, Pt.slots] at X348 l348 y348 z348 st348 hQ348
        subst l348 y348 z348
        obtain ⟨rfl, N348q, e348⟩ := hQ348
        have N348 := Fr.app N0 N348q
        obtain ⟨fs, hr, hrun, hended, hW, hsame⟩ := X348.leave (v := some (.int (((240 : Int32) - (f3 v24)) + (23 : Int32)))) (fun h => by rw [Bd.returns] at h; cases h)
        refine ⟨_, _, pre347 _ ?_, hrun, hended, _, _, rfl, ?_, ⟨_, rfl⟩, hW, hsame.mono (by decide) (by decide)⟩
        · show Steps p.tables e below (s₁.setTop (mkF m 32 #[.val (.ref a0), .val (.ref a1), .val (.int (2 : Int32)), .val (.int v24)] [(.int v24), (.int (240 : Int32))])) _
          refine st348 _ ?_
          show Steps p.tables e below (T348.setTop (mkF m 35 #[.val (.ref a0), .val (.ref a1), .val (.int (2 : Int32)), .val (.int v24)] [(.int (f3 v24)), (.int (240 : Int32))])) _
          refine XS.isub X348.here hx rfl (hb hby d2_35) rfl ?_
          show Steps p.tables e below (T348.setTop (mkF m 36 #[.val (.ref a0), .val (.ref a1), .val (.int (2 : Int32)), .val (.int v24)] [(.int ((240 : Int32) - (f3 v24)))])) _
          refine XS.bipush X348.here hx rfl (hb hby d2_36) ?_
          show Steps p.tables e below (T348.setTop (mkF m 38 #[.val (.ref a0), .val (.ref a1), .val (.int (2 : Int32)), .val (.int v24)] [(.int (23 : Int32)), (.int ((240 : Int32) - (f3 v24)))])) _
          refine XS.iadd X348.here hx rfl (hb hby d2_38) rfl ?_
          show Steps p.tables e below (T348.setTop (mkF m 39 #[.val (.ref a0), .val (.ref a1), .val (.int (2 : Int32)), .val (.int v24)] [(.int (((240 : Int32) - (f3 v24)) + (23 : Int32)))])) _
          exact retI X348 hx Bd.returns (hb hby d2_39) hr
        · show Q2 Z a0 a1 ka_a0 vs_a0 ka_a1 vs_a1 h0 n0 _ T348.heap _
          rw [e348]
          exact ⟨congrArg (fun z => some (Value.int z)) (by subst hv24 hv15 hv6; simp only [f2, if_pos hc9, if_pos hc18, if_neg hc27]), N348, rfl⟩
    · have pre349 : ∀ t, Steps p.tables e below (s₁.setTop (mkF m 32 #[.val (.ref a0), .val (.ref a1), .val (.int (1 : Int32)), .val (.int v15)] [(.int v15), (.int (248 : Int32))])) t → Steps p.tables e below (s₁.setTop (entryFrame m #[(.ref a0), (.ref a1)] 4)) t := fun t k => pre17 t (by
        show Steps p.tables e below (s₁.setTop (mkF m 21 #[.val (.ref a0), .val (.ref a1), .val (.int (1 : Int32)), .val (.int v15)] [(.int v15)])) _
        refine XS.ifNo X0.here hx rfl (hb hby d2_21) rfl ((if0 _ _).trans (feq hc18).1) ?_
        show Steps p.tables e below (s₁.setTop (mkF m 24 #[.val (.ref a0), .val (.ref a1), .val (.int (1 : Int32)), .val (.int v15)] [])) _
        refine XS.bipush X0.here hx rfl (hb hby d2_24) ?_
        show Steps p.tables e below (s₁.setTop (mkF m 26 #[.val (.ref a0), .val (.ref a1), .val (.int (1 : Int32)), .val (.int v15)] [(.int (8 : Int32))])) _
        refine XS.bipush X0.here hx rfl (hb hby d2_26) ?_
        show Steps p.tables e below (s₁.setTop (mkF m 28 #[.val (.ref a0), .val (.ref a1), .val (.int (1 : Int32)), .val (.int v15)] [(.int (32 : Int32)), (.int (8 : Int32))])) _
        refine XS.iloadN X0.here hx rfl (hb hby d2_28) rfl ?_
        show Steps p.tables e below (s₁.setTop (mkF m 29 #[.val (.ref a0), .val (.ref a1), .val (.int (1 : Int32)), .val (.int v15)] [(.int (1 : Int32)), (.int (32 : Int32)), (.int (8 : Int32))])) _
        refine XS.isub X0.here hx rfl (hb hby d2_29) rfl ?_
        show Steps p.tables e below (s₁.setTop (mkF m 30 #[.val (.ref a0), .val (.ref a1), .val (.int (1 : Int32)), .val (.int v15)] [(.int (31 : Int32)), (.int (8 : Int32))])) _
        refine XS.imul X0.here hx rfl (hb hby d2_30) rfl ?_
        show Steps p.tables e below (s₁.setTop (mkF m 31 #[.val (.ref a0), .val (.ref a1), .val (.int (1 : Int32)), .val (.int v15)] [(.int (248 : Int32))])) _
        refine XS.iloadN X0.here hx rfl (hb hby d2_31) rfl ?_
        exact k)
      obtain ⟨_, _, ⟨T350, L350, k350, n350⟩, -, X350, ⟨Lc350, hQ350, l350, y350, z350⟩, st350⟩ := Jvm.LawKit.callS X0 hx (y := (⟨"java/lang/Integer", "numberOfLeadingZeros", "(I)I"⟩ : MethodName)) hown (mvT hZ (hw _ (List.mem_of_getElem? (i := 9) rfl))) (mvT hZ (hw _ (List.mem_of_getElem? (i := 10) rfl))) (mvT hZ (hw _ (List.mem_of_getElem? (i := 11) rfl))) (mvT hZ (hw _ (List.mem_of_getElem? (i := 12) rfl))) (by decide) (backOf (W := 1) (rm3 l Z aw hw [] v15 h0 n0 Z0) hZ (hw _ (List.mem_of_getElem? (i := 12) rfl)) (hw _ (List.mem_of_getElem? (i := 11) rfl)) (by decide) (by decide)) (g := (mkF m 32 #[.val (.ref a0), .val (.ref a1), .val (.int (1 : Int32)), .val (.int v15)] [(.int v15), (.int (248 : Int32))])) rfl (by rw [hml]; rfl) (argsL := [(.int v15)]) (rest := [(.int (248 : Int32))]) (lenOf pd_0 rfl) rfl (by show 2 * 0 + _ ≤ _; exact Nat.le_of_eq rfl) (hb hby d2_32) (fun _ _ => ⟨rfl, e0, (by decide : 0 + 0 ≤ _), (by decide : 0 + 0 ≤ _)⟩)
      dsimp only [Pt.U, Pt.locs, Pt.cells, Pt.slots] at X350 l350 y350 z350 st350 hQ350
      subst l350 y350 z350
      obtain ⟨rfl, N350q, e350⟩ := hQ350
      have N350 := Fr.app N0 N350q
      obtain ⟨fs, hr, hrun, hended, hW, hsame⟩ := X350.leave (v := some (.int (((248 : Int32) - (f3 v15)) + (23 : Int32)))) (fun h => by rw [Bd.returns] at h; cases h)
      refine ⟨_, _, pre349 _ ?_, hrun, hended, _, _, rfl, ?_, ⟨_, rfl⟩, hW, hsame.mono (by decide) (by decide)⟩
      · show Steps p.tables e below (s₁.setTop (mkF m 32 #[.val (.ref a0), .val (.ref a1), .val (.int (1 : Int32)), .val (.int v15)] [(.int v15), (.int (248 : Int32))])) _
        refine st350 _ ?_
        show Steps p.tables e below (T350.setTop (mkF m 35 #[.val (.ref a0), .val (.ref a1), .val (.int (1 : Int32)), .val (.int v15)] [(.int (f3 v15)), (.int (248 : Int32))])) _
        refine XS.isub X350.here hx rfl (hb hby d2_35) rfl ?_
        show Steps p.tables e below (T350.setTop (mkF m 36 #[.val (.ref a0), .val (.ref a1), .val (.int (1 : Int32)), .val (.int v15)] [(.int ((248 : Int32) - (f3 v15)))])) _
        refine XS.bipush X350.here hx rfl (hb hby d2_36) ?_
        show Steps p.tables e below (T350.setTop (mkF m 38 #[.val (.ref a0), .val (.ref a1), .val (.int (1 : Int32)), .val (.int v15)] [(.int (23 : Int32)), (.int ((248 : Int32) - (f3 v15)))])) _
        refine XS.iadd X350.here hx rfl (hb hby d2_38) rfl ?_
        show Steps p.tables e below (T350.setTop (mkF m 39 #[.val (.ref a0), .val (.ref a1), .val (.int (1 : Int32)), .val (.int v15)] [(.int (((248 : Int32) - (f3 v15)) + (23 : Int32)))])) _
        exact retI X350 hx Bd.returns (hb hby d2_39) hr
      · show Q2 Z a0 a1 ka_a0 vs_a0 ka_a1 vs_a1 h0 n0 _ T350.heap _
        rw [e350]
        exact ⟨congrArg (fun z => some (Value.int z)) (by subst hv15 hv6; simp only [f2, if_pos hc9, if_neg hc18]), N350, rfl⟩
  · have pre351 : ∀ t, Steps p.tables e below (s₁.setTop (mkF m 32 #[.val (.ref a0), .val (.ref a1), .val (.int (0 : Int32)), .val (.int v6)] [(.int v6), (.int (256 : Int32))])) t → Steps p.tables e below (s₁.setTop (entryFrame m #[(.ref a0), (.ref a1)] 4)) t := fun t k => pre8 t (by
      show Steps p.tables e below (s₁.setTop (mkF m 21 #[.val (.ref a0), .val (.ref a1), .val (.int (0 : Int32)), .val (.int v6)] [(.int v6)])) _
      refine XS.ifNo X0.here hx rfl (hb hby d2_21) rfl ((if0 _ _).trans (feq hc9).1) ?_
      show Steps p.tables e below (s₁.setTop (mkF m 24 #[.val (.ref a0), .val (.ref a1), .val (.int (0 : Int32)), .val (.int v6)] [])) _
      refine XS.bipush X0.here hx rfl (hb hby d2_24) ?_
      show Steps p.tables e below (s₁.setTop (mkF m 26 #[.val (.ref a0), .val (.ref a1), .val (.int (0 : Int32)), .val (.int v6)] [(.int (8 : Int32))])) _
      refine XS.bipush X0.here hx rfl (hb hby d2_26) ?_
      show Steps p.tables e below (s₁.setTop (mkF m 28 #[.val (.ref a0), .val (.ref a1), .val (.int (0 : Int32)), .val (.int v6)] [(.int (32 : Int32)), (.int (8 : Int32))])) _
      refine XS.iloadN X0.here hx rfl (hb hby d2_28) rfl ?_
      show Steps p.tables e below (s₁.setTop (mkF m 29 #[.val (.ref a0), .val (.ref a1), .val (.int (0 : Int32)), .val (.int v6)] [(.int (0 : Int32)), (.int (32 : Int32)), (.int (8 : Int32))])) _
      refine XS.isub X0.here hx rfl (hb hby d2_29) rfl ?_
      show Steps p.tables e below (s₁.setTop (mkF m 30 #[.val (.ref a0), .val (.ref a1), .val (.int (0 : Int32)), .val (.int v6)] [(.int (32 : Int32)), (.int (8 : Int32))])) _
      refine XS.imul X0.here hx rfl (hb hby d2_30) rfl ?_
      show Steps p.tables e below (s₁.setTop (mkF m 31 #[.val (.ref a0), .val (.ref a1), .val (.int (0 : Int32)), .val (.int v6)] [(.int (256 : Int32))])) _
      refine XS.iloadN X0.here hx rfl (hb hby d2_31) rfl ?_
      exact k)
    obtain ⟨_, _, ⟨T352, L352, k352, n352⟩, -, X352, ⟨Lc352, hQ352, l352, y352, z352⟩, st352⟩ := Jvm.LawKit.callS X0 hx (y := (⟨"java/lang/Integer", "numberOfLeadingZeros", "(I)I"⟩ : MethodName)) hown (mvT hZ (hw _ (List.mem_of_getElem? (i := 9) rfl))) (mvT hZ (hw _ (List.mem_of_getElem? (i := 10) rfl))) (mvT hZ (hw _ (List.mem_of_getElem? (i := 11) rfl))) (mvT hZ (hw _ (List.mem_of_getElem? (i := 12) rfl))) (by decide) (backOf (W := 1) (rm3 l Z aw hw [] v6 h0 n0 Z0) hZ (hw _ (List.mem_of_getElem? (i := 12) rfl)) (hw _ (List.mem_of_getElem? (i := 11) rfl)) (by decide) (by decide)) (g := (mkF m 32 #[.val (.ref a0), .val (.ref a1), .val (.int (0 : Int32)), .val (.int v6)] [(.int v6), (.int (256 : Int32))])) rfl (by rw [hml]; rfl) (argsL := [(.int v6)]) (rest := [(.int (256 : Int32))]) (lenOf pd_0 rfl) rfl (by show 2 * 0 + _ ≤ _; exact Nat.le_of_eq rfl) (hb hby d2_32) (fun _ _ => ⟨rfl, e0, (by decide : 0 + 0 ≤ _), (by decide : 0 + 0 ≤ _)⟩)
    dsimp only [Pt.U, Pt.locs, Pt.cells, Pt.slots] at X352 l352 y352 z352 st352 hQ352
    subst l352 y352 z352
    obtain ⟨rfl, N352q, e352⟩ := hQ352
    have N352 := Fr.app N0 N352q
    obtain ⟨fs, hr, hrun, hended, hW, hsame⟩ := X352.leave (v := some (.int (((256 : Int32) - (f3 v6)) + (23 : Int32)))) (fun h => by rw [Bd.returns] at h; cases h)
    refine ⟨_, _, pre351 _ ?_, hrun, hended, _, _, rfl, ?_, ⟨_, rfl⟩, hW, hsame.mono (by decide) (by decide)⟩
    · show Steps p.tables e below (s₁.setTop (mkF m 32 #[.val (.ref a0), .val (.ref a1), .val (.int (0 : Int32)), .val (.int v6)] [(.int v6), (.int (256 : Int32))])) _
      refine st352 _ ?_
      show Steps p.tables e below (T352.setTop (mkF m 35 #[.val (.ref a0), .val (.ref a1), .val (.int (0 : Int32)), .val (.int v6)] [(.int (f3 v6)), (.int (256 : Int32))])) _
      refine XS.isub X352.here hx rfl (hb hby d2_35) rfl ?_
      show Steps p.tables e below (T352.setTop (mkF m 36 #[.val (.ref a0), .val (.ref a1), .val (.int (0 : Int32)), .val (.int v6)] [(.int ((256 : Int32) - (f3 v6)))])) _
      refine XS.bipush X352.here hx rfl (hb hby d2_36) ?_
      show Steps p.tables e below (T352.setTop (mkF m 38 #[.val (.ref a0), .val (.ref a1), .val (.int (0 : Int32)), .val (.int v6)] [(.int (23 : Int32)), (.int ((256 : Int32) - (f3 v6)))])) _
      refine XS.iadd X352.here hx rfl (hb hby d2_38) rfl ?_
      show Steps p.tables e below (T352.setTop (mkF m 39 #[.val (.ref a0), .val (.ref a1), .val (.int (0 : Int32)), .val (.int v6)] [(.int (((256 : Int32) - (f3 v6)) + (23 : Int32)))])) _
      exact retI X352 hx Bd.returns (hb hby d2_39) hr
    · show Q2 Z a0 a1 ka_a0 vs_a0 ka_a1 vs_a1 h0 n0 _ T352.heap _
      rw [e352]
      exact ⟨congrArg (fun z => some (Value.int z)) (by subst hv6; simp only [f2, if_neg hc9]), N352, rfl⟩
theorem pd_1 : parseMethodDescriptor "([B[B)I" = some ⟨[(.array .byte), (.array .byte)], some .int⟩ := by decide +kernel
theorem ef_0 (m : MethodId) (x0 : Int32) (x1 : Int32) (x2 : Int32) (x3 : Int32) (x4 : Int32) : entryFrame m #[(.int x0), (.int x1), (.int x2), (.int x3), (.int x4)] maxLocals = mkF m 0 #[.val (.int x0), .val (.int x1), .val (.int x2), .val (.int x3), .val (.int x4), .unset, .unset, .unset, .unset, .unset, .unset, .unset, .unset, .unset] [] := by first | (simp [entryFrame, mkF, argsToLocals, Value.category, maxLocals]; done) | rfl
def f0 (p0 : Int32) (p1 : Int32) (p2 : Int32) (p3 : Int32) (p4 : Int32) : Int32 := (let v2 : Int32 := (p0 &&& (31 : Int32)); (let v5 : Int32 := (((p0.toUInt32 >>> ((5 : Int32) &&& 31).toUInt32).toInt32) &&& (31 : Int32)); (let v8 : Int32 := (((p0.toUInt32 >>> ((10 : Int32) &&& 31).toUInt32).toInt32) &&& (31 : Int32)); (let vs14 : List Int32 := [(0 : Int32), (0 : Int32), (0 : Int32), (0 : Int32), (0 : Int32), (0 : Int32), (0 : Int32), (0 : Int32), (0 : Int32), (0 : Int32), (0 : Int32), (0 : Int32), (0 : Int32), (0 : Int32), (0 : Int32), (0 : Int32), (0 : Int32), (0 : Int32), (0 : Int32), (0 : Int32), (0 : Int32), (0 : Int32), (0 : Int32), (0 : Int32), (0 : Int32), (0 : Int32), (0 : Int32), (0 : Int32), (0 : Int32), (0 : Int32), (0 : Int32), (0 : Int32)]; (let vs17 : List Int32 := vs14.set (v8).toNatClampNeg (nar .byte (p4.toInt8.toInt32)); (let vs18 : List Int32 := [(0 : Int32), (0 : Int32), (0 : Int32), (0 : Int32), (0 : Int32), (0 : Int32), (0 : Int32), (0 : Int32), (0 : Int32), (0 : Int32), (0 : Int32), (0 : Int32), (0 : Int32), (0 : Int32), (0 : Int32), (0 : Int32), (0 : Int32), (0 : Int32), (0 : Int32), (0 : Int32), (0 : Int32), (0 : Int32), (0 : Int32), (0 : Int32), (0 : Int32), (0 : Int32), (0 : Int32), (0 : Int32), (0 : Int32), (0 : Int32), (0 : Int32), (0 : Int32)]; (let vs21 : List Int32 := vs18.set (v8).toNatClampNeg (nar .byte (p4.toInt8.toInt32)); (let vs24 : List Int32 := vs17.set (v2).toNatClampNeg (nar .byte (p1.toInt8.toInt32)); (let vs27 : List Int32 := vs21.set (v2).toNatClampNeg (nar .byte (p2.toInt8.toInt32)); (if v2 < v5 then (let vs32 : List Int32 := vs24.set (v5).toNatClampNeg (nar .byte (p3.toInt8.toInt32)); (let v34 : Int32 := ((p1 ^^^ p2) &&& (255 : Int32)); (let j48 : Int32 := (if v34 = (0 : Int32) then (let j40 : Int32 := (if v5 = v8 then (p4 &&& (255 : Int32)) else (0 : Int32)); (if ((p3 ^^^ j40) &&& (255 : Int32)) = (0 : Int32) then (-1 : Int32) else (((8 : Int32) * ((31 : Int32) - v5)) + (f1 ((p3 ^^^ j40) &&& (255 : Int32)))))) else (((8 : Int32) * ((31 : Int32) - v2)) + (f1 v34))); (let v56 : Int32 := (f2 vs32 vs27); (let v61 : Int32 := (f2 vs27 vs32); (let j67 : Int32 := (if v56 = j48 then (if v61 = j48 then (1 : Int32) else (0 : Int32)) else (0 : Int32)); (nar .boolean j67))))))) else (let v70 : Int32 := ((p1 ^^^ p2) &&& (255 : Int32)); (let j80 : Int32 := (if v70 = (0 : Int32) then (let j76 : Int32 := (if v5 = v8 then (p4 &&& (255 : Int32)) else (0 : Int32)); (-1 : Int32)) else (((8 : Int32) * ((31 : Int32) - v2)) + (f1 v70))); (let v88 : Int32 := (f2 vs24 vs27); (let v93 : Int32 := (f2 vs27 vs24); (let j99 : Int32 := (if v88 = j80 then (if v93 = j80 then (1 : Int32) else (0 : Int32)) else (0 : Int32)); (nar .boolean j99))))))))))))))))
def Q0 (Z : State) (p0 : Int32) (p1 : Int32) (p2 : Int32) (p3 : Int32) (p4 : Int32) (h0 : Heap) (n0 : Nat) (v : Option Value) (h : Heap) (L : List Loc) : Prop := v = some (.int (1 : Int32)) ∧ Fr n0 L
theorem own_in0_42 (p0 : Int32) (p1 : Int32) (p2 : Int32) (p3 : Int32) (p4 : Int32) (v2 : Int32) (hv2 : v2 = (p0 &&& (31 : Int32))) (v5 : Int32) (hv5 : v5 = (((p0.toUInt32 >>> ((5 : Int32) &&& 31).toUInt32).toInt32) &&& (31 : Int32))) (v8 : Int32) (hv8 : v8 = (((p0.toUInt32 >>> ((10 : Int32) &&& 31).toUInt32).toInt32) &&& (31 : Int32))) (vs14 : List Int32) (hvs14 : vs14 = [(0 : Int32), (0 : Int32), (0 : Int32), (0 : Int32), (0 : Int32), (0 : Int32), (0 : Int32), (0 : Int32), (0 : Int32), (0 : Int32), (0 : Int32), (0 : Int32), (0 : Int32), (0 : Int32), (0 : Int32), (0 : Int32), (0 : Int32), (0 : Int32), (0 : Int32), (0 : Int32), (0 : Int32), (0 : Int32), (0 : Int32), (0 : Int32), (0 : Int32), (0 : Int32), (0 : Int32), (0 : Int32), (0 : Int32), (0 : Int32), (0 : Int32), (0 : Int32)]) : ¬ v8 < 0 ∧ v8 < (32 : Int32) := by
  first | (rw [hv8]; exact own_m31 _) | (rw [hv2]; exact own_m31 _) | (rw [hv5]; exact own_m31 _)
theorem own_in0_50 (p0 : Int32) (p1 : Int32) (p2 : Int32) (p3 : Int32) (p4 : Int32) (v2 : Int32) (hv2 : v2 = (p0 &&& (31 : Int32))) (v5 : Int32) (hv5 : v5 = (((p0.toUInt32 >>> ((5 : Int32) &&& 31).toUInt32).toInt32) &&& (31 : Int32))) (v8 : Int32) (hv8 : v8 = (((p0.toUInt32 >>> ((10 : Int32) &&& 31).toUInt32).toInt32) &&& (31 : Int32))) (vs14 : List Int32) (hvs14 : vs14 = [(0 : Int32), (0 : Int32), (0 : Int32), (0 : Int32), (0 : Int32), (0 : Int32), (0 : Int32), (0 : Int32), (0 : Int32), (0 : Int32), (0 : Int32), (0 : Int32), (0 : Int32), (0 : Int32), (0 : Int32), (0 : Int32), (0 : Int32), (0 : Int32), (0 : Int32), (0 : Int32), (0 : Int32), (0 : Int32), (0 : Int32), (0 : Int32), (0 : Int32), (0 : Int32), (0 : Int32), (0 : Int32), (0 : Int32), (0 : Int32), (0 : Int32), (0 : Int32)]) (vs17 : List Int32) (hvs17 : vs17 = vs14.set (v8).toNatClampNeg (nar .byte (p4.toInt8.toInt32))) (vs18 : List Int32) (hvs18 : vs18 = [(0 : Int32), (0 : Int32), (0 : Int32), (0 : Int32), (0 : Int32), (0 : Int32), (0 : Int32), (0 : Int32), (0 : Int32), (0 : Int32), (0 : Int32), (0 : Int32), (0 : Int32), (0 : Int32), (0 : Int32), (0 : Int32), (0 : Int32), (0 : Int32), (0 : Int32), (0 : Int32), (0 : Int32), (0 : Int32), (0 : Int32), (0 : Int32), (0 : Int32), (0 : Int32), (0 : Int32), (0 : Int32), (0 : Int32), (0 : Int32), (0 : Int32), (0 : Int32)]) : ¬ v8 < 0 ∧ v8 < (32 : Int32) := by
  first | (rw [hv8]; exact own_m31 _) | (rw [hv2]; exact own_m31 _) | (rw [hv5]; exact own_m31 _)
theorem own_in0_57 (p0 : Int32) (p1 : Int32) (p2 : Int32) (p3 : Int32) (p4 : Int32) (v2 : Int32) (hv2 : v2 = (p0 &&& (31 : Int32))) (v5 : Int32) (hv5 : v5 = (((p0.toUInt32 >>> ((5 : Int32) &&& 31).toUInt32).toInt32) &&& (31 : Int32))) (v8 : Int32) (hv8 : v8 = (((p0.toUInt32 >>> ((10 : Int32) &&& 31).toUInt32).toInt32) &&& (31 : Int32))) (vs14 : List Int32) (hvs14 : vs14 = [(0 : Int32), (0 : Int32), (0 : Int32), (0 : Int32), (0 : Int32), (0 : Int32), (0 : Int32), (0 : Int32), (0 : Int32), (0 : Int32), (0 : Int32), (0 : Int32), (0 : Int32), (0 : Int32), (0 : Int32), (0 : Int32), (0 : Int32), (0 : Int32), (0 : Int32), (0 : Int32), (0 : Int32), (0 : Int32), (0 : Int32), (0 : Int32), (0 : Int32), (0 : Int32), (0 : Int32), (0 : Int32), (0 : Int32), (0 : Int32), (0 : Int32), (0 : Int32)]) (vs17 : List Int32) (hvs17 : vs17 = vs14.set (v8).toNatClampNeg (nar .byte (p4.toInt8.toInt32))) (vs18 : List Int32) (hvs18 : vs18 = [(0 : Int32), (0 : Int32), (0 : Int32), (0 : Int32), (0 : Int32), (0 : Int32), (0 : Int32), (0 : Int32), (0 : Int32), (0 : Int32), (0 : Int32), (0 : Int32), (0 : Int32), (0 : Int32), (0 : Int32), (0 : Int32), (0 : Int32), (0 : Int32), (0 : Int32), (0 : Int32), (0 : Int32), (0 : Int32), (0 : Int32), (0 : Int32), (0 : Int32), (0 : Int32), (0 : Int32), (0 : Int32), (0 : Int32), (0 : Int32), (0 : Int32), (0 : Int32)]) (vs21 : List Int32) (hvs21 : vs21 = vs18.set (v8).toNatClampNeg (nar .byte (p4.toInt8.toInt32))) : ¬ v2 < 0 ∧ v2 < (32 : Int32) := by
  first | (rw [hv8]; exact own_m31 _) | (rw [hv2]; exact own_m31 _) | (rw [hv5]; exact own_m31 _)
theorem own_in0_64 (p0 : Int32) (p1 : Int32) (p2 : Int32) (p3 : Int32) (p4 : Int32) (v2 : Int32) (hv2 : v2 = (p0 &&& (31 : Int32))) (v5 : Int32) (hv5 : v5 = (((p0.toUInt32 >>> ((5 : Int32) &&& 31).toUInt32).toInt32) &&& (31 : Int32))) (v8 : Int32) (hv8 : v8 = (((p0.toUInt32 >>> ((10 : Int32) &&& 31).toUInt32).toInt32) &&& (31 : Int32))) (vs14 : List Int32) (hvs14 : vs14 = [(0 : Int32), (0 : Int32), (0 : Int32), (0 : Int32), (0 : Int32), (0 : Int32), (0 : Int32), (0 : Int32), (0 : Int32), (0 : Int32), (0 : Int32), (0 : Int32), (0 : Int32), (0 : Int32), (0 : Int32), (0 : Int32), (0 : Int32), (0 : Int32), (0 : Int32), (0 : Int32), (0 : Int32), (0 : Int32), (0 : Int32), (0 : Int32), (0 : Int32), (0 : Int32), (0 : Int32), (0 : Int32), (0 : Int32), (0 : Int32), (0 : Int32), (0 : Int32)]) (vs17 : List Int32) (hvs17 : vs17 = vs14.set (v8).toNatClampNeg (nar .byte (p4.toInt8.toInt32))) (vs18 : List Int32) (hvs18 : vs18 = [(0 : Int32), (0 : Int32), (0 : Int32), (0 : Int32), (0 : Int32), (0 : Int32), (0 : Int32), (0 : Int32), (0 : Int32), (0 : Int32), (0 : Int32), (0 : Int32), (0 : Int32), (0 : Int32), (0 : Int32), (0 : Int32), (0 : Int32), (0 : Int32), (0 : Int32), (0 : Int32), (0 : Int32), (0 : Int32), (0 : Int32), (0 : Int32), (0 : Int32), (0 : Int32), (0 : Int32), (0 : Int32), (0 : Int32), (0 : Int32), (0 : Int32), (0 : Int32)]) (vs21 : List Int32) (hvs21 : vs21 = vs18.set (v8).toNatClampNeg (nar .byte (p4.toInt8.toInt32))) (vs24 : List Int32) (hvs24 : vs24 = vs17.set (v2).toNatClampNeg (nar .byte (p1.toInt8.toInt32))) : ¬ v2 < 0 ∧ v2 < (32 : Int32) := by
  first | (rw [hv8]; exact own_m31 _) | (rw [hv2]; exact own_m31 _) | (rw [hv5]; exact own_m31 _)
theorem own_in0_78 (p0 : Int32) (p1 : Int32) (p2 : Int32) (p3 : Int32) (p4 : Int32) (v2 : Int32) (hv2 : v2 = (p0 &&& (31 : Int32))) (v5 : Int32) (hv5 : v5 = (((p0.toUInt32 >>> ((5 : Int32) &&& 31).toUInt32).toInt32) &&& (31 : Int32))) (v8 : Int32) (hv8 : v8 = (((p0.toUInt32 >>> ((10 : Int32) &&& 31).toUInt32).toInt32) &&& (31 : Int32))) (vs14 : List Int32) (hvs14 : vs14 = [(0 : Int32), (0 : Int32), (0 : Int32), (0 : Int32), (0 : Int32), (0 : Int32), (0 : Int32), (0 : Int32), (0 : Int32), (0 : Int32), (0 : Int32), (0 : Int32), (0 : Int32), (0 : Int32), (0 : Int32), (0 : Int32), (0 : Int32), (0 : Int32), (0 : Int32), (0 : Int32), (0 : Int32), (0 : Int32), (0 : Int32), (0 : Int32), (0 : Int32), (0 : Int32), (0 : Int32), (0 : Int32), (0 : Int32), (0 : Int32), (0 : Int32), (0 : Int32)]) (vs17 : List Int32) (hvs17 : vs17 = vs14.set (v8).toNatClampNeg (nar .byte (p4.toInt8.toInt32))) (vs18 : List Int32) (hvs18 : vs18 = [(0 : Int32), (0 : Int32), (0 : Int32), (0 : Int32), (0 : Int32), (0 : Int32), (0 : Int32), (0 : Int32), (0 : Int32), (0 : Int32), (0 : Int32), (0 : Int32), (0 : Int32), (0 : Int32), (0 : Int32), (0 : Int32), (0 : Int32), (0 : Int32), (0 : Int32), (0 : Int32), (0 : Int32), (0 : Int32), (0 : Int32), (0 : Int32), (0 : Int32), (0 : Int32), (0 : Int32), (0 : Int32), (0 : Int32), (0 : Int32), (0 : Int32), (0 : Int32)]) (vs21 : List Int32) (hvs21 : vs21 = vs18.set (v8).toNatClampNeg (nar .byte (p4.toInt8.toInt32))) (vs24 : List Int32) (hvs24 : vs24 = vs17.set (v2).toNatClampNeg (nar .byte (p1.toInt8.toInt32))) (vs27 : List Int32) (hvs27 : vs27 = vs21.set (v2).toNatClampNeg (nar .byte (p2.toInt8.toInt32))) (hc29 : v2 < v5) : ¬ v5 < 0 ∧ v5 < (32 : Int32) := by
  first | (rw [hv8]; exact own_m31 _) | (rw [hv2]; exact own_m31 _) | (rw [hv5]; exact own_m31 _)
set_option maxRecDepth 65536 in
set_option maxHeartbeats 40000000 in
theorem rm0 (l : Launch) (Z : State) (aw : Array Value) (hw : ∀ d ∈ tables_1, d.before aw Z = true) (ws : List Jvm.Cond) (p0 : Int32) (p1 : Int32) (p2 : Int32) (p3 : Int32) (p4 : Int32) (h0 : Heap) (n0 : Nat) (Z0 : n0 ≤ h0.size) (hlaw : f0 p0 p1 p2 p3 p4 = 1) :
    MetFree l x (head1 (Jvm.Cond.code x code maxLocals ret :: ws) room_1) (fun a U => a = #[(.int p0), (.int p1), (.int p2), (.int p3), (.int p4)] ∧ Z.Warmed39 U.vm ∧ U.heap = h0) (fun _ _ _ _ _ => True) (fun _ U o U' => ∃ v L, o = .returned v ∧ Q0 Z p0 p1 p2 p3 p4 h0 n0 v U'.heap L ∧ FrameEnd U o U' L room_1.cells room_1.slots) := by
  refine MetFree.of_bodySF (plainFor_of_name pn_1) hisR ?_
  intro p e s m args below meth c s₁ Bd hml0 hP hK
  obtain ⟨rfl, hZ, hh⟩ := hP
  have hx := Bd.exec
  have hby := Bd.bytes
  have hml : c.maxLocals = 14 := hml0
  have hown : s.vm.findClass "com/example/hopwise/hopwise/node/DistanceHighestBitPinLaw" = some m.cls := findClass_of_methodNamed Bd.named
  have hnm := (name_of_methodNamed Bd.named Bd.method).1
  have X0 : Stand p l e room_1 s m #[(.int p0), (.int p1), (.int p2), (.int p3), (.int p4)] below meth c s₁ [] 0 0 := Stand.of_body Bd
  have e0 : s₁.heap = h0 := by rw [← hh, Bd.state]; rfl
  have N0 := Fr.nil n0
  have pre0 : ∀ t, Steps p.tables e below (s₁.setTop (mkF m 0 #[.val (.int p0), .val (.int p1), .val (.int p2), .val (.int p3), .val (.int p4), .unset, .unset, .unset, .unset, .unset, .unset, .unset, .unset, .unset] [])) t → Steps p.tables e below (s₁.setTop (entryFrame m #[(.int p0), (.int p1), (.int p2), (.int p3), (.int p4)] maxLocals)) t := fun t k => castTop (ef_0 m p0 p1 p2 p3 p4) k
  have pre1 : ∀ t, Steps p.tables e below (s₁.setTop (mkF m 4 #[.val (.int p0), .val (.int p1), .val (.int p2), .val (.int p3), .val (.int p4), .unset, .unset, .unset, .unset, .unset, .unset, .unset, .unset, .unset] [(.int (p0 &&& (31 : Int32)))])) t → Steps p.tables e below (s₁.setTop (entryFrame m #[(.int p0), (.int p1), (.int p2), (.int p3), (.int p4)] maxLocals)) t := fun t k => pre0 t (by
    show Steps p.tables e below (s₁.setTop (mkF m 0 #[.val (.int p0), .val (.int p1), .val (.int p2), .val (.int p3), .val (.int p4), .unset, .unset, .unset, .unset, .unset, .unset, .unset, .unset, .unset] [])) _
    refine XS.iloadN X0.here hx rfl (hb hby at_0) rfl ?_
    show Steps p.tables e below (s₁.setTop (mkF m 1 #[.val (.int p0), .val (.int p1), .val (.int p2), .val (.int p3), .val (.int p4), .unset, .unset, .unset, .unset, .unset, .unset, .unset, .unset, .unset] [(.int p0)])) _
    refine XS.bipush X0.here hx rfl (hb hby at_1) ?_
    show Steps p.tables e below (s₁.setTop (mkF m 3 #[.val (.int p0), .val (.int p1), .val (.int p2), .val (.int p3), .val (.int p4), .unset, .unset, .unset, .unset, .unset, .unset, .unset, .unset, .unset] [(.int (31 : Int32)), (.int p0)])) _
    refine XS.iand X0.here hx rfl (hb hby at_3) rfl ?_
    exact k)
  obtain ⟨v2, hv2⟩ : ∃ z : Int32, z = (p0 &&& (31 : Int32)) := ⟨_, rfl⟩
  have pre3 : ∀ t, Steps p.tables e below (s₁.setTop (mkF m 4 #[.val (.int p0), .val (.int p1), .val (.int p2), .val (.int p3), .val (.int p4), .unset, .unset, .unset, .unset, .unset, .unset, .unset, .unset, .unset] [(.int v2)])) t → Steps p.tables e below (s₁.setTop (entryFrame m #[(.int p0), (.int p1), (.int p2), (.int p3), (.int p4)] maxLocals)) t := fun t k => pre1 t (by rw [hv2] at k; exact k)
  have pre4 : ∀ t, Steps p.tables e below (s₁.setTop (mkF m 12 #[.val (.int p0), .val (.int p1), .val (.int p2), .val (.int p3), .val (.int p4), .val (.int v2), .unset, .unset, .unset, .unset, .unset, .unset, .unset, .unset] [(.int (((p0.toUInt32 >>> ((5 : Int32) &&& 31).toUInt32).toInt32) &&& (31 : Int32)))])) t → Steps p.tables e below (s₁.setTop (entryFrame m #[(.int p0), (.int p1), (.int p2), (.int p3), (.int p4)] maxLocals)) t := fun t k => pre3 t (by
    show Steps p.tables e below (s₁.setTop (mkF m 4 #[.val (.int p0), .val (.int p1), .val (.int p2), .val (.int p3), .val (.int p4), .unset, .unset, .unset, .unset, .unset, .unset, .unset, .unset, .unset] [(.int v2)])) _
    refine XS.istore X0.here hx rfl (hb hby at_4) rfl (l' := #[.val (.int p0), .val (.int p1), .val (.int p2), .val (.int p3), .val (.int p4), .val (.int v2), .unset, .unset, .unset, .unset, .unset, .unset, .unset, .unset]) rfl ?_
    show Steps p.tables e below (s₁.setTop (mkF m 6 #[.val (.int p0), .val (.int p1), .val (.int p2), .val (.int p3), .val (.int p4), .val (.int v2), .unset, .unset, .unset, .unset, .unset, .unset, .unset, .unset] [])) _
    refine XS.iloadN X0.here hx rfl (hb hby at_6) rfl ?_
    show Steps p.tables e below (s₁.setTop (mkF m 7 #[.val (.int p0), .val (.int p1), .val (.int p2), .val (.int p3), .val (.int p4), .val (.int v2), .unset, .unset, .unset, .unset, .unset, .unset, .unset, .unset] [(.int p0)])) _
    refine XS.iconst X0.here hx rfl (hb hby at_7) ?_
    show Steps p.tables e below (s₁.setTop (mkF m 8 #[.val (.int p0), .val (.int p1), .val (.int p2), .val (.int p3), .val (.int p4), .val (.int v2), .unset, .unset, .unset, .unset, .unset, .unset, .unset, .unset] [(.int (5 : Int32)), (.int p0)])) _
    refine XS.iushr X0.here hx rfl (hb hby at_8) rfl ?_
    show Steps p.tables e below (s₁.setTop (mkF m 9 #[.val (.int p0), .val (.int p1), .val (.int p2), .val (.int p3), .val (.int p4), .val (.int v2), .unset, .unset, .unset, .unset, .unset, .unset, .unset, .unset] [(.int ((p0.toUInt32 >>> ((5 : Int32) &&& 31).toUInt32).toInt32))])) _
    refine XS.bipush X0.here hx rfl (hb hby at_9) ?_
    show Steps p.tables e below (s₁.setTop (mkF m 11 #[.val (.int p0), .val (.int p1), .val (.int p2), .val (.int p3), .val (.int p4), .val (.int v2), .unset, .unset, .unset, .unset, .unset, .unset, .unset, .unset] [(.int (31 : Int32)), (.int ((p0.toUInt32 >>> ((5 : Int32) &&& 31).toUInt32).toInt32))])) _
    refine XS.iand X0.here hx rfl (hb hby at_11) rfl ?_
    exact k)
  obtain ⟨v5, hv5⟩ : ∃ z : Int32, z = (((p0.toUInt32 >>> ((5 : Int32) &&& 31).toUInt32).toInt32) &&& (31 : Int32)) := ⟨_, rfl⟩
  have pre6 : ∀ t, Steps p.tables e below (s₁.setTop (mkF m 12 #[.val (.int p0), .val (.int p1), .val (.int p2), .val (.int p3), .val (.int p4), .val (.int v2), .unset, .unset, .unset, .unset, .unset, .unset, .unset, .unset] [(.int v5)])) t → Steps p.tables e below (s₁.setTop (entryFrame m #[(.int p0), (.int p1), (.int p2), (.int p3), (.int p4)] maxLocals)) t := fun t k => pre4 t (by rw [hv5] at k; exact k)
  have pre7 : ∀ t, Steps p.tables e below (s₁.setTop (mkF m 21 #[.val (.int p0), .val (.int p1), .val (.int p2), .val (.int p3), .val (.int p4), .val (.int v2), .val (.int v5), .unset, .unset, .unset, .unset, .unset, .unset, .unset] [(.int (((p0.toUInt32 >>> ((10 : Int32) &&& 31).toUInt32).toInt32) &&& (31 : Int32)))])) t → Steps p.tables e below (s₁.setTop (entryFrame m #[(.int p0), (.int p1), (.int p2), (.int p3), (.int p4)] maxLocals)) t := fun t k => pre6 t (by
    show Steps p.tables e below (s₁.setTop (mkF m 12 #[.val (.int p0), .val (.int p1), .val (.int p2), .val (.int p3), .val (.int p4), .val (.int v2), .unset, .unset, .unset, .unset, .unset, .unset, .unset, .unset] [(.int v5)])) _
    refine XS.istore X0.here hx rfl (hb hby at_12) rfl (l' := #[.val (.int p0), .val (.int p1), .val (.int p2), .val (.int p3), .val (.int p4), .val (.int v2), .val (.int v5), .unset, .unset, .unset, .unset, .unset, .unset, .unset]) rfl ?_
    show Steps p.tables e below (s₁.setTop (mkF m 14 #[.val (.int p0), .val (.int p1), .val (.int p2), .val (.int p3), .val (.int p4), .val (.int v2), .val (.int v5), .unset, .unset, .unset, .unset, .unset, .unset, .unset] [])) _
    refine XS.iloadN X0.here hx rfl (hb hby at_14) rfl ?_
    show Steps p.tables e below (s₁.setTop (mkF m 15 #[.val (.int p0), .val (.int p1), .val (.int p2), .val (.int p3), .val (.int p4), .val (.int v2), .val (.int v5), .unset, .unset, .unset, .unset, .unset, .unset, .unset] [(.int p0)])) _
    refine XS.bipush X0.here hx rfl (hb hby at_15) ?_
    show Steps p.tables e below (s₁.setTop (mkF m 17 #[.val (.int p0), .val (.int p1), .val (.int p2), .val (.int p3), .val (.int p4), .val (.int v2), .val (.int v5), .unset, .unset, .unset, .unset, .unset, .unset, .unset] [(.int (10 : Int32)), (.int p0)])) _
    refine XS.iushr X0.here hx rfl (hb hby at_17) rfl ?_
    show Steps p.tables e below (s₁.setTop (mkF m 18 #[.val (.int p0), .val (.int p1), .val (.int p2), .val (.int p3), .val (.int p4), .val (.int v2), .val (.int v5), .unset, .unset, .unset, .unset, .unset, .unset, .unset] [(.int ((p0.toUInt32 >>> ((10 : Int32) &&& 31).toUInt32).toInt32))])) _
    refine XS.bipush X0.here hx rfl (hb hby at_18) ?_
    show Steps p.tables e below (s₁.setTop (mkF m 20 #[.val (.int p0), .val (.int p1), .val (.int p2), .val (.int p3), .val (.int p4), .val (.int v2), .val (.int v5), .unset, .unset, .unset, .unset, .unset, .unset, .unset] [(.int (31 : Int32)), (.int ((p0.toUInt32 >>> ((10 : Int32) &&& 31).toUInt32).toInt32))])) _
    refine XS.iand X0.here hx rfl (hb hby at_20) rfl ?_
    exact k)
  obtain ⟨v8, hv8⟩ : ∃ z : Int32, z = (((p0.toUInt32 >>> ((10 : Int32) &&& 31).toUInt32).toInt32) &&& (31 : Int32)) := ⟨_, rfl⟩
  have pre9 : ∀ t, Steps p.tables e below (s₁.setTop (mkF m 21 #[.val (.int p0), .val (.int p1), .val (.int p2), .val (.int p3), .val (.int p4), .val (.int v2), .val (.int v5), .unset, .unset, .unset, .unset, .unset, .unset, .unset] [(.int v8)])) t → Steps p.tables e below (s₁.setTop (entryFrame m #[(.int p0), (.int p1), (.int p2), (.int p3), (.int p4)] maxLocals)) t := fun t k => pre7 t (by rw [hv8] at k; exact k)
  have pre10 : ∀ t, Steps p.tables e below (s₁.setTop (mkF m 25 #[.val (.int p0), .val (.int p1), .val (.int p2), .val (.int p3), .val (.int p4), .val (.int v2), .val (.int v5), .val (.int v8), .unset, .unset, .unset, .unset, .unset, .unset] [(.int (32 : Int32))])) t → Steps p.tables e below (s₁.setTop (entryFrame m #[(.int p0), (.int p1), (.int p2), (.int p3), (.int p4)] maxLocals)) t := fun t k => pre9 t (by
    show Steps p.tables e below (s₁.setTop (mkF m 21 #[.val (.int p0), .val (.int p1), .val (.int p2), .val (.int p3), .val (.int p4), .val (.int v2), .val (.int v5), .unset, .unset, .unset, .unset, .unset, .unset, .unset] [(.int v8)])) _
    refine XS.istore X0.here hx rfl (hb hby at_21) rfl (l' := #[.val (.int p0), .val (.int p1), .val (.int p2), .val (.int p3), .val (.int p4), .val (.int v2), .val (.int v5), .val (.int v8), .unset, .unset, .unset, .unset, .unset, .unset]) rfl ?_
    show Steps p.tables e below (s₁.setTop (mkF m 23 #[.val (.int p0), .val (.int p1), .val (.int p2), .val (.int p3), .val (.int p4), .val (.int v2), .val (.int v5), .val (.int v8), .unset, .unset, .unset, .unset, .unset, .unset] [])) _
    refine XS.bipush X0.here hx rfl (hb hby at_23) ?_
    exact k)
  obtain ⟨T11, h11, k11, X11, e11, E11, A11, st11⟩ := newP X0 hx hZ (hw _ (List.mem_of_getElem? (i := 0) rfl)) e0 (g := (mkF m 25 #[.val (.int p0), .val (.int p1), .val (.int p2), .val (.int p3), .val (.int p4), .val (.int v2), .val (.int v5), .val (.int v8), .unset, .unset, .unset, .unset, .unset, .unset] [(.int (32 : Int32))])) rfl (hb hby at_25) rfl (by decide) (cap := 32) (by decide) (by decide) (by decide) (by decide)
  obtain ⟨b11, g11⟩ : ∃ z, z = h0.size := ⟨_, rfl⟩
  have g_b11 : n0 ≤ b11 := Nat.le_trans Z0 (Nat.le_of_eq g11.symm)
  have sz_b11 : h0.size ≤ b11 := Nat.le_trans (Keep.refl h0 []).1 (Nat.le_of_eq g11.symm)
  rw [← g11] at A11 st11
  have K11 : Keep h0 h11 [] := (Keep.refl h0 []).ext E11
  have Z11 : n0 ≤ h11.size := Nat.le_trans Z0 E11.1
  have V_b11 : Arv Z h11 b11 k11 .byte (32 : Int32) [(.int (0 : Int32)), (.int (0 : Int32)), (.int (0 : Int32)), (.int (0 : Int32)), (.int (0 : Int32)), (.int (0 : Int32)), (.int (0 : Int32)), (.int (0 : Int32)), (.int (0 : Int32)), (.int (0 : Int32)), (.int (0 : Int32)), (.int (0 : Int32)), (.int (0 : Int32)), (.int (0 : Int32)), (.int (0 : Int32)), (.int (0 : Int32)), (.int (0 : Int32)), (.int (0 : Int32)), (.int (0 : Int32)), (.int (0 : Int32)), (.int (0 : Int32)), (.int (0 : Int32)), (.int (0 : Int32)), (.int (0 : Int32)), (.int (0 : Int32)), (.int (0 : Int32)), (.int (0 : Int32)), (.int (0 : Int32)), (.int (0 : Int32)), (.int (0 : Int32)), (.int (0 : Int32)), (.int (0 : Int32))] (.int (0 : Int32)) := (Arv.new A11 (by decide)).pad (pad_rep [] (.int (0 : Int32)) 32)
  have pre12 : ∀ t, Steps p.tables e below (T11.setTop (mkF m 31 #[.val (.int p0), .val (.int p1), .val (.int p2), .val (.int p3), .val (.int p4), .val (.int v2), .val (.int v5), .val (.int v8), .val (.ref b11), .unset, .unset, .unset, .unset, .unset] [(.int (32 : Int32))])) t → Steps p.tables e below (s₁.setTop (entryFrame m #[(.int p0), (.int p1), (.int p2), (.int p3), (.int p4)] maxLocals)) t := fun t k => pre10 t (by
    show Steps p.tables e below (s₁.setTop (mkF m 25 #[.val (.int p0), .val (.int p1), .val (.int p2), .val (.int p3), .val (.int p4), .val (.int v2), .val (.int v5), .val (.int v8), .unset, .unset, .unset, .unset, .unset, .unset] [(.int (32 : Int32))])) _
    refine st11 _ ?_
    show Steps p.tables e below (T11.setTop (mkF m 27 #[.val (.int p0), .val (.int p1), .val (.int p2), .val (.int p3), .val (.int p4), .val (.int v2), .val (.int v5), .val (.int v8), .unset, .unset, .unset, .unset, .unset, .unset] [(.ref b11)])) _
    refine XS.astore X11.here hx rfl (hb hby at_27) rfl rfl (l' := #[.val (.int p0), .val (.int p1), .val (.int p2), .val (.int p3), .val (.int p4), .val (.int v2), .val (.int v5), .val (.int v8), .val (.ref b11), .unset, .unset, .unset, .unset, .unset]) rfl ?_
    show Steps p.tables e below (T11.setTop (mkF m 29 #[.val (.int p0), .val (.int p1), .val (.int p2), .val (.int p3), .val (.int p4), .val (.int v2), .val (.int v5), .val (.int v8), .val (.ref b11), .unset, .unset, .unset, .unset, .unset] [])) _
    refine XS.bipush X11.here hx rfl (hb hby at_29) ?_
    exact k)
  obtain ⟨T13, h13, k13, X13, e13, E13, A13, st13⟩ := newP X11 hx hZ (hw _ (List.mem_of_getElem? (i := 0) rfl)) e11 (g := (mkF m 31 #[.val (.int p0), .val (.int p1), .val (.int p2), .val (.int p3), .val (.int p4), .val (.int v2), .val (.int v5), .val (.int v8), .val (.ref b11), .unset, .unset, .unset, .unset, .unset] [(.int (32 : Int32))])) rfl (hb hby at_31) rfl (by decide) (cap := 32) (by decide) (by decide) (by decide) (by decide)
  obtain ⟨b13, g13⟩ : ∃ z, z = h11.size := ⟨_, rfl⟩
  have ne_b11_b13 : b11 ≠ b13 := Nat.ne_of_lt (Nat.lt_of_lt_of_le V_b11.lt (Nat.le_of_eq g13.symm))
  have g_b13 : n0 ≤ b13 := Nat.le_trans Z11 (Nat.le_of_eq g13.symm)
  have sz_b13 : h0.size ≤ b13 := Nat.le_trans K11.1 (Nat.le_of_eq g13.symm)
  rw [← g13] at A13 st13
  have V_b11_13 := V_b11.ext E13
  have K13 : Keep h0 h13 [] := K11.ext E13
  have Z13 : n0 ≤ h13.size := Nat.le_trans Z11 E13.1
  have V_b13 : Arv Z h13 b13 k13 .byte (32 : Int32) [(.int (0 : Int32)), (.int (0 : Int32)), (.int (0 : Int32)), (.int (0 : Int32)), (.int (0 : Int32)), (.int (0 : Int32)), (.int (0 : Int32)), (.int (0 : Int32)), (.int (0 : Int32)), (.int (0 : Int32)), (.int (0 : Int32)), (.int (0 : Int32)), (.int (0 : Int32)), (.int (0 : Int32)), (.int (0 : Int32)), (.int (0 : Int32)), (.int (0 : Int32)), (.int (0 : Int32)), (.int (0 : Int32)), (.int (0 : Int32)), (.int (0 : Int32)), (.int (0 : Int32)), (.int (0 : Int32)), (.int (0 : Int32)), (.int (0 : Int32)), (.int (0 : Int32)), (.int (0 : Int32)), (.int (0 : Int32)), (.int (0 : Int32)), (.int (0 : Int32)), (.int (0 : Int32)), (.int (0 : Int32))] (.int (0 : Int32)) := (Arv.new A13 (by decide)).pad (pad_rep [] (.int (0 : Int32)) 32)
  have pre15 : ∀ t, Steps p.tables e below (T13.setTop (mkF m 42 #[.val (.int p0), .val (.int p1), .val (.int p2), .val (.int p3), .val (.int p4), .val (.int v2), .val (.int v5), .val (.int v8), .val (.ref b11), .val (.ref b13), .unset, .unset, .unset, .unset] [(.int (p4.toInt8.toInt32)), (.int v8), (.ref b11)])) t → Steps p.tables e below (s₁.setTop (entryFrame m #[(.int p0), (.int p1), (.int p2), (.int p3), (.int p4)] maxLocals)) t := fun t k => pre12 t (by
    show Steps p.tables e below (T11.setTop (mkF m 31 #[.val (.int p0), .val (.int p1), .val (.int p2), .val (.int p3), .val (.int p4), .val (.int v2), .val (.int v5), .val (.int v8), .val (.ref b11), .unset, .unset, .unset, .unset, .unset] [(.int (32 : Int32))])) _
    refine st13 _ ?_
    show Steps p.tables e below (T13.setTop (mkF m 33 #[.val (.int p0), .val (.int p1), .val (.int p2), .val (.int p3), .val (.int p4), .val (.int v2), .val (.int v5), .val (.int v8), .val (.ref b11), .unset, .unset, .unset, .unset, .unset] [(.ref b13)])) _
    refine XS.astore X13.here hx rfl (hb hby at_33) rfl rfl (l' := #[.val (.int p0), .val (.int p1), .val (.int p2), .val (.int p3), .val (.int p4), .val (.int v2), .val (.int v5), .val (.int v8), .val (.ref b11), .val (.ref b13), .unset, .unset, .unset, .unset]) rfl ?_
    show Steps p.tables e below (T13.setTop (mkF m 35 #[.val (.int p0), .val (.int p1), .val (.int p2), .val (.int p3), .val (.int p4), .val (.int v2), .val (.int v5), .val (.int v8), .val (.ref b11), .val (.ref b13), .unset, .unset, .unset, .unset] [])) _
    refine XS.aload X13.here hx rfl (hb hby at_35) rfl rfl ?_
    show Steps p.tables e below (T13.setTop (mkF m 37 #[.val (.int p0), .val (.int p1), .val (.int p2), .val (.int p3), .val (.int p4), .val (.int v2), .val (.int v5), .val (.int v8), .val (.ref b11), .val (.ref b13), .unset, .unset, .unset, .unset] [(.ref b11)])) _
    refine XS.iload X13.here hx rfl (hb hby at_37) rfl ?_
    show Steps p.tables e below (T13.setTop (mkF m 39 #[.val (.int p0), .val (.int p1), .val (.int p2), .val (.int p3), .val (.int p4), .val (.int v2), .val (.int v5), .val (.int v8), .val (.ref b11), .val (.ref b13), .unset, .unset, .unset, .unset] [(.int v8), (.ref b11)])) _
    refine XS.iload X13.here hx rfl (hb hby at_39) rfl ?_
    show Steps p.tables e below (T13.setTop (mkF m 41 #[.val (.int p0), .val (.int p1), .val (.int p2), .val (.int p3), .val (.int p4), .val (.int v2), .val (.int v5), .val (.int v8), .val (.ref b11), .val (.ref b13), .unset, .unset, .unset, .unset] [(.int p4), (.int v8), (.ref b11)])) _
    refine XS.i2b X13.here hx rfl (hb hby at_41) rfl ?_
    exact k)
  obtain ⟨vs14, hvs14⟩ : ∃ z : List Int32, z = [(0 : Int32), (0 : Int32), (0 : Int32), (0 : Int32), (0 : Int32), (0 : Int32), (0 : Int32), (0 : Int32), (0 : Int32), (0 : Int32), (0 : Int32), (0 : Int32), (0 : Int32), (0 : Int32), (0 : Int32), (0 : Int32), (0 : Int32), (0 : Int32), (0 : Int32), (0 : Int32), (0 : Int32), (0 : Int32), (0 : Int32), (0 : Int32), (0 : Int32), (0 : Int32), (0 : Int32), (0 : Int32), (0 : Int32), (0 : Int32), (0 : Int32), (0 : Int32)] := ⟨_, rfl⟩
  have hl_vs14 : vs14.length = 32 := by rw [hvs14]; rfl
  have V_b11_vs14 : Arv Z h13 b11 k11 .byte (32 : Int32) (List.map Value.int vs14) (.int (0 : Int32)) := by rw [hvs14]; exact V_b11_13
  have kown_in0_42 : ¬ v8 < 0 ∧ v8 < (32 : Int32) := own_in0_42 p0 p1 p2 p3 p4 v2 hv2 v5 hv5 v8 hv8 vs14 hvs14
  obtain ⟨cl16, Ar16, q16, S16, M16, H16, G16⟩ := id V_b11_vs14
  have hin16 : ¬ (v8 < 0 ∨ cl16.slots.size ≤ (v8).toNatClampNeg) := inb_of S16 kown_in0_42
  obtain ⟨T16, h16, X16, e16, W16, st16⟩ := stB X13 hx hZ e13 Ar16 (j := v8) hin16 (g := (mkF m 42 #[.val (.int p0), .val (.int p1), .val (.int p2), .val (.int p3), .val (.int p4), .val (.int v2), .val (.int v5), .val (.int v8), .val (.ref b11), .val (.ref b13), .unset, .unset, .unset, .unset] [(.int (p4.toInt8.toInt32)), (.int v8), (.ref b11)])) rfl rfl (hb hby at_42)
  obtain ⟨vs17, hvs17⟩ : ∃ z : List Int32, z = vs14.set (v8).toNatClampNeg (nar .byte (p4.toInt8.toInt32)) := ⟨_, rfl⟩
  have hl_vs17 : vs17.length = 32 := by rw [hvs17, List.length_set]; exact hl_vs14
  have V_b11_16 : Arv Z h16 b11 k11 .byte (32 : Int32) (List.map Value.int vs17) (.int (0 : Int32)) := by rw [hvs17, List.map_set]; exact Arv.set Ar16 q16 S16 M16 H16 G16 (fits_nar_byte _) W16 _ rfl (by rw [List.length_map, hl_vs14]; exact own_ltL S16 (by decide) hin16)
  have V_b13_16 := V_b13.other W16 (Ne.symm ne_b11_b13)
  have K16 : Keep h0 h16 [] := K13.wr W16 (Or.inr sz_b11)
  have N16 := Fr.snoc X16 N0 g_b11
  have Z16 : n0 ≤ h16.size := Nat.le_trans Z13 (Nat.le_of_eq W16.size.symm)
  have pre19 : ∀ t, Steps p.tables e below (T16.setTop (mkF m 50 #[.val (.int p0), .val (.int p1), .val (.int p2), .val (.int p3), .val (.int p4), .val (.int v2), .val (.int v5), .val (.int v8), .val (.ref b11), .val (.ref b13), .unset, .unset, .unset, .unset] [(.int (p4.toInt8.toInt32)), (.int v8), (.ref b13)])) t → Steps p.tables e below (s₁.setTop (entryFrame m #[(.int p0), (.int p1), (.int p2), (.int p3), (.int p4)] maxLocals)) t := fun t k => pre15 t (by
    show Steps p.tables e below (T13.setTop (mkF m 42 #[.val (.int p0), .val (.int p1), .val (.int p2), .val (.int p3), .val (.int p4), .val (.int v2), .val (.int v5), .val (.int v8), .val (.ref b11), .val (.ref b13), .unset, .unset, .unset, .unset] [(.int (p4.toInt8.toInt32)), (.int v8), (.ref b11)])) _
    refine st16 _ ?_
    show Steps p.tables e below (T16.setTop (mkF m 43 #[.val (.int p0), .val (.int p1), .val (.int p2), .val (.int p3), .val (.int p4), .val (.int v2), .val (.int v5), .val (.int v8), .val (.ref b11), .val (.ref b13), .unset, .unset, .unset, .unset] [])) _
    refine XS.aload X16.here hx rfl (hb hby at_43) rfl rfl ?_
    show Steps p.tables e below (T16.setTop (mkF m 45 #[.val (.int p0), .val (.int p1), .val (.int p2), .val (.int p3), .val (.int p4), .val (.int v2), .val (.int v5), .val (.int v8), .val (.ref b11), .val (.ref b13), .unset, .unset, .unset, .unset] [(.ref b13)])) _
    refine XS.iload X16.here hx rfl (hb hby at_45) rfl ?_
    show Steps p.tables e below (T16.setTop (mkF m 47 #[.val (.int p0), .val (.int p1), .val (.int p2), .val (.int p3), .val (.int p4), .val (.int v2), .val (.int v5), .val (.int v8), .val (.ref b11), .val (.ref b13), .unset, .unset, .unset, .unset] [(.int v8), (.ref b13)])) _
    refine XS.iload X16.here hx rfl (hb hby at_47) rfl ?_
    show Steps p.tables e below (T16.setTop (mkF m 49 #[.val (.int p0), .val (.int p1), .val (.int p2), .val (.int p3), .val (.int p4), .val (.int v2), .val (.int v5), .val (.int v8), .val (.ref b11), .val (.ref b13), .unset, .unset, .unset, .unset] [(.int p4), (.int v8), (.ref b13)])) _
    refine XS.i2b X16.here hx rfl (hb hby at_49) rfl ?_
    exact k)
  obtain ⟨vs18, hvs18⟩ : ∃ z : List Int32, z = [(0 : Int32), (0 : Int32), (0 : Int32), (0 : Int32), (0 : Int32), (0 : Int32), (0 : Int32), (0 : Int32), (0 : Int32), (0 : Int32), (0 : Int32), (0 : Int32), (0 : Int32), (0 : Int32), (0 : Int32), (0 : Int32), (0 : Int32), (0 : Int32), (0 : Int32), (0 : Int32), (0 : Int32), (0 : Int32), (0 : Int32), (0 : Int32), (0 : Int32), (0 : Int32), (0 : Int32), (0 : Int32), (0 : Int32), (0 : Int32), (0 : Int32), (0 : Int32)] := ⟨_, rfl⟩
  have hl_vs18 : vs18.length = 32 := by rw [hvs18]; rfl
  have V_b13_vs18 : Arv Z h16 b13 k13 .byte (32 : Int32) (List.map Value.int vs18) (.int (0 : Int32)) := by rw [hvs18]; exact V_b13_16
  have kown_in0_50 : ¬ v8 < 0 ∧ v8 < (32 : Int32) := own_in0_50 p0 p1 p2 p3 p4 v2 hv2 v5 hv5 v8 hv8 vs14 hvs14 vs17 hvs17 vs18 hvs18
  obtain ⟨cl20, Ar20, q20, S20, M20, H20, G20⟩ := id V_b13_vs18
  have hin20 : ¬ (v8 < 0 ∨ cl20.slots.size ≤ (v8).toNatClampNeg) := inb_of S20 kown_in0_50
  obtain ⟨T20, h20, X20, e20, W20, st20⟩ := stB X16 hx hZ e16 Ar20 (j := v8) hin20 (g := (mkF m 50 #[.val (.int p0), .val (.int p1), .val (.int p2), .val (.int p3), .val (.int p4), .val (.int v2), .val (.int v5), .val (.int v8), .val (.ref b11), .val (.ref b13), .unset, .unset, .unset, .unset] [(.int (p4.toInt8.toInt32)), (.int v8), (.ref b13)])) rfl rfl (hb hby at_50)
  obtain ⟨vs21, hvs21⟩ : ∃ z : List Int32, z = vs18.set (v8).toNatClampNeg (nar .byte (p4.toInt8.toInt32)) := ⟨_, rfl⟩
  have hl_vs21 : vs21.length = 32 := by rw [hvs21, List.length_set]; exact hl_vs18
  have V_b13_20 : Arv Z h20 b13 k13 .byte (32 : Int32) (List.map Value.int vs21) (.int (0 : Int32)) := by rw [hvs21, List.map_set]; exact Arv.set Ar20 q20 S20 M20 H20 G20 (fits_nar_byte _) W20 _ rfl (by rw [List.length_map, hl_vs18]; exact own_ltL S20 (by decide) hin20)
  have V_b11_20 := V_b11_16.other W20 ne_b11_b13
  have K20 : Keep h0 h20 [] := K16.wr W20 (Or.inr sz_b13)
  have N20 := Fr.snoc X20 N16 g_b13
  have Z20 : n0 ≤ h20.size := Nat.le_trans Z16 (Nat.le_of_eq W20.size.symm)
  have pre22 : ∀ t, Steps p.tables e below (T20.setTop (mkF m 57 #[.val (.int p0), .val (.int p1), .val (.int p2), .val (.int p3), .val (.int p4), .val (.int v2), .val (.int v5), .val (.int v8), .val (.ref b11), .val (.ref b13), .unset, .unset, .unset, .unset] [(.int (p1.toInt8.toInt32)), (.int v2), (.ref b11)])) t → Steps p.tables e below (s₁.setTop (entryFrame m #[(.int p0), (.int p1), (.int p2), (.int p3), (.int p4)] maxLocals)) t := fun t k => pre19 t (by
    show Steps p.tables e below (T16.setTop (mkF m 50 #[.val (.int p0), .val (.int p1), .val (.int p2), .val (.int p3), .val (.int p4), .val (.int v2), .val (.int v5), .val (.int v8), .val (.ref b11), .val (.ref b13), .unset, .unset, .unset, .unset] [(.int (p4.toInt8.toInt32)), (.int v8), (.ref b13)])) _
    refine st20 _ ?_
    show Steps p.tables e below (T20.setTop (mkF m 51 #[.val (.int p0), .val (.int p1), .val (.int p2), .val (.int p3), .val (.int p4), .val (.int v2), .val (.int v5), .val (.int v8), .val (.ref b11), .val (.ref b13), .unset, .unset, .unset, .unset] [])) _
    refine XS.aload X20.here hx rfl (hb hby at_51) rfl rfl ?_
    show Steps p.tables e below (T20.setTop (mkF m 53 #[.val (.int p0), .val (.int p1), .val (.int p2), .val (.int p3), .val (.int p4), .val (.int v2), .val (.int v5), .val (.int v8), .val (.ref b11), .val (.ref b13), .unset, .unset, .unset, .unset] [(.ref b11)])) _
    refine XS.iload X20.here hx rfl (hb hby at_53) rfl ?_
    show Steps p.tables e below (T20.setTop (mkF m 55 #[.val (.int p0), .val (.int p1), .val (.int p2), .val (.int p3), .val (.int p4), .val (.int v2), .val (.int v5), .val (.int v8), .val (.ref b11), .val (.ref b13), .unset, .unset, .unset, .unset] [(.int v2), (.ref b11)])) _
    refine XS.iloadN X20.here hx rfl (hb hby at_55) rfl ?_
    show Steps p.tables e below (T20.setTop (mkF m 56 #[.val (.int p0), .val (.int p1), .val (.int p2), .val (.int p3), .val (.int p4), .val (.int v2), .val (.int v5), .val (.int v8), .val (.ref b11), .val (.ref b13), .unset, .unset, .unset, .unset] [(.int p1), (.int v2), (.ref b11)])) _
    refine XS.i2b X20.here hx rfl (hb hby at_56) rfl ?_
    exact k)
  have kown_in0_57 : ¬ v2 < 0 ∧ v2 < (32 : Int32) := own_in0_57 p0 p1 p2 p3 p4 v2 hv2 v5 hv5 v8 hv8 vs14 hvs14 vs17 hvs17 vs18 hvs18 vs21 hvs21
  obtain ⟨cl23, Ar23, q23, S23, M23, H23, G23⟩ := id V_b11_20
  have hin23 : ¬ (v2 < 0 ∨ cl23.slots.size ≤ (v2).toNatClampNeg) := inb_of S23 kown_in0_57
  obtain ⟨T23, h23, X23, e23, W23, st23⟩ := stB X20 hx hZ e20 Ar23 (j := v2) hin23 (g := (mkF m 57 #[.val (.int p0), .val (.int p1), .val (.int p2), .val (.int p3), .val (.int p4), .val (.int v2), .val (.int v5), .val (.int v8), .val (.ref b11), .val (.ref b13), .unset, .unset, .unset, .unset] [(.int (p1.toInt8.toInt32)), (.int v2), (.ref b11)])) rfl rfl (hb hby at_57)
  obtain ⟨vs24, hvs24⟩ : ∃ z : List Int32, z = vs17.set (v2).toNatClampNeg (nar .byte (p1.toInt8.toInt32)) := ⟨_, rfl⟩
  have hl_vs24 : vs24.length = 32 := by rw [hvs24, List.length_set]; exact hl_vs17
  have V_b11_23 : Arv Z h23 b11 k11 .byte (32 : Int32) (List.map Value.int vs24) (.int (0 : Int32)) := by rw [hvs24, List.map_set]; exact Arv.set Ar23 q23 S23 M23 H23 G23 (fits_nar_byte _) W23 _ rfl (by rw [List.length_map, hl_vs17]; exact own_ltL S23 (by decide) hin23)
  have V_b13_23 := V_b13_20.other W23 (Ne.symm ne_b11_b13)
  have K23 : Keep h0 h23 [] := K20.wr W23 (Or.inr sz_b11)
  have N23 := Fr.snoc X23 N20 g_b11
  have Z23 : n0 ≤ h23.size := Nat.le_trans Z20 (Nat.le_of_eq W23.size.symm)
  have pre25 : ∀ t, Steps p.tables e below (T23.setTop (mkF m 64 #[.val (.int p0), .val (.int p1), .val (.int p2), .val (.int p3), .val (.int p4), .val (.int v2), .val (.int v5), .val (.int v8), .val (.ref b11), .val (.ref b13), .unset, .unset, .unset, .unset] [(.int (p2.toInt8.toInt32)), (.int v2), (.ref b13)])) t → Steps p.tables e below (s₁.setTop (entryFrame m #[(.int p0), (.int p1), (.int p2), (.int p3), (.int p4)] maxLocals)) t := fun t k => pre22 t (by
    show Steps p.tables e below (T20.setTop (mkF m 57 #[.val (.int p0), .val (.int p1), .val (.int p2), .val (.int p3), .val (.int p4), .val (.int v2), .val (.int v5), .val (.int v8), .val (.ref b11), .val (.ref b13), .unset, .unset, .unset, .unset] [(.int (p1.toInt8.toInt32)), (.int v2), (.ref b11)])) _
    refine st23 _ ?_
    show Steps p.tables e below (T23.setTop (mkF m 58 #[.val (.int p0), .val (.int p1), .val (.int p2), .val (.int p3), .val (.int p4), .val (.int v2), .val (.int v5), .val (.int v8), .val (.ref b11), .val (.ref b13), .unset, .unset, .unset, .unset] [])) _
    refine XS.aload X23.here hx rfl (hb hby at_58) rfl rfl ?_
    show Steps p.tables e below (T23.setTop (mkF m 60 #[.val (.int p0), .val (.int p1), .val (.int p2), .val (.int p3), .val (.int p4), .val (.int v2), .val (.int v5), .val (.int v8), .val (.ref b11), .val (.ref b13), .unset, .unset, .unset, .unset] [(.ref b13)])) _
    refine XS.iload X23.here hx rfl (hb hby at_60) rfl ?_
    show Steps p.tables e below (T23.setTop (mkF m 62 #[.val (.int p0), .val (.int p1), .val (.int p2), .val (.int p3), .val (.int p4), .val (.int v2), .val (.int v5), .val (.int v8), .val (.ref b11), .val (.ref b13), .unset, .unset, .unset, .unset] [(.int v2), (.ref b13)])) _
    refine XS.iloadN X23.here hx rfl (hb hby at_62) rfl ?_
    show Steps p.tables e below (T23.setTop (mkF m 63 #[.val (.int p0), .val (.int p1), .val (.int p2), .val (.int p3), .val (.int p4), .val (.int v2), .val (.int v5), .val (.int v8), .val (.ref b11), .val (.ref b13), .unset, .unset, .unset, .unset] [(.int p2), (.int v2), (.ref b13)])) _
    refine XS.i2b X23.here hx rfl (hb hby at_63) rfl ?_
    exact k)
  have kown_in0_64 : ¬ v2 < 0 ∧ v2 < (32 : Int32) := own_in0_64 p0 p1 p2 p3 p4 v2 hv2 v5 hv5 v8 hv8 vs14 hvs14 vs17 hvs17 vs18 hvs18 vs21 hvs21 vs24 hvs24
  obtain ⟨cl26, Ar26, q26, S26, M26, H26, G26⟩ := id V_b13_23
  have hin26 : ¬ (v2 < 0 ∨ cl26.slots.size ≤ (v2).toNatClampNeg) := inb_of S26 kown_in0_64
  obtain ⟨T26, h26, X26, e26, W26, st26⟩ := stB X23 hx hZ e23 Ar26 (j := v2) hin26 (g := (mkF m 64 #[.val (.int p0), .val (.int p1), .val (.int p2), .val (.int p3), .val (.int p4), .val (.int v2), .val (.int v5), .val (.int v8), .val (.ref b11), .val (.ref b13), .unset, .unset, .unset, .unset] [(.int (p2.toInt8.toInt32)), (.int v2), (.ref b13)])) rfl rfl (hb hby at_64)
  obtain ⟨vs27, hvs27⟩ : ∃ z : List Int32, z = vs21.set (v2).toNatClampNeg (nar .byte (p2.toInt8.toInt32)) := ⟨_, rfl⟩
  have hl_vs27 : vs27.length = 32 := by rw [hvs27, List.length_set]; exact hl_vs21
  have V_b13_26 : Arv Z h26 b13 k13 .byte (32 : Int32) (List.map Value.int vs27) (.int (0 : Int32)) := by rw [hvs27, List.map_set]; exact Arv.set Ar26 q26 S26 M26 H26 G26 (fits_nar_byte _) W26 _ rfl (by rw [List.length_map, hl_vs21]; exact own_ltL S26 (by decide) hin26)
  have V_b11_26 := V_b11_23.other W26 ne_b11_b13
  have K26 : Keep h0 h26 [] := K23.wr W26 (Or.inr sz_b13)
  have N26 := Fr.snoc X26 N23 g_b13
  have Z26 : n0 ≤ h26.size := Nat.le_trans Z23 (Nat.le_of_eq W26.size.symm)
  have pre28 : ∀ t, Steps p.tables e below (T26.setTop (mkF m 69 #[.val (.int p0), .val (.int p1), .val (.int p2), .val (.int p3), .val (.int p4), .val (.int v2), .val (.int v5), .val (.int v8), .val (.ref b11), .val (.ref b13), .unset, .unset, .unset, .unset] [(.int v2), (.int v5)])) t → Steps p.tables e below (s₁.setTop (entryFrame m #[(.int p0), (.int p1), (.int p2), (.int p3), (.int p4)] maxLocals)) t := fun t k => pre25 t (by
    show Steps p.tables e below (T23.setTop (mkF m 64 #[.val (.int p0), .val (.int p1), .val (.int p2), .val (.int p3), .val (.int p4), .val (.int v2), .val (.int v5), .val (.int v8), .val (.ref b11), .val (.ref b13), .unset, .unset, .unset, .unset] [(.int (p2.toInt8.toInt32)), (.int v2), (.ref b13)])) _
    refine st26 _ ?_
    show Steps p.tables e below (T26.setTop (mkF m 65 #[.val (.int p0), .val (.int p1), .val (.int p2), .val (.int p3), .val (.int p4), .val (.int v2), .val (.int v5), .val (.int v8), .val (.ref b11), .val (.ref b13), .unset, .unset, .unset, .unset] [])) _
    refine XS.iload X26.here hx rfl (hb hby at_65) rfl ?_
    show Steps p.tables e below (T26.setTop (mkF m 67 #[.val (.int p0), .val (.int p1), .val (.int p2), .val (.int p3), .val (.int p4), .val (.int v2), .val (.int v5), .val (.int v8), .val (.ref b11), .val (.ref b13), .unset, .unset, .unset, .unset] [(.int v5)])) _
    refine XS.iload X26.here hx rfl (hb hby at_67) rfl ?_
    exact k)
  by_cases hc29 : v2 < v5
  · have pre30 : ∀ t, Steps p.tables e below (T26.setTop (mkF m 78 #[.val (.int p0), .val (.int p1), .val (.int p2), .val (.int p3), .val (.int p4), .val (.int v2), .val (.int v5), .val (.int v8), .val (.ref b11), .val (.ref b13), .unset, .unset, .unset, .unset] [(.int (p3.toInt8.toInt32)), (.int v5), (.ref b11)])) t → Steps p.tables e below (s₁.setTop (entryFrame m #[(.int p0), (.int p1), (.int p2), (.int p3), (.int p4)] maxLocals)) t := fun t k => pre28 t (by
      show Steps p.tables e below (T26.setTop (mkF m 69 #[.val (.int p0), .val (.int p1), .val (.int p2), .val (.int p3), .val (.int p4), .val (.int v2), .val (.int v5), .val (.int v8), .val (.ref b11), .val (.ref b13), .unset, .unset, .unset, .unset] [(.int v2), (.int v5)])) _
      refine XS.icmpNo X26.here hx rfl (hb hby at_69) rfl (tlt hc29).2.2.2 ?_
      show Steps p.tables e below (T26.setTop (mkF m 72 #[.val (.int p0), .val (.int p1), .val (.int p2), .val (.int p3), .val (.int p4), .val (.int v2), .val (.int v5), .val (.int v8), .val (.ref b11), .val (.ref b13), .unset, .unset, .unset, .unset] [])) _
      refine XS.aload X26.here hx rfl (hb hby at_72) rfl rfl ?_
      show Steps p.tables e below (T26.setTop (mkF m 74 #[.val (.int p0), .val (.int p1), .val (.int p2), .val (.int p3), .val (.int p4), .val (.int v2), .val (.int v5), .val (.int v8), .val (.ref b11), .val (.ref b13), .unset, .unset, .unset, .unset] [(.ref b11)])) _
      refine XS.iload X26.here hx rfl (hb hby at_74) rfl ?_
      show Steps p.tables e below (T26.setTop (mkF m 76 #[.val (.int p0), .val (.int p1), .val (.int p2), .val (.int p3), .val (.int p4), .val (.int v2), .val (.int v5), .val (.int v8), .val (.ref b11), .val (.ref b13), .unset, .unset, .unset, .unset] [(.int v5), (.ref b11)])) _
      refine XS.iloadN X26.here hx rfl (hb hby at_76) rfl ?_
      show Steps p.tables e below (T26.setTop (mkF m 77 #[.val (.int p0), .val (.int p1), .val (.int p2), .val (.int p3), .val (.int p4), .val (.int v2), .val (.int v5), .val (.int v8), .val (.ref b11), .val (.ref b13), .unset, .unset, .unset, .unset] [(.int p3), (.int v5), (.ref b11)])) _
      refine XS.i2b X26.here hx rfl (hb hby at_77) rfl ?_
      exact k)
    have kown_in0_78 : ¬ v5 < 0 ∧ v5 < (32 : Int32) := own_in0_78 p0 p1 p2 p3 p4 v2 hv2 v5 hv5 v8 hv8 vs14 hvs14 vs17 hvs17 vs18 hvs18 vs21 hvs21 vs24 hvs24 vs27 hvs27 hc29
    obtain ⟨cl31, Ar31, q31, S31, M31, H31, G31⟩ := id V_b11_26
    have hin31 : ¬ (v5 < 0 ∨ cl31.slots.size ≤ (v5).toNatClampNeg) := inb_of S31 kown_in0_78
    obtain ⟨T31, h31, X31, e31, W31, st31⟩ := stB X26 hx hZ e26 Ar31 (j := v5) hin31 (g := (mkF m 78 #[.val (.int p0), .val (.int p1), .val (.int p2), .val (.int p3), .val (.int p4), .val (.int v2), .val (.int v5), .val (.int v8), .val (.ref b11), .val (.ref b13), .unset, .unset, .unset, .unset] [(.int (p3.toInt8.toInt32)), (.int v5), (.ref b11)])) rfl rfl (hb hby at_78)
    obtain ⟨vs32, hvs32⟩ : ∃ z : List Int32, z = vs24.set (v5).toNatClampNeg (nar .byte (p3.toInt8.toInt32)) := ⟨_, rfl⟩
    have hl_vs32 : vs32.length = 32 := by rw [hvs32, List.length_set]; exact hl_vs24
    have V_b11_31 : Arv Z h31 b11 k11 .byte (32 : Int32) (List.map Value.int vs32) (.int (0 : Int32)) := by rw [hvs32, List.map_set]; exact Arv.set Ar31 q31 S31 M31 H31 G31 (fits_nar_byte _) W31 _ rfl (by rw [List.length_map, hl_vs24]; exact own_ltL S31 (by decide) hin31)
    have V_b13_31 := V_b13_26.other W31 (Ne.symm ne_b11_b13)
    have K31 : Keep h0 h31 [] := K26.wr W31 (Or.inr sz_b11)
    have N31 := Fr.snoc X31 N26 g_b11
    have Z31 : n0 ≤ h31.size := Nat.le_trans Z26 (Nat.le_of_eq W31.size.symm)
    have pre33 : ∀ t, Steps p.tables e below (T31.setTop (mkF m 86 #[.val (.int p0), .val (.int p1), .val (.int p2), .val (.int p3), .val (.int p4), .val (.int v2), .val (.int v5), .val (.int v8), .val (.ref b11), .val (.ref b13), .unset, .unset, .unset, .unset] [(.int ((p1 ^^^ p2) &&& (255 : Int32)))])) t → Steps p.tables e below (s₁.setTop (entryFrame m #[(.int p0), (.int p1), (.int p2), (.int p3), (.int p4)] maxLocals)) t := fun t k => pre30 t (by
      show Steps p.tables e below (T26.setTop (mkF m 78 #[.val (.int p0), .val (.int p1), .val (.int p2), .val (.int p3), .val (.int p4), .val (.int v2), .val (.int v5), .val (.int v8), .val (.ref b11), .val (.ref b13), .unset, .unset, .unset, .unset] [(.int (p3.toInt8.toInt32)), (.int v5), (.ref b11)])) _
      refine st31 _ ?_
      show Steps p.tables e below (T31.setTop (mkF m 79 #[.val (.int p0), .val (.int p1), .val (.int p2), .val (.int p3), .val (.int p4), .val (.int v2), .val (.int v5), .val (.int v8), .val (.ref b11), .val (.ref b13), .unset, .unset, .unset, .unset] [])) _
      refine XS.iloadN X31.here hx rfl (hb hby at_79) rfl ?_
      show Steps p.tables e below (T31.setTop (mkF m 80 #[.val (.int p0), .val (.int p1), .val (.int p2), .val (.int p3), .val (.int p4), .val (.int v2), .val (.int v5), .val (.int v8), .val (.ref b11), .val (.ref b13), .unset, .unset, .unset, .unset] [(.int p1)])) _
      refine XS.iloadN X31.here hx rfl (hb hby at_80) rfl ?_
      show Steps p.tables e below (T31.setTop (mkF m 81 #[.val (.int p0), .val (.int p1), .val (.int p2), .val (.int p3), .val (.int p4), .val (.int v2), .val (.int v5), .val (.int v8), .val (.ref b11), .val (.ref b13), .unset, .unset, .unset, .unset] [(.int p2), (.int p1)])) _
      refine XS.ixor X31.here hx rfl (hb hby at_81) rfl ?_
      show Steps p.tables e below (T31.setTop (mkF m 82 #[.val (.int p0), .val (.int p1), .val (.int p2), .val (.int p3), .val (.int p4), .val (.int v2), .val (.int v5), .val (.int v8), .val (.ref b11), .val (.ref b13), .unset, .unset, .unset, .unset] [(.int (p1 ^^^ p2))])) _
      refine XS.sipush X31.here hx rfl (hb hby at_82) ?_
      show Steps p.tables e below (T31.setTop (mkF m 85 #[.val (.int p0), .val (.int p1), .val (.int p2), .val (.int p3), .val (.int p4), .val (.int v2), .val (.int v5), .val (.int v8), .val (.ref b11), .val (.ref b13), .unset, .unset, .unset, .unset] [(.int (255 : Int32)), (.int (p1 ^^^ p2))])) _
      refine XS.iand X31.here hx rfl (hb hby at_85) rfl ?_
      exact k)
    obtain ⟨v34, hv34⟩ : ∃ z : Int32, z = ((p1 ^^^ p2) &&& (255 : Int32)) := ⟨_, rfl⟩
    have pre35 : ∀ t, Steps p.tables e below (T31.setTop (mkF m 86 #[.val (.int p0), .val (.int p1), .val (.int p2), .val (.int p3), .val (.int p4), .val (.int v2), .val (.int v5), .val (.int v8), .val (.ref b11), .val (.ref b13), .unset, .unset, .unset, .unset] [(.int v34)])) t → Steps p.tables e below (s₁.setTop (entryFrame m #[(.int p0), (.int p1), (.int p2), (.int p3), (.int p4)] maxLocals)) t := fun t k => pre33 t (by rw [hv34] at k; exact k)
    have pre36 : ∀ t, Steps p.tables e below (T31.setTop (mkF m 90 #[.val (.int p0), .val (.int p1), .val (.int p2), .val (.int p3), .val (.int p4), .val (.int v2), .val (.int v5), .val (.int v8), .val (.ref b11), .val (.ref b13), .val (.int v34), .unset, .unset, .unset] [(.int v34)])) t → Steps p.tables e below (s₁.setTop (entryFrame m #[(.int p0), (.int p1), (.int p2), (.int p3), (.int p4)] maxLocals)) t := fun t k => pre35 t (by
      show Steps p.tables e below (T31.setTop (mkF m 86 #[.val (.int p0), .val (.int p1), .val (.int p2), .val (.int p3), .val (.int p4), .val (.int v2), .val (.int v5), .val (.int v8), .val (.ref b11), .val (.ref b13), .unset, .unset, .unset, .unset] [(.int v34)])) _
      refine XS.istore X31.here hx rfl (hb hby at_86) rfl (l' := #[.val (.int p0), .val (.int p1), .val (.int p2), .val (.int p3), .val (.int p4), .val (.int v2), .val (.int v5), .val (.int v8), .val (.ref b11), .val (.ref b13), .val (.int v34), .unset, .unset, .unset]) rfl ?_
      show Steps p.tables e below (T31.setTop (mkF m 88 #[.val (.int p0), .val (.int p1), .val (.int p2), .val (.int p3), .val (.int p4), .val (.int v2), .val (.int v5), .val (.int v8), .val (.ref b11), .val (.ref b13), .val (.int v34), .unset, .unset, .unset] [])) _
      refine XS.iload X31.here hx rfl (hb hby at_88) rfl ?_
      exact k)
    obtain ⟨T52, LjT52, j48, sl49, sl50, X52, N52, e52, hj48, hsl49, hsl50, pre51⟩ : ∃ (T52 : State) (LjT52 : List Loc) (j48 : Int32) (sl49 : Slot) (sl50 : Slot), Stand p l e room_1 s m #[(.int p0), (.int p1), (.int p2), (.int p3), (.int p4)] below meth c T52 LjT52 2 64 ∧ Fr n0 LjT52 ∧ T52.heap = h31 ∧ j48 = (if v34 = (0 : Int32) then (let j40 : Int32 := (if v5 = v8 then (p4 &&& (255 : Int32)) else (0 : Int32)); (if ((p3 ^^^ j40) &&& (255 : Int32)) = (0 : Int32) then (-1 : Int32) else (((8 : Int32) * ((31 : Int32) - v5)) + (f1 ((p3 ^^^ j40) &&& (255 : Int32)))))) else (((8 : Int32) * ((31 : Int32) - v2)) + (f1 v34))) ∧ One sl49 ∧ One sl50 ∧ ∀ t, Steps p.tables e below (T52.setTop (mkF m 175 #[.val (.int p0), .val (.int p1), .val (.int p2), .val (.int p3), .val (.int p4), .val (.int v2), .val (.int v5), .val (.int v8), .val (.ref b11), .val (.ref b13), .val (.int v34), .val (.int j48), sl49, sl50] [])) t → Steps p.tables e below (s₁.setTop (entryFrame m #[(.int p0), (.int p1), (.int p2), (.int p3), (.int p4)] maxLocals)) t := by
      by_cases hc37 : v34 = (0 : Int32)
      · have pre38 : ∀ t, Steps p.tables e below (T31.setTop (mkF m 116 #[.val (.int p0), .val (.int p1), .val (.int p2), .val (.int p3), .val (.int p4), .val (.int v2), .val (.int v5), .val (.int v8), .val (.ref b11), .val (.ref b13), .val (.int v34), .unset, .unset, .unset] [(.int v8), (.int v5)])) t → Steps p.tables e below (s₁.setTop (entryFrame m #[(.int p0), (.int p1), (.int p2), (.int p3), (.int p4)] maxLocals)) t := fun t k => pre36 t (by
          show Steps p.tables e below (T31.setTop (mkF m 90 #[.val (.int p0), .val (.int p1), .val (.int p2), .val (.int p3), .val (.int p4), .val (.int v2), .val (.int v5), .val (.int v8), .val (.ref b11), .val (.ref b13), .val (.int v34), .unset, .unset, .unset] [(.int v34)])) _
          refine XS.ifYes X31.here hx rfl (pc0 := 90) (pc' := 112) rfl (hb hby at_90) rfl ((if0 _ _).trans (teq hc37).1) (by decide) (by decide) ?_
          show Steps p.tables e below (T31.setTop (mkF m 112 #[.val (.int p0), .val (.int p1), .val (.int p2), .val (.int p3), .val (.int p4), .val (.int v2), .val (.int v5), .val (.int v8), .val (.ref b11), .val (.ref b13), .val (.int v34), .unset, .unset, .unset] [])) _
          refine XS.iload X31.here hx rfl (hb hby at_112) rfl ?_
          show Steps p.tables e below (T31.setTop (mkF m 114 #[.val (.int p0), .val (.int p1), .val (.int p2), .val (.int p3), .val (.int p4), .val (.int v2), .val (.int v5), .val (.int v8), .val (.ref b11), .val (.ref b13), .val (.int v34), .unset, .unset, .unset] [(.int v5)])) _
          refine XS.iload X31.here hx rfl (hb hby at_114) rfl ?_
          exact k)
        obtain ⟨j40, hj40, pre41⟩ : ∃ (j40 : Int32), j40 = (if v5 = v8 then (p4 &&& (255 : Int32)) else (0 : Int32)) ∧ ∀ t, Steps p.tables e below (T31.setTop (mkF m 129 #[.val (.int p0), .val (.int p1), .val (.int p2), .val (.int p3), .val (.int p4), .val (.int v2), .val (.int v5), .val (.int v8), .val (.ref b11), .val (.ref b13), .val (.int v34), .unset, .unset, .unset] [(.int j40)])) t → Steps p.tables e below (s₁.setTop (entryFrame m #[(.int p0), (.int p1), (.int p2), (.int p3), (.int p4)] maxLocals)) t := by
          by_cases hc39 : v5 = v8
          · exact ⟨(p4 &&& (255 : Int32)), (by rw [if_pos hc39]), fun t k => pre38 t (by
              show Steps p.tables e below (T31.setTop (mkF m 116 #[.val (.int p0), .val (.int p1), .val (.int p2), .val (.int p3), .val (.int p4), .val (.int v2), .val (.int v5), .val (.int v8), .val (.ref b11), .val (.ref b13), .val (.int v34), .unset, .unset, .unset] [(.int v8), (.int v5)])) _
              refine XS.icmpNo X31.here hx rfl (hb hby at_116) rfl (teq hc39).2 ?_
              show Steps p.tables e below (T31.setTop (mkF m 119 #[.val (.int p0), .val (.int p1), .val (.int p2), .val (.int p3), .val (.int p4), .val (.int v2), .val (.int v5), .val (.int v8), .val (.ref b11), .val (.ref b13), .val (.int v34), .unset, .unset, .unset] [])) _
              refine XS.iload X31.here hx rfl (hb hby at_119) rfl ?_
              show Steps p.tables e below (T31.setTop (mkF m 121 #[.val (.int p0), .val (.int p1), .val (.int p2), .val (.int p3), .val (.int p4), .val (.int v2), .val (.int v5), .val (.int v8), .val (.ref b11), .val (.ref b13), .val (.int v34), .unset, .unset, .unset] [(.int p4)])) _
              refine XS.sipush X31.here hx rfl (hb hby at_121) ?_
              show Steps p.tables e below (T31.setTop (mkF m 124 #[.val (.int p0), .val (.int p1), .val (.int p2), .val (.int p3), .val (.int p4), .val (.int v2), .val (.int v5), .val (.int v8), .val (.ref b11), .val (.ref b13), .val (.int v34), .unset, .unset, .unset] [(.int (255 : Int32)), (.int p4)])) _
              refine XS.iand X31.here hx rfl (hb hby at_124) rfl ?_
              show Steps p.tables e below (T31.setTop (mkF m 125 #[.val (.int p0), .val (.int p1), .val (.int p2), .val (.int p3), .val (.int p4), .val (.int v2), .val (.int v5), .val (.int v8), .val (.ref b11), .val (.ref b13), .val (.int v34), .unset, .unset, .unset] [(.int (p4 &&& (255 : Int32)))])) _
              refine XS.goto X31.here hx rfl (pc0 := 125) (pc' := 129) rfl (hb hby at_125) (by decide) (by decide) ?_
              exact k)⟩
          · exact ⟨(0 : Int32), (by rw [if_neg hc39]), fun t k => pre38 t (by
              show Steps p.tables e below (T31.setTop (mkF m 116 #[.val (.int p0), .val (.int p1), .val (.int p2), .val (.int p3), .val (.int p4), .val (.int v2), .val (.int v5), .val (.int v8), .val (.ref b11), .val (.ref b13), .val (.int v34), .unset, .unset, .unset] [(.int v8), (.int v5)])) _
              refine XS.icmpYes X31.here hx rfl (pc0 := 116) (pc' := 128) rfl (hb hby at_116) rfl (feq hc39).2 (by decide) (by decide) ?_
              show Steps p.tables e below (T31.setTop (mkF m 128 #[.val (.int p0), .val (.int p1), .val (.int p2), .val (.int p3), .val (.int p4), .val (.int v2), .val (.int v5), .val (.int v8), .val (.ref b11), .val (.ref b13), .val (.int v34), .unset, .unset, .unset] [])) _
              refine XS.iconst X31.here hx rfl (hb hby at_128) ?_
              exact k)⟩
        have pre42 : ∀ t, Steps p.tables e below (T31.setTop (mkF m 150 #[.val (.int p0), .val (.int p1), .val (.int p2), .val (.int p3), .val (.int p4), .val (.int v2), .val (.int v5), .val (.int v8), .val (.ref b11), .val (.ref b13), .val (.int v34), .unset, .val (.int j40), .val (.int ((p3 ^^^ j40) &&& (255 : Int32)))] [(.int ((p3 ^^^ j40) &&& (255 : Int32)))])) t → Steps p.tables e below (s₁.setTop (entryFrame m #[(.int p0), (.int p1), (.int p2), (.int p3), (.int p4)] maxLocals)) t := fun t k => pre41 t (by
          show Steps p.tables e below (T31.setTop (mkF m 129 #[.val (.int p0), .val (.int p1), .val (.int p2), .val (.int p3), .val (.int p4), .val (.int v2), .val (.int v5), .val (.int v8), .val (.ref b11), .val (.ref b13), .val (.int v34), .unset, .unset, .unset] [(.int j40)])) _
          refine XS.istore X31.here hx rfl (hb hby at_129) rfl (l' := #[.val (.int p0), .val (.int p1), .val (.int p2), .val (.int p3), .val (.int p4), .val (.int v2), .val (.int v5), .val (.int v8), .val (.ref b11), .val (.ref b13), .val (.int v34), .unset, .val (.int j40), .unset]) rfl ?_
          show Steps p.tables e below (T31.setTop (mkF m 131 #[.val (.int p0), .val (.int p1), .val (.int p2), .val (.int p3), .val (.int p4), .val (.int v2), .val (.int v5), .val (.int v8), .val (.ref b11), .val (.ref b13), .val (.int v34), .unset, .val (.int j40), .unset] [])) _
          refine XS.iloadN X31.here hx rfl (hb hby at_131) rfl ?_
          show Steps p.tables e below (T31.setTop (mkF m 132 #[.val (.int p0), .val (.int p1), .val (.int p2), .val (.int p3), .val (.int p4), .val (.int v2), .val (.int v5), .val (.int v8), .val (.ref b11), .val (.ref b13), .val (.int v34), .unset, .val (.int j40), .unset] [(.int p3)])) _
          refine XS.iload X31.here hx rfl (hb hby at_132) rfl ?_
          show Steps p.tables e below (T31.setTop (mkF m 134 #[.val (.int p0), .val (.int p1), .val (.int p2), .val (.int p3), .val (.int p4), .val (.int v2), .val (.int v5), .val (.int v8), .val (.ref b11), .val (.ref b13), .val (.int v34), .unset, .val (.int j40), .unset] [(.int j40), (.int p3)])) _
          refine XS.ixor X31.here hx rfl (hb hby at_134) rfl ?_
          show Steps p.tables e below (T31.setTop (mkF m 135 #[.val (.int p0), .val (.int p1), .val (.int p2), .val (.int p3), .val (.int p4), .val (.int v2), .val (.int v5), .val (.int v8), .val (.ref b11), .val (.ref b13), .val (.int v34), .unset, .val (.int j40), .unset] [(.int (p3 ^^^ j40))])) _
          refine XS.sipush X31.here hx rfl (hb hby at_135) ?_
          show Steps p.tables e below (T31.setTop (mkF m 138 #[.val (.int p0), .val (.int p1), .val (.int p2), .val (.int p3), .val (.int p4), .val (.int v2), .val (.int v5), .val (.int v8), .val (.ref b11), .val (.ref b13), .val (.int v34), .unset, .val (.int j40), .unset] [(.int (255 : Int32)), (.int (p3 ^^^ j40))])) _
          refine XS.iand X31.here hx rfl (hb hby at_138) rfl ?_
          show Steps p.tables e below (T31.setTop (mkF m 139 #[.val (.int p0), .val (.int p1), .val (.int p2), .val (.int p3), .val (.int p4), .val (.int v2), .val (.int v5), .val (.int v8), .val (.ref b11), .val (.ref b13), .val (.int v34), .unset, .val (.int j40), .unset] [(.int ((p3 ^^^ j40) &&& (255 : Int32)))])) _
          refine XS.istore X31.here hx rfl (hb hby at_139) rfl (l' := #[.val (.int p0), .val (.int p1), .val (.int p2), .val (.int p3), .val (.int p4), .val (.int v2), .val (.int v5), .val (.int v8), .val (.ref b11), .val (.ref b13), .val (.int v34), .unset, .val (.int j40), .val (.int ((p3 ^^^ j40) &&& (255 : Int32)))]) rfl ?_
          show Steps p.tables e below (T31.setTop (mkF m 141 #[.val (.int p0), .val (.int p1), .val (.int p2), .val (.int p3), .val (.int p4), .val (.int v2), .val (.int v5), .val (.int v8), .val (.ref b11), .val (.ref b13), .val (.int v34), .unset, .val (.int j40), .val (.int ((p3 ^^^ j40) &&& (255 : Int32)))] [])) _
          refine XS.iload X31.here hx rfl (hb hby at_141) rfl ?_
          show Steps p.tables e below (T31.setTop (mkF m 143 #[.val (.int p0), .val (.int p1), .val (.int p2), .val (.int p3), .val (.int p4), .val (.int v2), .val (.int v5), .val (.int v8), .val (.ref b11), .val (.ref b13), .val (.int v34), .unset, .val (.int j40), .val (.int ((p3 ^^^ j40) &&& (255 : Int32)))] [(.int v5)])) _
          refine XS.iload X31.here hx rfl (hb hby at_143) rfl ?_
          show Steps p.tables e below (T31.setTop (mkF m 145 #[.val (.int p0), .val (.int p1), .val (.int p2), .val (.int p3), .val (.int p4), .val (.int v2), .val (.int v5), .val (.int v8), .val (.ref b11), .val (.ref b13), .val (.int v34), .unset, .val (.int j40), .val (.int ((p3 ^^^ j40) &&& (255 : Int32)))] [(.int v2), (.int v5)])) _
          refine XS.icmpNo X31.here hx rfl (hb hby at_145) rfl (tlt (hc29 : v2 < v5)).2.2.2 ?_
          show Steps p.tables e below (T31.setTop (mkF m 148 #[.val (.int p0), .val (.int p1), .val (.int p2), .val (.int p3), .val (.int p4), .val (.int v2), .val (.int v5), .val (.int v8), .val (.ref b11), .val (.ref b13), .val (.int v34), .unset, .val (.int j40), .val (.int ((p3 ^^^ j40) &&& (255 : Int32)))] [])) _
          refine XS.iload X31.here hx rfl (hb hby at_148) rfl ?_
          exact k)
        by_cases hc43 : ((p3 ^^^ j40) &&& (255 : Int32)) = (0 : Int32)
        · exact ⟨_, _, (-1 : Int32), (.val (.int j40)), (.val (.int ((p3 ^^^ j40) &&& (255 : Int32)))), X31, N31, e31, (by subst hj40; simp only [if_pos hc37, if_pos hc43]), (One.val rfl), (One.val rfl), fun t k => pre42 t (by
            show Steps p.tables e below (T31.setTop (mkF m 150 #[.val (.int p0), .val (.int p1), .val (.int p2), .val (.int p3), .val (.int p4), .val (.int v2), .val (.int v5), .val (.int v8), .val (.ref b11), .val (.ref b13), .val (.int v34), .unset, .val (.int j40), .val (.int ((p3 ^^^ j40) &&& (255 : Int32)))] [(.int ((p3 ^^^ j40) &&& (255 : Int32)))])) _
            refine XS.ifYes X31.here hx rfl (pc0 := 150) (pc' := 172) rfl (hb hby at_150) rfl ((if0 _ _).trans (teq hc43).1) (by decide) (by decide) ?_
            show Steps p.tables e below (T31.setTop (mkF m 172 #[.val (.int p0), .val (.int p1), .val (.int p2), .val (.int p3), .val (.int p4), .val (.int v2), .val (.int v5), .val (.int v8), .val (.ref b11), .val (.ref b13), .val (.int v34), .unset, .val (.int j40), .val (.int ((p3 ^^^ j40) &&& (255 : Int32)))] [])) _
            refine XS.iconst X31.here hx rfl (hb hby at_172) ?_
            show Steps p.tables e below (T31.setTop (mkF m 173 #[.val (.int p0), .val (.int p1), .val (.int p2), .val (.int p3), .val (.int p4), .val (.int v2), .val (.int v5), .val (.int v8), .val (.ref b11), .val (.ref b13), .val (.int v34), .unset, .val (.int j40), .val (.int ((p3 ^^^ j40) &&& (255 : Int32)))] [(.int (-1 : Int32))])) _
            refine XS.istore X31.here hx rfl (hb hby at_173) rfl (l' := #[.val (.int p0), .val (.int p1), .val (.int p2), .val (.int p3), .val (.int p4), .val (.int v2), .val (.int v5), .val (.int v8), .val (.ref b11), .val (.ref b13), .val (.int v34), .val (.int (-1 : Int32)), .val (.int j40), .val (.int ((p3 ^^^ j40) &&& (255 : Int32)))]) rfl ?_
            exact k)⟩
        · have pre44 : ∀ t, Steps p.tables e below (T31.setTop (mkF m 163 #[.val (.int p0), .val (.int p1), .val (.int p2), .val (.int p3), .val (.int p4), .val (.int v2), .val (.int v5), .val (.int v8), .val (.ref b11), .val (.ref b13), .val (.int v34), .unset, .val (.int j40), .val (.int ((p3 ^^^ j40) &&& (255 : Int32)))] [(.int ((p3 ^^^ j40) &&& (255 : Int32))), (.int ((8 : Int32) * ((31 : Int32) - v5)))])) t → Steps p.tables e below (s₁.setTop (entryFrame m #[(.int p0), (.int p1), (.int p2), (.int p3), (.int p4)] maxLocals)) t := fun t k => pre42 t (by
            show Steps p.tables e below (T31.setTop (mkF m 150 #[.val (.int p0), .val (.int p1), .val (.int p2), .val (.int p3), .val (.int p4), .val (.int v2), .val (.int v5), .val (.int v8), .val (.ref b11), .val (.ref b13), .val (.int v34), .unset, .val (.int j40), .val (.int ((p3 ^^^ j40) &&& (255 : Int32)))] [(.int ((p3 ^^^ j40) &&& (255 : Int32)))])) _
            refine XS.ifNo X31.here hx rfl (hb hby at_150) rfl ((if0 _ _).trans (feq hc43).1) ?_
            show Steps p.tables e below (T31.setTop (mkF m 153 #[.val (.int p0), .val (.int p1), .val (.int p2), .val (.int p3), .val (.int p4), .val (.int v2), .val (.int v5), .val (.int v8), .val (.ref b11), .val (.ref b13), .val (.int v34), .unset, .val (.int j40), .val (.int ((p3 ^^^ j40) &&& (255 : Int32)))] [])) _
            refine XS.bipush X31.here hx rfl (hb hby at_153) ?_
            show Steps p.tables e below (T31.setTop (mkF m 155 #[.val (.int p0), .val (.int p1), .val (.int p2), .val (.int p3), .val (.int p4), .val (.int v2), .val (.int v5), .val (.int v8), .val (.ref b11), .val (.ref b13), .val (.int v34), .unset, .val (.int j40), .val (.int ((p3 ^^^ j40) &&& (255 : Int32)))] [(.int (8 : Int32))])) _
            refine XS.bipush X31.here hx rfl (hb hby at_155) ?_
            show Steps p.tables e below (T31.setTop (mkF m 157 #[.val (.int p0), .val (.int p1), .val (.int p2), .val (.int p3), .val (.int p4), .val (.int v2), .val (.int v5), .val (.int v8), .val (.ref b11), .val (.ref b13), .val (.int v34), .unset, .val (.int j40), .val (.int ((p3 ^^^ j40) &&& (255 : Int32)))] [(.int (31 : Int32)), (.int (8 : Int32))])) _
            refine XS.iload X31.here hx rfl (hb hby at_157) rfl ?_
            show Steps p.tables e below (T31.setTop (mkF m 159 #[.val (.int p0), .val (.int p1), .val (.int p2), .val (.int p3), .val (.int p4), .val (.int v2), .val (.int v5), .val (.int v8), .val (.ref b11), .val (.ref b13), .val (.int v34), .unset, .val (.int j40), .val (.int ((p3 ^^^ j40) &&& (255 : Int32)))] [(.int v5), (.int (31 : Int32)), (.int (8 : Int32))])) _
            refine XS.isub X31.here hx rfl (hb hby at_159) rfl ?_
            show Steps p.tables e below (T31.setTop (mkF m 160 #[.val (.int p0), .val (.int p1), .val (.int p2), .val (.int p3), .val (.int p4), .val (.int v2), .val (.int v5), .val (.int v8), .val (.ref b11), .val (.ref b13), .val (.int v34), .unset, .val (.int j40), .val (.int ((p3 ^^^ j40) &&& (255 : Int32)))] [(.int ((31 : Int32) - v5)), (.int (8 : Int32))])) _
            refine XS.imul X31.here hx rfl (hb hby at_160) rfl ?_
            show Steps p.tables e below (T31.setTop (mkF m 161 #[.val (.int p0), .val (.int p1), .val (.int p2), .val (.int p3), .val (.int p4), .val (.int v2), .val (.int v5), .val (.int v8), .val (.ref b11), .val (.ref b13), .val (.int v34), .unset, .val (.int j40), .val (.int ((p3 ^^^ j40) &&& (255 : Int32)))] [(.int ((8 : Int32) * ((31 : Int32) - v5)))])) _
            refine XS.iload X31.here hx rfl (hb hby at_161) rfl ?_
            exact k)
          obtain ⟨_, _, ⟨T45, L45, k45, n45⟩, -, X45, ⟨Lc45, hQ45, l45, y45, z45⟩, st45⟩ := Jvm.LawKit.callS X31 hx (y := (⟨"com/example/hopwise/hopwise/node/DistanceHighestBitPinLaw", "top", "(I)I"⟩ : MethodName)) hown (mvT hZ (hw _ (List.mem_of_getElem? (i := 1) rfl))) (mvT hZ (hw _ (List.mem_of_getElem? (i := 2) rfl))) (mvT hZ (hw _ (List.mem_of_getElem? (i := 3) rfl))) (mvT hZ (hw _ (List.mem_of_getElem? (i := 4) rfl))) (by decide) (backOf (W := 1) (rm1 l Z aw hw [] ((p3 ^^^ j40) &&& (255 : Int32)) h31 n0 Z31) hZ (hw _ (List.mem_of_getElem? (i := 4) rfl)) (hw _ (List.mem_of_getElem? (i := 3) rfl)) (by decide) (by decide)) (g := (mkF m 163 #[.val (.int p0), .val (.int p1), .val (.int p2), .val (.int p3), .val (.int p4), .val (.int v2), .val (.int v5), .val (.int v8), .val (.ref b11), .val (.ref b13), .val (.int v34), .unset, .val (.int j40), .val (.int ((p3 ^^^ j40) &&& (255 : Int32)))] [(.int ((p3 ^^^ j40) &&& (255 : Int32))), (.int ((8 : Int32) * ((31 : Int32) - v5)))])) rfl (by rw [hml]; rfl) (argsL := [(.int ((p3 ^^^ j40) &&& (255 : Int32)))]) (rest := [(.int ((8 : Int32) * ((31 : Int32) - v5)))]) (lenOf pd_0 rfl) rfl (by show 2 * 0 + _ ≤ _; exact Nat.le_of_eq rfl) (hb hby at_163) (fun _ _ => ⟨rfl, e31, (by decide : 2 + 0 ≤ _), (by decide : 64 + 0 ≤ _)⟩)
          dsimp only [Pt.U, Pt.locs, Pt.cells, Pt.slots] at X45 l45 y45 z45 st45 hQ45
          subst l45 y45 z45
          obtain ⟨rfl, N45q, e45⟩ := hQ45
          have N45 := Fr.app N31 N45q
          exact ⟨_, _, (((8 : Int32) * ((31 : Int32) - v5)) + (f1 ((p3 ^^^ j40) &&& (255 : Int32)))), (.val (.int j40)), (.val (.int ((p3 ^^^ j40) &&& (255 : Int32)))), X45, N45, e45, (by subst hj40; simp only [if_pos hc37, if_neg hc43]), (One.val rfl), (One.val rfl), fun t k => pre44 t (by
            show Steps p.tables e below (T31.setTop (mkF m 163 #[.val (.int p0), .val (.int p1), .val (.int p2), .val (.int p3), .val (.int p4), .val (.int v2), .val (.int v5), .val (.int v8), .val (.ref b11), .val (.ref b13), .val (.int v34), .unset, .val (.int j40), .val (.int ((p3 ^^^ j40) &&& (255 : Int32)))] [(.int ((p3 ^^^ j40) &&& (255 : Int32))), (.int ((8 : Int32) * ((31 : Int32) - v5)))])) _
            refine st45 _ ?_
            show Steps p.tables e below (T45.setTop (mkF m 166 #[.val (.int p0), .val (.int p1), .val (.int p2), .val (.int p3), .val (.int p4), .val (.int v2), .val (.int v5), .val (.int v8), .val (.ref b11), .val (.ref b13), .val (.int v34), .unset, .val (.int j40), .val (.int ((p3 ^^^ j40) &&& (255 : Int32)))] [(.int (f1 ((p3 ^^^ j40) &&& (255 : Int32)))), (.int ((8 : Int32) * ((31 : Int32) - v5)))])) _
            refine XS.iadd X45.here hx rfl (hb hby at_166) rfl ?_
            show Steps p.tables e below (T45.setTop (mkF m 167 #[.val (.int p0), .val (.int p1), .val (.int p2), .val (.int p3), .val (.int p4), .val (.int v2), .val (.int v5), .val (.int v8), .val (.ref b11), .val (.ref b13), .val (.int v34), .unset, .val (.int j40), .val (.int ((p3 ^^^ j40) &&& (255 : Int32)))] [(.int (((8 : Int32) * ((31 : Int32) - v5)) + (f1 ((p3 ^^^ j40) &&& (255 : Int32)))))])) _
            refine XS.istore X45.here hx rfl (hb hby at_167) rfl (l' := #[.val (.int p0), .val (.int p1), .val (.int p2), .val (.int p3), .val (.int p4), .val (.int v2), .val (.int v5), .val (.int v8), .val (.ref b11), .val (.ref b13), .val (.int v34), .val (.int (((8 : Int32) * ((31 : Int32) - v5)) + (f1 ((p3 ^^^ j40) &&& (255 : Int32))))), .val (.int j40), .val (.int ((p3 ^^^ j40) &&& (255 : Int32)))]) rfl ?_
            show Steps p.tables e below (T45.setTop (mkF m 169 #[.val (.int p0), .val (.int p1), .val (.int p2), .val (.int p3), .val (.int p4), .val (.int v2), .val (.int v5), .val (.int v8), .val (.ref b11), .val (.ref b13), .val (.int v34), .val (.int (((8 : Int32) * ((31 : Int32) - v5)) + (f1 ((p3 ^^^ j40) &&& (255 : Int32))))), .val (.int j40), .val (.int ((p3 ^^^ j40) &&& (255 : Int32)))] [])) _
            refine XS.goto X45.here hx rfl (pc0 := 169) (pc' := 175) rfl (hb hby at_169) (by decide) (by decide) ?_
            exact k)⟩
      · have pre46 : ∀ t, Steps p.tables e below (T31.setTop (mkF m 103 #[.val (.int p0), .val (.int p1), .val (.int p2), .val (.int p3), .val (.int p4), .val (.int v2), .val (.int v5), .val (.int v8), .val (.ref b11), .val (.ref b13), .val (.int v34), .unset, .unset, .unset] [(.int v34), (.int ((8 : Int32) * ((31 : Int32) - v2)))])) t → Steps p.tables e below (s₁.setTop (entryFrame m #[(.int p0), (.int p1), (.int p2), (.int p3), (.int p4)] maxLocals)) t := fun t k => pre36 t (by
          show Steps p.tables e below (T31.setTop (mkF m 90 #[.val (.int p0), .val (.int p1), .val (.int p2), .val (.int p3), .val (.int p4), .val (.int v2), .val (.int v5), .val (.int v8), .val (.ref b11), .val (.ref b13), .val (.int v34), .unset, .unset, .unset] [(.int v34)])) _
          refine XS.ifNo X31.here hx rfl (hb hby at_90) rfl ((if0 _ _).trans (feq hc37).1) ?_
          show Steps p.tables e below (T31.setTop (mkF m 93 #[.val (.int p0), .val (.int p1), .val (.int p2), .val (.int p3), .val (.int p4), .val (.int v2), .val (.int v5), .val (.int v8), .val (.ref b11), .val (.ref b13), .val (.int v34), .unset, .unset, .unset] [])) _
          refine XS.bipush X31.here hx rfl (hb hby at_93) ?_
          show Steps p.tables e below (T31.setTop (mkF m 95 #[.val (.int p0), .val (.int p1), .val (.int p2), .val (.int p3), .val (.int p4), .val (.int v2), .val (.int v5), .val (.int v8), .val (.ref b11), .val (.ref b13), .val (.int v34), .unset, .unset, .unset] [(.int (8 : Int32))])) _
          refine XS.bipush X31.here hx rfl (hb hby at_95) ?_
          show Steps p.tables e below (T31.setTop (mkF m 97 #[.val (.int p0), .val (.int p1), .val (.int p2), .val (.int p3), .val (.int p4), .val (.int v2), .val (.int v5), .val (.int v8), .val (.ref b11), .val (.ref b13), .val (.int v34), .unset, .unset, .unset] [(.int (31 : Int32)), (.int (8 : Int32))])) _
          refine XS.iload X31.here hx rfl (hb hby at_97) rfl ?_
          show Steps p.tables e below (T31.setTop (mkF m 99 #[.val (.int p0), .val (.int p1), .val (.int p2), .val (.int p3), .val (.int p4), .val (.int v2), .val (.int v5), .val (.int v8), .val (.ref b11), .val (.ref b13), .val (.int v34), .unset, .unset, .unset] [(.int v2), (.int (31 : Int32)), (.int (8 : Int32))])) _
          refine XS.isub X31.here hx rfl (hb hby at_99) rfl ?_
          show Steps p.tables e below (T31.setTop (mkF m 100 #[.val (.int p0), .val (.int p1), .val (.int p2), .val (.int p3), .val (.int p4), .val (.int v2), .val (.int v5), .val (.int v8), .val (.ref b11), .val (.ref b13), .val (.int v34), .unset, .unset, .unset] [(.int ((31 : Int32) - v2)), (.int (8 : Int32))])) _
          refine XS.imul X31.here hx rfl (hb hby at_100) rfl ?_
          show Steps p.tables e below (T31.setTop (mkF m 101 #[.val (.int p0), .val (.int p1), .val (.int p2), .val (.int p3), .val (.int p4), .val (.int v2), .val (.int v5), .val (.int v8), .val (.ref b11), .val (.ref b13), .val (.int v34), .unset, .unset, .unset] [(.int ((8 : Int32) * ((31 : Int32) - v2)))])) _
          refine XS.iload X31.here hx rfl (hb hby at_101) rfl ?_
          exact k)
        obtain ⟨_, _, ⟨T47, L47, k47, n47⟩, -, X47, ⟨Lc47, hQ47, l47, y47, z47⟩, st47⟩ := Jvm.LawKit.callS X31 hx (y := (⟨"com/example/hopwise/hopwise/node/DistanceHighestBitPinLaw", "top", "(I)I"⟩ : MethodName)) hown (mvT hZ (hw _ (List.mem_of_getElem? (i := 1) rfl))) (mvT hZ (hw _ (List.mem_of_getElem? (i := 2) rfl))) (mvT hZ (hw _ (List.mem_of_getElem? (i := 3) rfl))) (mvT hZ (hw _ (List.mem_of_getElem? (i := 4) rfl))) (by decide) (backOf (W := 1) (rm1 l Z aw hw [] v34 h31 n0 Z31) hZ (hw _ (List.mem_of_getElem? (i := 4) rfl)) (hw _ (List.mem_of_getElem? (i := 3) rfl)) (by decide) (by decide)) (g := (mkF m 103 #[.val (.int p0), .val (.int p1), .val (.int p2), .val (.int p3), .val (.int p4), .val (.int v2), .val (.int v5), .val (.int v8), .val (.ref b11), .val (.ref b13), .val (.int v34), .unset, .unset, .unset] [(.int v34), (.int ((8 : Int32) * ((31 : Int32) - v2)))])) rfl (by rw [hml]; rfl) (argsL := [(.int v34)]) (rest := [(.int ((8 : Int32) * ((31 : Int32) - v2)))]) (lenOf pd_0 rfl) rfl (by show 2 * 0 + _ ≤ _; exact Nat.le_of_eq rfl) (hb hby at_103) (fun _ _ => ⟨rfl, e31, (by decide : 2 + 0 ≤ _), (by decide : 64 + 0 ≤ _)⟩)
        dsimp only [Pt.U, Pt.locs, Pt.cells, Pt.slots] at X47 l47 y47 z47 st47 hQ47
        subst l47 y47 z47
        obtain ⟨rfl, N47q, e47⟩ := hQ47
        have N47 := Fr.app N31 N47q
        exact ⟨_, _, (((8 : Int32) * ((31 : Int32) - v2)) + (f1 v34)), (.unset), (.unset), X47, N47, e47, (by rw [if_neg hc37]), One.u, One.u, fun t k => pre46 t (by
          show Steps p.tables e below (T31.setTop (mkF m 103 #[.val (.int p0), .val (.int p1), .val (.int p2), .val (.int p3), .val (.int p4), .val (.int v2), .val (.int v5), .val (.int v8), .val (.ref b11), .val (.ref b13), .val (.int v34), .unset, .unset, .unset] [(.int v34), (.int ((8 : Int32) * ((31 : Int32) - v2)))])) _
          refine st47 _ ?_
          show Steps p.tables e below (T47.setTop (mkF m 106 #[.val (.int p0), .val (.int p1), .val (.int p2), .val (.int p3), .val (.int p4), .val (.int v2), .val (.int v5), .val (.int v8), .val (.ref b11), .val (.ref b13), .val (.int v34), .unset, .unset, .unset] [(.int (f1 v34)), (.int ((8 : Int32) * ((31 : Int32) - v2)))])) _
          refine XS.iadd X47.here hx rfl (hb hby at_106) rfl ?_
          show Steps p.tables e below (T47.setTop (mkF m 107 #[.val (.int p0), .val (.int p1), .val (.int p2), .val (.int p3), .val (.int p4), .val (.int v2), .val (.int v5), .val (.int v8), .val (.ref b11), .val (.ref b13), .val (.int v34), .unset, .unset, .unset] [(.int (((8 : Int32) * ((31 : Int32) - v2)) + (f1 v34)))])) _
          refine XS.istore X47.here hx rfl (hb hby at_107) rfl (l' := #[.val (.int p0), .val (.int p1), .val (.int p2), .val (.int p3), .val (.int p4), .val (.int v2), .val (.int v5), .val (.int v8), .val (.ref b11), .val (.ref b13), .val (.int v34), .val (.int (((8 : Int32) * ((31 : Int32) - v2)) + (f1 v34))), .unset, .unset]) rfl ?_
          show Steps p.tables e below (T47.setTop (mkF m 109 #[.val (.int p0), .val (.int p1), .val (.int p2), .val (.int p3), .val (.int p4), .val (.int v2), .val (.int v5), .val (.int v8), .val (.ref b11), .val (.ref b13), .val (.int v34), .val (.int (((8 : Int32) * ((31 : Int32) - v2)) + (f1 v34))), .unset, .unset] [])) _
          refine XS.goto X47.here hx rfl (pc0 := 109) (pc' := 175) rfl (hb hby at_109) (by decide) (by decide) ?_
          exact k)⟩
    have pre53 : ∀ t, Steps p.tables e below (T52.setTop (mkF m 179 #[.val (.int p0), .val (.int p1), .val (.int p2), .val (.int p3), .val (.int p4), .val (.int v2), .val (.int v5), .val (.int v8), .val (.ref b11), .val (.ref b13), .val (.int v34), .val (.int j48), sl49, sl50] [(.ref b13), (.ref b11)])) t → Steps p.tables e below (s₁.setTop (entryFrame m #[(.int p0), (.int p1), (.int p2), (.int p3), (.int p4)] maxLocals)) t := fun t k => pre51 t (by
      show Steps p.tables e below (T52.setTop (mkF m 175 #[.val (.int p0), .val (.int p1), .val (.int p2), .val (.int p3), .val (.int p4), .val (.int v2), .val (.int v5), .val (.int v8), .val (.ref b11), .val (.ref b13), .val (.int v34), .val (.int j48), sl49, sl50] [])) _
      refine XS.aload X52.here hx rfl (hb hby at_175) rfl rfl ?_
      show Steps p.tables e below (T52.setTop (mkF m 177 #[.val (.int p0), .val (.int p1), .val (.int p2), .val (.int p3), .val (.int p4), .val (.int v2), .val (.int v5), .val (.int v8), .val (.ref b11), .val (.ref b13), .val (.int v34), .val (.int j48), sl49, sl50] [(.ref b11)])) _
      refine XS.aload X52.here hx rfl (hb hby at_177) rfl rfl ?_
      exact k)
    obtain ⟨_, _, ⟨T54, L54, k54, n54⟩, -, X54, ⟨Lc54, hQ54, l54, y54, z54⟩, st54⟩ := Jvm.LawKit.callS X52 hx (y := (⟨"com/example/hopwise/hopwise/node/Distance", "highestBit", "([B[B)I"⟩ : MethodName)) hown (mvT hZ (hw _ (List.mem_of_getElem? (i := 5) rfl))) (mvT hZ (hw _ (List.mem_of_getElem? (i := 6) rfl))) (mvT hZ (hw _ (List.mem_of_getElem? (i := 7) rfl))) (mvT hZ (hw _ (List.mem_of_getElem? (i := 8) rfl))) (by decide) (backOf (W := 0) (rm2 l Z aw hw [] b11 b13 k11 vs32 k13 vs27 h31 n0 Z31 V_b11_31 V_b13_31) hZ (hw _ (List.mem_of_getElem? (i := 8) rfl)) (hw _ (List.mem_of_getElem? (i := 7) rfl)) (by decide) (by decide)) (g := (mkF m 179 #[.val (.int p0), .val (.int p1), .val (.int p2), .val (.int p3), .val (.int p4), .val (.int v2), .val (.int v5), .val (.int v8), .val (.ref b11), .val (.ref b13), .val (.int v34), .val (.int j48), sl49, sl50] [(.ref b13), (.ref b11)])) rfl (by rw [hml]; rfl) (argsL := [(.ref b11), (.ref b13)]) (rest := []) (lenOf pd_1 rfl) rfl (by show 2 * 0 + _ ≤ _; exact Nat.le_of_eq rfl) (hb hby at_179) (fun _ _ => ⟨rfl, e52, (by decide : 2 + 0 ≤ _), (by decide : 64 + 0 ≤ _)⟩)
    dsimp only [Pt.U, Pt.locs, Pt.cells, Pt.slots] at X54 l54 y54 z54 st54 hQ54
    subst l54 y54 z54
    obtain ⟨rfl, N54q, e54⟩ := hQ54
    have N54 := Fr.app N52 N54q
    have pre55 : ∀ t, Steps p.tables e below (T54.setTop (mkF m 182 #[.val (.int p0), .val (.int p1), .val (.int p2), .val (.int p3), .val (.int p4), .val (.int v2), .val (.int v5), .val (.int v8), .val (.ref b11), .val (.ref b13), .val (.int v34), .val (.int j48), sl49, sl50] [(.int (f2 vs32 vs27))])) t → Steps p.tables e below (s₁.setTop (entryFrame m #[(.int p0), (.int p1), (.int p2), (.int p3), (.int p4)] maxLocals)) t := fun t k => pre53 t (by
      show Steps p.tables e below (T52.setTop (mkF m 179 #[.val (.int p0), .val (.int p1), .val (.int p2), .val (.int p3), .val (.int p4), .val (.int v2), .val (.int v5), .val (.int v8), .val (.ref b11), .val (.ref b13), .val (.int v34), .val (.int j48), sl49, sl50] [(.ref b13), (.ref b11)])) _
      refine st54 _ ?_
      exact k)
    obtain ⟨v56, hv56⟩ : ∃ z : Int32, z = (f2 vs32 vs27) := ⟨_, rfl⟩
    have pre57 : ∀ t, Steps p.tables e below (T54.setTop (mkF m 182 #[.val (.int p0), .val (.int p1), .val (.int p2), .val (.int p3), .val (.int p4), .val (.int v2), .val (.int v5), .val (.int v8), .val (.ref b11), .val (.ref b13), .val (.int v34), .val (.int j48), sl49, sl50] [(.int v56)])) t → Steps p.tables e below (s₁.setTop (entryFrame m #[(.int p0), (.int p1), (.int p2), (.int p3), (.int p4)] maxLocals)) t := fun t k => pre55 t (by rw [hv56] at k; exact k)
    have pre58 : ∀ t, Steps p.tables e below (T54.setTop (mkF m 188 #[.val (.int p0), .val (.int p1), .val (.int p2), .val (.int p3), .val (.int p4), .val (.int v2), .val (.int v5), .val (.int v8), .val (.ref b11), .val (.ref b13), .val (.int v34), .val (.int j48), .val (.int v56), sl50] [(.ref b11), (.ref b13)])) t → Steps p.tables e below (s₁.setTop (entryFrame m #[(.int p0), (.int p1), (.int p2), (.int p3), (.int p4)] maxLocals)) t := fun t k => pre57 t (by
      show Steps p.tables e below (T54.setTop (mkF m 182 #[.val (.int p0), .val (.int p1), .val (.int p2), .val (.int p3), .val (.int p4), .val (.int v2), .val (.int v5), .val (.int v8), .val (.ref b11), .val (.ref b13), .val (.int v34), .val (.int j48), sl49, sl50] [(.int v56)])) _
      refine XS.istore X54.here hx rfl (hb hby at_182) rfl (l' := #[.val (.int p0), .val (.int p1), .val (.int p2), .val (.int p3), .val (.int p4), .val (.int v2), .val (.int v5), .val (.int v8), .val (.ref b11), .val (.ref b13), .val (.int v34), .val (.int j48), .val (.int v56), sl50]) (XS.store1 (o := sl49) rfl hsl49 rfl) ?_
      show Steps p.tables e below (T54.setTop (mkF m 184 #[.val (.int p0), .val (.int p1), .val (.int p2), .val (.int p3), .val (.int p4), .val (.int v2), .val (.int v5), .val (.int v8), .val (.ref b11), .val (.ref b13), .val (.int v34), .val (.int j48), .val (.int v56), sl50] [])) _
      refine XS.aload X54.here hx rfl (hb hby at_184) rfl rfl ?_
      show Steps p.tables e below (T54.setTop (mkF m 186 #[.val (.int p0), .val (.int p1), .val (.int p2), .val (.int p3), .val (.int p4), .val (.int v2), .val (.int v5), .val (.int v8), .val (.ref b11), .val (.ref b13), .val (.int v34), .val (.int j48), .val (.int v56), sl50] [(.ref b13)])) _
      refine XS.aload X54.here hx rfl (hb hby at_186) rfl rfl ?_
      exact k)
    obtain ⟨_, _, ⟨T59, L59, k59, n59⟩, -, X59, ⟨Lc59, hQ59, l59, y59, z59⟩, st59⟩ := Jvm.LawKit.callS X54 hx (y := (⟨"com/example/hopwise/hopwise/node/Distance", "highestBit", "([B[B)I"⟩ : MethodName)) hown (mvT hZ (hw _ (List.mem_of_getElem? (i := 5) rfl))) (mvT hZ (hw _ (List.mem_of_getElem? (i := 6) rfl))) (mvT hZ (hw _ (List.mem_of_getElem? (i := 7) rfl))) (mvT hZ (hw _ (List.mem_of_getElem? (i := 8) rfl))) (by decide) (backOf (W := 0) (rm2 l Z aw hw [] b13 b11 k13 vs27 k11 vs32 h31 n0 Z31 V_b13_31 V_b11_31) hZ (hw _ (List.mem_of_getElem? (i := 8) rfl)) (hw _ (List.mem_of_getElem? (i := 7) rfl)) (by decide) (by decide)) (g := (mkF m 188 #[.val (.int p0), .val (.int p1), .val (.int p2), .val (.int p3), .val (.int p4), .val (.int v2), .val (.int v5), .val (.int v8), .val (.ref b11), .val (.ref b13), .val (.int v34), .val (.int j48), .val (.int v56), sl50] [(.ref b11), (.ref b13)])) rfl (by rw [hml]; rfl) (argsL := [(.ref b13), (.ref b11)]) (rest := []) (lenOf pd_1 rfl) rfl (by show 2 * 0 + _ ≤ _; exact Nat.le_of_eq rfl) (hb hby at_188) (fun _ _ => ⟨rfl, e54, (by decide : 2 + 0 ≤ _), (by decide : 64 + 0 ≤ _)⟩)
    dsimp only [Pt.U, Pt.locs, Pt.cells, Pt.slots] at X59 l59 y59 z59 st59 hQ59
    subst l59 y59 z59
    obtain ⟨rfl, N59q, e59⟩ := hQ59
    have N59 := Fr.app N54 N59q
    have pre60 : ∀ t, Steps p.tables e below (T59.setTop (mkF m 191 #[.val (.int p0), .val (.int p1), .val (.int p2), .val (.int p3), .val (.int p4), .val (.int v2), .val (.int v5), .val (.int v8), .val (.ref b11), .val (.ref b13), .val (.int v34), .val (.int j48), .val (.int v56), sl50] [(.int (f2 vs27 vs32))])) t → Steps p.tables e below (s₁.setTop (entryFrame m #[(.int p0), (.int p1), (.int p2), (.int p3), (.int p4)] maxLocals)) t := fun t k => pre58 t (by
      show Steps p.tables e below (T54.setTop (mkF m 188 #[.val (.int p0), .val (.int p1), .val (.int p2), .val (.int p3), .val (.int p4), .val (.int v2), .val (.int v5), .val (.int v8), .val (.ref b11), .val (.ref b13), .val (.int v34), .val (.int j48), .val (.int v56), sl50] [(.ref b11), (.ref b13)])) _
      refine st59 _ ?_
      exact k)
    obtain ⟨v61, hv61⟩ : ∃ z : Int32, z = (f2 vs27 vs32) := ⟨_, rfl⟩
    have pre62 : ∀ t, Steps p.tables e below (T59.setTop (mkF m 191 #[.val (.int p0), .val (.int p1), .val (.int p2), .val (.int p3), .val (.int p4), .val (.int v2), .val (.int v5), .val (.int v8), .val (.ref b11), .val (.ref b13), .val (.int v34), .val (.int j48), .val (.int v56), sl50] [(.int v61)])) t → Steps p.tables e below (s₁.setTop (entryFrame m #[(.int p0), (.int p1), (.int p2), (.int p3), (.int p4)] maxLocals)) t := fun t k => pre60 t (by rw [hv61] at k; exact k)
    have pre63 : ∀ t, Steps p.tables e below (T59.setTop (mkF m 197 #[.val (.int p0), .val (.int p1), .val (.int p2), .val (.int p3), .val (.int p4), .val (.int v2), .val (.int v5), .val (.int v8), .val (.ref b11), .val (.ref b13), .val (.int v34), .val (.int j48), .val (.int v56), .val (.int v61)] [(.int j48), (.int v56)])) t → Steps p.tables e below (s₁.setTop (entryFrame m #[(.int p0), (.int p1), (.int p2), (.int p3), (.int p4)] maxLocals)) t := fun t k => pre62 t (by
      show Steps p.tables e below (T59.setTop (mkF m 191 #[.val (.int p0), .val (.int p1), .val (.int p2), .val (.int p3), .val (.int p4), .val (.int v2), .val (.int v5), .val (.int v8), .val (.ref b11), .val (.ref b13), .val (.int v34), .val (.int j48), .val (.int v56), sl50] [(.int v61)])) _
      refine XS.istore X59.here hx rfl (hb hby at_191) rfl (l' := #[.val (.int p0), .val (.int p1), .val (.int p2), .val (.int p3), .val (.int p4), .val (.int v2), .val (.int v5), .val (.int v8), .val (.ref b11), .val (.ref b13), .val (.int v34), .val (.int j48), .val (.int v56), .val (.int v61)]) (XS.store1 (o := sl50) rfl hsl50 rfl) ?_
      show Steps p.tables e below (T59.setTop (mkF m 193 #[.val (.int p0), .val (.int p1), .val (.int p2), .val (.int p3), .val (.int p4), .val (.int v2), .val (.int v5), .val (.int v8), .val (.ref b11), .val (.ref b13), .val (.int v34), .val (.int j48), .val (.int v56), .val (.int v61)] [])) _
      refine XS.iload X59.here hx rfl (hb hby at_193) rfl ?_
      show Steps p.tables e below (T59.setTop (mkF m 195 #[.val (.int p0), .val (.int p1), .val (.int p2), .val (.int p3), .val (.int p4), .val (.int v2), .val (.int v5), .val (.int v8), .val (.ref b11), .val (.ref b13), .val (.int v34), .val (.int j48), .val (.int v56), .val (.int v61)] [(.int v56)])) _
      refine XS.iload X59.here hx rfl (hb hby at_195) rfl ?_
      exact k)
    obtain ⟨j67, hj67, pre68⟩ : ∃ (j67 : Int32), j67 = (if v56 = j48 then (if v61 = j48 then (1 : Int32) else (0 : Int32)) else (0 : Int32)) ∧ ∀ t, Steps p.tables e below (T59.setTop (mkF m 212 #[.val (.int p0), .val (.int p1), .val (.int p2), .val (.int p3), .val (.int p4), .val (.int v2), .val (.int v5), .val (.int v8), .val (.ref b11), .val (.ref b13), .val (.int v34), .val (.int j48), .val (.int v56), .val (.int v61)] [(.int j67)])) t → Steps p.tables e below (s₁.setTop (entryFrame m #[(.int p0), (.int p1), (.int p2), (.int p3), (.int p4)] maxLocals)) t := by
      by_cases hc64 : v56 = j48
      · have pre65 : ∀ t, Steps p.tables e below (T59.setTop (mkF m 204 #[.val (.int p0), .val (.int p1), .val (.int p2), .val (.int p3), .val (.int p4), .val (.int v2), .val (.int v5), .val (.int v8), .val (.ref b11), .val (.ref b13), .val (.int v34), .val (.int j48), .val (.int v56), .val (.int v61)] [(.int j48), (.int v61)])) t → Steps p.tables e below (s₁.setTop (entryFrame m #[(.int p0), (.int p1), (.int p2), (.int p3), (.int p4)] maxLocals)) t := fun t k => pre63 t (by
          show Steps p.tables e below (T59.setTop (mkF m 197 #[.val (.int p0), .val (.int p1), .val (.int p2), .val (.int p3), .val (.int p4), .val (.int v2), .val (.int v5), .val (.int v8), .val (.ref b11), .val (.ref b13), .val (.int v34), .val (.int j48), .val (.int v56), .val (.int v61)] [(.int j48), (.int v56)])) _
          refine XS.icmpNo X59.here hx rfl (hb hby at_197) rfl (teq hc64).2 ?_
          show Steps p.tables e below (T59.setTop (mkF m 200 #[.val (.int p0), .val (.int p1), .val (.int p2), .val (.int p3), .val (.int p4), .val (.int v2), .val (.int v5), .val (.int v8), .val (.ref b11), .val (.ref b13), .val (.int v34), .val (.int j48), .val (.int v56), .val (.int v61)] [])) _
          refine XS.iload X59.here hx rfl (hb hby at_200) rfl ?_
          show Steps p.tables e below (T59.setTop (mkF m 202 #[.val (.int p0), .val (.int p1), .val (.int p2), .val (.int p3), .val (.int p4), .val (.int v2), .val (.int v5), .val (.int v8), .val (.ref b11), .val (.ref b13), .val (.int v34), .val (.int j48), .val (.int v56), .val (.int v61)] [(.int v61)])) _
          refine XS.iload X59.here hx rfl (hb hby at_202) rfl ?_
          exact k)
        by_cases hc66 : v61 = j48
        · exact ⟨(1 : Int32), (by rw [if_pos hc64, if_pos hc66]), fun t k => pre65 t (by
            show Steps p.tables e below (T59.setTop (mkF m 204 #[.val (.int p0), .val (.int p1), .val (.int p2), .val (.int p3), .val (.int p4), .val (.int v2), .val (.int v5), .val (.int v8), .val (.ref b11), .val (.ref b13), .val (.int v34), .val (.int j48), .val (.int v56), .val (.int v61)] [(.int j48), (.int v61)])) _
            refine XS.icmpNo X59.here hx rfl (hb hby at_204) rfl (teq hc66).2 ?_
            show Steps p.tables e below (T59.setTop (mkF m 207 #[.val (.int p0), .val (.int p1), .val (.int p2), .val (.int p3), .val (.int p4), .val (.int v2), .val (.int v5), .val (.int v8), .val (.ref b11), .val (.ref b13), .val (.int v34), .val (.int j48), .val (.int v56), .val (.int v61)] [])) _
            refine XS.iconst X59.here hx rfl (hb hby at_207) ?_
            show Steps p.tables e below (T59.setTop (mkF m 208 #[.val (.int p0), .val (.int p1), .val (.int p2), .val (.int p3), .val (.int p4), .val (.int v2), .val (.int v5), .val (.int v8), .val (.ref b11), .val (.ref b13), .val (.int v34), .val (.int j48), .val (.int v56), .val (.int v61)] [(.int (1 : Int32))])) _
            refine XS.goto X59.here hx rfl (pc0 := 208) (pc' := 212) rfl (hb hby at_208) (by decide) (by decide) ?_
            exact k)⟩
        · exact ⟨(0 : Int32), (by rw [if_pos hc64, if_neg hc66]), fun t k => pre65 t (by
            show Steps p.tables e below (T59.setTop (mkF m 204 #[.val (.int p0), .val (.int p1), .val (.int p2), .val (.int p3), .val (.int p4), .val (.int v2), .val (.int v5), .val (.int v8), .val (.ref b11), .val (.ref b13), .val (.int v34), .val (.int j48), .val (.int v56), .val (.int v61)] [(.int j48), (.int v61)])) _
            refine XS.icmpYes X59.here hx rfl (pc0 := 204) (pc' := 211) rfl (hb hby at_204) rfl (feq hc66).2 (by decide) (by decide) ?_
            show Steps p.tables e below (T59.setTop (mkF m 211 #[.val (.int p0), .val (.int p1), .val (.int p2), .val (.int p3), .val (.int p4), .val (.int v2), .val (.int v5), .val (.int v8), .val (.ref b11), .val (.ref b13), .val (.int v34), .val (.int j48), .val (.int v56), .val (.int v61)] [])) _
            refine XS.iconst X59.here hx rfl (hb hby at_211) ?_
            exact k)⟩
      · exact ⟨(0 : Int32), (by rw [if_neg hc64]), fun t k => pre63 t (by
          show Steps p.tables e below (T59.setTop (mkF m 197 #[.val (.int p0), .val (.int p1), .val (.int p2), .val (.int p3), .val (.int p4), .val (.int v2), .val (.int v5), .val (.int v8), .val (.ref b11), .val (.ref b13), .val (.int v34), .val (.int j48), .val (.int v56), .val (.int v61)] [(.int j48), (.int v56)])) _
          refine XS.icmpYes X59.here hx rfl (pc0 := 197) (pc' := 211) rfl (hb hby at_197) rfl (feq hc64).2 (by decide) (by decide) ?_
          show Steps p.tables e below (T59.setTop (mkF m 211 #[.val (.int p0), .val (.int p1), .val (.int p2), .val (.int p3), .val (.int p4), .val (.int v2), .val (.int v5), .val (.int v8), .val (.ref b11), .val (.ref b13), .val (.int v34), .val (.int j48), .val (.int v56), .val (.int v61)] [])) _
          refine XS.iconst X59.here hx rfl (hb hby at_211) ?_
          exact k)⟩
    obtain ⟨fs, hr, hrun, hended, hW, hsame⟩ := X59.leave (v := some (.int (nar .boolean j67))) (fun h => by rw [Bd.returns] at h; cases h)
    refine ⟨_, _, pre68 _ ?_, hrun, hended, _, _, rfl, ?_, ⟨_, rfl⟩, hW, hsame.mono (by decide) (by decide)⟩
    · show Steps p.tables e below (T59.setTop (mkF m 212 #[.val (.int p0), .val (.int p1), .val (.int p2), .val (.int p3), .val (.int p4), .val (.int v2), .val (.int v5), .val (.int v8), .val (.ref b11), .val (.ref b13), .val (.int v34), .val (.int j48), .val (.int v56), .val (.int v61)] [(.int j67)])) _
      exact retN X59 hx (t := .boolean) Bd.returns (by simp) (hb hby at_212) hr
    · show Q0 Z p0 p1 p2 p3 p4 h0 n0 _ T59.heap _
      rw [e59]
      have hv : (nar .boolean j67) = f0 p0 p1 p2 p3 p4 := (by subst hj67 hv61 hv56 hj48 hv34 hvs32 hvs27 hvs24 hvs21 hvs18 hvs17 hvs14 hv8 hv5 hv2; simp only [f0, if_pos hc29])
      exact ⟨congrArg (fun z => some (Value.int z)) (hv.trans hlaw), N59⟩
  · have pre69 : ∀ t, Steps p.tables e below (T26.setTop (mkF m 86 #[.val (.int p0), .val (.int p1), .val (.int p2), .val (.int p3), .val (.int p4), .val (.int v2), .val (.int v5), .val (.int v8), .val (.ref b11), .val (.ref b13), .unset, .unset, .unset, .unset] [(.int ((p1 ^^^ p2) &&& (255 : Int32)))])) t → Steps p.tables e below (s₁.setTop (entryFrame m #[(.int p0), (.int p1), (.int p2), (.int p3), (.int p4)] maxLocals)) t := fun t k => pre28 t (by
      show Steps p.tables e below (T26.setTop (mkF m 69 #[.val (.int p0), .val (.int p1), .val (.int p2), .val (.int p3), .val (.int p4), .val (.int v2), .val (.int v5), .val (.int v8), .val (.ref b11), .val (.ref b13), .unset, .unset, .unset, .unset] [(.int v2), (.int v5)])) _
      refine XS.icmpYes X26.here hx rfl (pc0 := 69) (pc' := 79) rfl (hb hby at_69) rfl (flt hc29).2.2.2 (by decide) (by decide) ?_
      show Steps p.tables e below (T26.setTop (mkF m 79 #[.val (.int p0), .val (.int p1), .val (.int p2), .val (.int p3), .val (.int p4), .val (.int v2), .val (.int v5), .val (.int v8), .val (.ref b11), .val (.ref b13), .unset, .unset, .unset, .unset] [])) _
      refine XS.iloadN X26.here hx rfl (hb hby at_79) rfl ?_
      show Steps p.tables e below (T26.setTop (mkF m 80 #[.val (.int p0), .val (.int p1), .val (.int p2), .val (.int p3), .val (.int p4), .val (.int v2), .val (.int v5), .val (.int v8), .val (.ref b11), .val (.ref b13), .unset, .unset, .unset, .unset] [(.int p1)])) _
      refine XS.iloadN X26.here hx rfl (hb hby at_80) rfl ?_
      show Steps p.tables e below (T26.setTop (mkF m 81 #[.val (.int p0), .val (.int p1), .val (.int p2), .val (.int p3), .val (.int p4), .val (.int v2), .val (.int v5), .val (.int v8), .val (.ref b11), .val (.ref b13), .unset, .unset, .unset, .unset] [(.int p2), (.int p1)])) _
      refine XS.ixor X26.here hx rfl (hb hby at_81) rfl ?_
      show Steps p.tables e below (T26.setTop (mkF m 82 #[.val (.int p0), .val (.int p1), .val (.int p2), .val (.int p3), .val (.int p4), .val (.int v2), .val (.int v5), .val (.int v8), .val (.ref b11), .val (.ref b13), .unset, .unset, .unset, .unset] [(.int (p1 ^^^ p2))])) _
      refine XS.sipush X26.here hx rfl (hb hby at_82) ?_
      show Steps p.tables e below (T26.setTop (mkF m 85 #[.val (.int p0), .val (.int p1), .val (.int p2), .val (.int p3), .val (.int p4), .val (.int v2), .val (.int v5), .val (.int v8), .val (.ref b11), .val (.ref b13), .unset, .unset, .unset, .unset] [(.int (255 : Int32)), (.int (p1 ^^^ p2))])) _
      refine XS.iand X26.here hx rfl (hb hby at_85) rfl ?_
      exact k)
    obtain ⟨v70, hv70⟩ : ∃ z : Int32, z = ((p1 ^^^ p2) &&& (255 : Int32)) := ⟨_, rfl⟩
    have pre71 : ∀ t, Steps p.tables e below (T26.setTop (mkF m 86 #[.val (.int p0), .val (.int p1), .val (.int p2), .val (.int p3), .val (.int p4), .val (.int v2), .val (.int v5), .val (.int v8), .val (.ref b11), .val (.ref b13), .unset, .unset, .unset, .unset] [(.int v70)])) t → Steps p.tables e below (s₁.setTop (entryFrame m #[(.int p0), (.int p1), (.int p2), (.int p3), (.int p4)] maxLocals)) t := fun t k => pre69 t (by rw [hv70] at k; exact k)
    have pre72 : ∀ t, Steps p.tables e below (T26.setTop (mkF m 90 #[.val (.int p0), .val (.int p1), .val (.int p2), .val (.int p3), .val (.int p4), .val (.int v2), .val (.int v5), .val (.int v8), .val (.ref b11), .val (.ref b13), .val (.int v70), .unset, .unset, .unset] [(.int v70)])) t → Steps p.tables e below (s₁.setTop (entryFrame m #[(.int p0), (.int p1), (.int p2), (.int p3), (.int p4)] maxLocals)) t := fun t k => pre71 t (by
      show Steps p.tables e below (T26.setTop (mkF m 86 #[.val (.int p0), .val (.int p1), .val (.int p2), .val (.int p3), .val (.int p4), .val (.int v2), .val (.int v5), .val (.int v8), .val (.ref b11), .val (.ref b13), .unset, .unset, .unset, .unset] [(.int v70)])) _
      refine XS.istore X26.here hx rfl (hb hby at_86) rfl (l' := #[.val (.int p0), .val (.int p1), .val (.int p2), .val (.int p3), .val (.int p4), .val (.int v2), .val (.int v5), .val (.int v8), .val (.ref b11), .val (.ref b13), .val (.int v70), .unset, .unset, .unset]) rfl ?_
      show Steps p.tables e below (T26.setTop (mkF m 88 #[.val (.int p0), .val (.int p1), .val (.int p2), .val (.int p3), .val (.int p4), .val (.int v2), .val (.int v5), .val (.int v8), .val (.ref b11), .val (.ref b13), .val (.int v70), .unset, .unset, .unset] [])) _
      refine XS.iload X26.here hx rfl (hb hby at_88) rfl ?_
      exact k)
    obtain ⟨T84, LjT84, j80, sl81, sl82, X84, N84, e84, hj80, hsl81, hsl82, pre83⟩ : ∃ (T84 : State) (LjT84 : List Loc) (j80 : Int32) (sl81 : Slot) (sl82 : Slot), Stand p l e room_1 s m #[(.int p0), (.int p1), (.int p2), (.int p3), (.int p4)] below meth c T84 LjT84 2 64 ∧ Fr n0 LjT84 ∧ T84.heap = h26 ∧ j80 = (if v70 = (0 : Int32) then (let j76 : Int32 := (if v5 = v8 then (p4 &&& (255 : Int32)) else (0 : Int32)); (-1 : Int32)) else (((8 : Int32) * ((31 : Int32) - v2)) + (f1 v70))) ∧ One sl81 ∧ One sl82 ∧ ∀ t, Steps p.tables e below (T84.setTop (mkF m 175 #[.val (.int p0), .val (.int p1), .val (.int p2), .val (.int p3), .val (.int p4), .val (.int v2), .val (.int v5), .val (.int v8), .val (.ref b11), .val (.ref b13), .val (.int v70), .val (.int j80), sl81, sl82] [])) t → Steps p.tables e below (s₁.setTop (entryFrame m #[(.int p0), (.int p1), (.int p2), (.int p3), (.int p4)] maxLocals)) t := by
      by_cases hc73 : v70 = (0 : Int32)
      · have pre74 : ∀ t, Steps p.tables e below (T26.setTop (mkF m 116 #[.val (.int p0), .val (.int p1), .val (.int p2), .val (.int p3), .val (.int p4), .val (.int v2), .val (.int v5), .val (.int v8), .val (.ref b11), .val (.ref b13), .val (.int v70), .unset, .unset, .unset] [(.int v8), (.int v5)])) t → Steps p.tables e below (s₁.setTop (entryFrame m #[(.int p0), (.int p1), (.int p2), (.int p3), (.int p4)] maxLocals)) t := fun t k => pre72 t (by
          show Steps p.tables e below (T26.setTop (mkF m 90 #[.val (.int p0), .val (.int p1), .val (.int p2), .val (.int p3), .val (.int p4), .val (.int v2), .val (.int v5), .val (.int v8), .val (.ref b11), .val (.ref b13), .val (.int v70), .unset, .unset, .unset] [(.int v70)])) _
          refine XS.ifYes X26.here hx rfl (pc0 := 90) (pc' := 112) rfl (hb hby at_90) rfl ((if0 _ _).trans (teq hc73).1) (by decide) (by decide) ?_
          show Steps p.tables e below (T26.setTop (mkF m 112 #[.val (.int p0), .val (.int p1), .val (.int p2), .val (.int p3), .val (.int p4), .val (.int v2), .val (.int v5), .val (.int v8), .val (.ref b11), .val (.ref b13), .val (.int v70), .unset, .unset, .unset] [])) _
          refine XS.iload X26.here hx rfl (hb hby at_112) rfl ?_
          show Steps p.tables e below (T26.setTop (mkF m 114 #[.val (.int p0), .val (.int p1), .val (.int p2), .val (.int p3), .val (.int p4), .val (.int v2), .val (.int v5), .val (.int v8), .val (.ref b11), .val (.ref b13), .val (.int v70), .unset, .unset, .unset] [(.int v5)])) _
          refine XS.iload X26.here hx rfl (hb hby at_114) rfl ?_
          exact k)
        obtain ⟨j76, hj76, pre77⟩ : ∃ (j76 : Int32), j76 = (if v5 = v8 then (p4 &&& (255 : Int32)) else (0 : Int32)) ∧ ∀ t, Steps p.tables e below (T26.setTop (mkF m 129 #[.val (.int p0), .val (.int p1), .val (.int p2), .val (.int p3), .val (.int p4), .val (.int v2), .val (.int v5), .val (.int v8), .val (.ref b11), .val (.ref b13), .val (.int v70), .unset, .unset, .unset] [(.int j76)])) t → Steps p.tables e below (s₁.setTop (entryFrame m #[(.int p0), (.int p1), (.int p2), (.int p3), (.int p4)] maxLocals)) t := by
          by_cases hc75 : v5 = v8
          · exact ⟨(p4 &&& (255 : Int32)), (by rw [if_pos hc75]), fun t k => pre74 t (by
              show Steps p.tables e below (T26.setTop (mkF m 116 #[.val (.int p0), .val (.int p1), .val (.int p2), .val (.int p3), .val (.int p4), .val (.int v2), .val (.int v5), .val (.int v8), .val (.ref b11), .val (.ref b13), .val (.int v70), .unset, .unset, .unset] [(.int v8), (.int v5)])) _
              refine XS.icmpNo X26.here hx rfl (hb hby at_116) rfl (teq hc75).2 ?_
              show Steps p.tables e below (T26.setTop (mkF m 119 #[.val (.int p0), .val (.int p1), .val (.int p2), .val (.int p3), .val (.int p4), .val (.int v2), .val (.int v5), .val (.int v8), .val (.ref b11), .val (.ref b13), .val (.int v70), .unset, .unset, .unset] [])) _
              refine XS.iload X26.here hx rfl (hb hby at_119) rfl ?_
              show Steps p.tables e below (T26.setTop (mkF m 121 #[.val (.int p0), .val (.int p1), .val (.int p2), .val (.int p3), .val (.int p4), .val (.int v2), .val (.int v5), .val (.int v8), .val (.ref b11), .val (.ref b13), .val (.int v70), .unset, .unset, .unset] [(.int p4)])) _
              refine XS.sipush X26.here hx rfl (hb hby at_121) ?_
              show Steps p.tables e below (T26.setTop (mkF m 124 #[.val (.int p0), .val (.int p1), .val (.int p2), .val (.int p3), .val (.int p4), .val (.int v2), .val (.int v5), .val (.int v8), .val (.ref b11), .val (.ref b13), .val (.int v70), .unset, .unset, .unset] [(.int (255 : Int32)), (.int p4)])) _
              refine XS.iand X26.here hx rfl (hb hby at_124) rfl ?_
              show Steps p.tables e below (T26.setTop (mkF m 125 #[.val (.int p0), .val (.int p1), .val (.int p2), .val (.int p3), .val (.int p4), .val (.int v2), .val (.int v5), .val (.int v8), .val (.ref b11), .val (.ref b13), .val (.int v70), .unset, .unset, .unset] [(.int (p4 &&& (255 : Int32)))])) _
              refine XS.goto X26.here hx rfl (pc0 := 125) (pc' := 129) rfl (hb hby at_125) (by decide) (by decide) ?_
              exact k)⟩
          · exact ⟨(0 : Int32), (by rw [if_neg hc75]), fun t k => pre74 t (by
              show Steps p.tables e below (T26.setTop (mkF m 116 #[.val (.int p0), .val (.int p1), .val (.int p2), .val (.int p3), .val (.int p4), .val (.int v2), .val (.int v5), .val (.int v8), .val (.ref b11), .val (.ref b13), .val (.int v70), .unset, .unset, .unset] [(.int v8), (.int v5)])) _
              refine XS.icmpYes X26.here hx rfl (pc0 := 116) (pc' := 128) rfl (hb hby at_116) rfl (feq hc75).2 (by decide) (by decide) ?_
              show Steps p.tables e below (T26.setTop (mkF m 128 #[.val (.int p0), .val (.int p1), .val (.int p2), .val (.int p3), .val (.int p4), .val (.int v2), .val (.int v5), .val (.int v8), .val (.ref b11), .val (.ref b13), .val (.int v70), .unset, .unset, .unset] [])) _
              refine XS.iconst X26.here hx rfl (hb hby at_128) ?_
              exact k)⟩
        exact ⟨_, _, (-1 : Int32), (.val (.int j76)), (.val (.int ((p3 ^^^ j76) &&& (255 : Int32)))), X26, N26, e26, (by subst hj76; simp only [if_pos hc73]), (One.val rfl), (One.val rfl), fun t k => pre77 t (by
          show Steps p.tables e below (T26.setTop (mkF m 129 #[.val (.int p0), .val (.int p1), .val (.int p2), .val (.int p3), .val (.int p4), .val (.int v2), .val (.int v5), .val (.int v8), .val (.ref b11), .val (.ref b13), .val (.int v70), .unset, .unset, .unset] [(.int j76)])) _
          refine XS.istore X26.here hx rfl (hb hby at_129) rfl (l' := #[.val (.int p0), .val (.int p1), .val (.int p2), .val (.int p3), .val (.int p4), .val (.int v2), .val (.int v5), .val (.int v8), .val (.ref b11), .val (.ref b13), .val (.int v70), .unset, .val (.int j76), .unset]) rfl ?_
          show Steps p.tables e below (T26.setTop (mkF m 131 #[.val (.int p0), .val (.int p1), .val (.int p2), .val (.int p3), .val (.int p4), .val (.int v2), .val (.int v5), .val (.int v8), .val (.ref b11), .val (.ref b13), .val (.int v70), .unset, .val (.int j76), .unset] [])) _
          refine XS.iloadN X26.here hx rfl (hb hby at_131) rfl ?_
          show Steps p.tables e below (T26.setTop (mkF m 132 #[.val (.int p0), .val (.int p1), .val (.int p2), .val (.int p3), .val (.int p4), .val (.int v2), .val (.int v5), .val (.int v8), .val (.ref b11), .val (.ref b13), .val (.int v70), .unset, .val (.int j76), .unset] [(.int p3)])) _
          refine XS.iload X26.here hx rfl (hb hby at_132) rfl ?_
          show Steps p.tables e below (T26.setTop (mkF m 134 #[.val (.int p0), .val (.int p1), .val (.int p2), .val (.int p3), .val (.int p4), .val (.int v2), .val (.int v5), .val (.int v8), .val (.ref b11), .val (.ref b13), .val (.int v70), .unset, .val (.int j76), .unset] [(.int j76), (.int p3)])) _
          refine XS.ixor X26.here hx rfl (hb hby at_134) rfl ?_
          show Steps p.tables e below (T26.setTop (mkF m 135 #[.val (.int p0), .val (.int p1), .val (.int p2), .val (.int p3), .val (.int p4), .val (.int v2), .val (.int v5), .val (.int v8), .val (.ref b11), .val (.ref b13), .val (.int v70), .unset, .val (.int j76), .unset] [(.int (p3 ^^^ j76))])) _
          refine XS.sipush X26.here hx rfl (hb hby at_135) ?_
          show Steps p.tables e below (T26.setTop (mkF m 138 #[.val (.int p0), .val (.int p1), .val (.int p2), .val (.int p3), .val (.int p4), .val (.int v2), .val (.int v5), .val (.int v8), .val (.ref b11), .val (.ref b13), .val (.int v70), .unset, .val (.int j76), .unset] [(.int (255 : Int32)), (.int (p3 ^^^ j76))])) _
          refine XS.iand X26.here hx rfl (hb hby at_138) rfl ?_
          show Steps p.tables e below (T26.setTop (mkF m 139 #[.val (.int p0), .val (.int p1), .val (.int p2), .val (.int p3), .val (.int p4), .val (.int v2), .val (.int v5), .val (.int v8), .val (.ref b11), .val (.ref b13), .val (.int v70), .unset, .val (.int j76), .unset] [(.int ((p3 ^^^ j76) &&& (255 : Int32)))])) _
          refine XS.istore X26.here hx rfl (hb hby at_139) rfl (l' := #[.val (.int p0), .val (.int p1), .val (.int p2), .val (.int p3), .val (.int p4), .val (.int v2), .val (.int v5), .val (.int v8), .val (.ref b11), .val (.ref b13), .val (.int v70), .unset, .val (.int j76), .val (.int ((p3 ^^^ j76) &&& (255 : Int32)))]) rfl ?_
          show Steps p.tables e below (T26.setTop (mkF m 141 #[.val (.int p0), .val (.int p1), .val (.int p2), .val (.int p3), .val (.int p4), .val (.int v2), .val (.int v5), .val (.int v8), .val (.ref b11), .val (.ref b13), .val (.int v70), .unset, .val (.int j76), .val (.int ((p3 ^^^ j76) &&& (255 : Int32)))] [])) _
          refine XS.iload X26.here hx rfl (hb hby at_141) rfl ?_
          show Steps p.tables e below (T26.setTop (mkF m 143 #[.val (.int p0), .val (.int p1), .val (.int p2), .val (.int p3), .val (.int p4), .val (.int v2), .val (.int v5), .val (.int v8), .val (.ref b11), .val (.ref b13), .val (.int v70), .unset, .val (.int j76), .val (.int ((p3 ^^^ j76) &&& (255 : Int32)))] [(.int v5)])) _
          refine XS.iload X26.here hx rfl (hb hby at_143) rfl ?_
          show Steps p.tables e below (T26.setTop (mkF m 145 #[.val (.int p0), .val (.int p1), .val (.int p2), .val (.int p3), .val (.int p4), .val (.int v2), .val (.int v5), .val (.int v8), .val (.ref b11), .val (.ref b13), .val (.int v70), .unset, .val (.int j76), .val (.int ((p3 ^^^ j76) &&& (255 : Int32)))] [(.int v2), (.int v5)])) _
          refine XS.icmpYes X26.here hx rfl (pc0 := 145) (pc' := 172) rfl (hb hby at_145) rfl (flt (hc29 : ¬ (v2 < v5))).2.2.2 (by decide) (by decide) ?_
          show Steps p.tables e below (T26.setTop (mkF m 172 #[.val (.int p0), .val (.int p1), .val (.int p2), .val (.int p3), .val (.int p4), .val (.int v2), .val (.int v5), .val (.int v8), .val (.ref b11), .val (.ref b13), .val (.int v70), .unset, .val (.int j76), .val (.int ((p3 ^^^ j76) &&& (255 : Int32)))] [])) _
          refine XS.iconst X26.here hx rfl (hb hby at_172) ?_
          show Steps p.tables e below (T26.setTop (mkF m 173 #[.val (.int p0), .val (.int p1), .val (.int p2), .val (.int p3), .val (.int p4), .val (.int v2), .val (.int v5), .val (.int v8), .val (.ref b11), .val (.ref b13), .val (.int v70), .unset, .val (.int j76), .val (.int ((p3 ^^^ j76) &&& (255 : Int32)))] [(.int (-1 : Int32))])) _
          refine XS.istore X26.here hx rfl (hb hby at_173) rfl (l' := #[.val (.int p0), .val (.int p1), .val (.int p2), .val (.int p3), .val (.int p4), .val (.int v2), .val (.int v5), .val (.int v8), .val (.ref b11), .val (.ref b13), .val (.int v70), .val (.int (-1 : Int32)), .val (.int j76), .val (.int ((p3 ^^^ j76) &&& (255 : Int32)))]) rfl ?_
          exact k)⟩
      · have pre78 : ∀ t, Steps p.tables e below (T26.setTop (mkF m 103 #[.val (.int p0), .val (.int p1), .val (.int p2), .val (.int p3), .val (.int p4), .val (.int v2), .val (.int v5), .val (.int v8), .val (.ref b11), .val (.ref b13), .val (.int v70), .unset, .unset, .unset] [(.int v70), (.int ((8 : Int32) * ((31 : Int32) - v2)))])) t → Steps p.tables e below (s₁.setTop (entryFrame m #[(.int p0), (.int p1), (.int p2), (.int p3), (.int p4)] maxLocals)) t := fun t k => pre72 t (by
          show Steps p.tables e below (T26.setTop (mkF m 90 #[.val (.int p0), .val (.int p1), .val (.int p2), .val (.int p3), .val (.int p4), .val (.int v2), .val (.int v5), .val (.int v8), .val (.ref b11), .val (.ref b13), .val (.int v70), .unset, .unset, .unset] [(.int v70)])) _
          refine XS.ifNo X26.here hx rfl (hb hby at_90) rfl ((if0 _ _).trans (feq hc73).1) ?_
          show Steps p.tables e below (T26.setTop (mkF m 93 #[.val (.int p0), .val (.int p1), .val (.int p2), .val (.int p3), .val (.int p4), .val (.int v2), .val (.int v5), .val (.int v8), .val (.ref b11), .val (.ref b13), .val (.int v70), .unset, .unset, .unset] [])) _
          refine XS.bipush X26.here hx rfl (hb hby at_93) ?_
          show Steps p.tables e below (T26.setTop (mkF m 95 #[.val (.int p0), .val (.int p1), .val (.int p2), .val (.int p3), .val (.int p4), .val (.int v2), .val (.int v5), .val (.int v8), .val (.ref b11), .val (.ref b13), .val (.int v70), .unset, .unset, .unset] [(.int (8 : Int32))])) _
          refine XS.bipush X26.here hx rfl (hb hby at_95) ?_
          show Steps p.tables e below (T26.setTop (mkF m 97 #[.val (.int p0), .val (.int p1), .val (.int p2), .val (.int p3), .val (.int p4), .val (.int v2), .val (.int v5), .val (.int v8), .val (.ref b11), .val (.ref b13), .val (.int v70), .unset, .unset, .unset] [(.int (31 : Int32)), (.int (8 : Int32))])) _
          refine XS.iload X26.here hx rfl (hb hby at_97) rfl ?_
          show Steps p.tables e below (T26.setTop (mkF m 99 #[.val (.int p0), .val (.int p1), .val (.int p2), .val (.int p3), .val (.int p4), .val (.int v2), .val (.int v5), .val (.int v8), .val (.ref b11), .val (.ref b13), .val (.int v70), .unset, .unset, .unset] [(.int v2), (.int (31 : Int32)), (.int (8 : Int32))])) _
          refine XS.isub X26.here hx rfl (hb hby at_99) rfl ?_
          show Steps p.tables e below (T26.setTop (mkF m 100 #[.val (.int p0), .val (.int p1), .val (.int p2), .val (.int p3), .val (.int p4), .val (.int v2), .val (.int v5), .val (.int v8), .val (.ref b11), .val (.ref b13), .val (.int v70), .unset, .unset, .unset] [(.int ((31 : Int32) - v2)), (.int (8 : Int32))])) _
          refine XS.imul X26.here hx rfl (hb hby at_100) rfl ?_
          show Steps p.tables e below (T26.setTop (mkF m 101 #[.val (.int p0), .val (.int p1), .val (.int p2), .val (.int p3), .val (.int p4), .val (.int v2), .val (.int v5), .val (.int v8), .val (.ref b11), .val (.ref b13), .val (.int v70), .unset, .unset, .unset] [(.int ((8 : Int32) * ((31 : Int32) - v2)))])) _
          refine XS.iload X26.here hx rfl (hb hby at_101) rfl ?_
          exact k)
        obtain ⟨_, _, ⟨T79, L79, k79, n79⟩, -, X79, ⟨Lc79, hQ79, l79, y79, z79⟩, st79⟩ := Jvm.LawKit.callS X26 hx (y := (⟨"com/example/hopwise/hopwise/node/DistanceHighestBitPinLaw", "top", "(I)I"⟩ : MethodName)) hown (mvT hZ (hw _ (List.mem_of_getElem? (i := 1) rfl))) (mvT hZ (hw _ (List.mem_of_getElem? (i := 2) rfl))) (mvT hZ (hw _ (List.mem_of_getElem? (i := 3) rfl))) (mvT hZ (hw _ (List.mem_of_getElem? (i := 4) rfl))) (by decide) (backOf (W := 1) (rm1 l Z aw hw [] v70 h26 n0 Z26) hZ (hw _ (List.mem_of_getElem? (i := 4) rfl)) (hw _ (List.mem_of_getElem? (i := 3) rfl)) (by decide) (by decide)) (g := (mkF m 103 #[.val (.int p0), .val (.int p1), .val (.int p2), .val (.int p3), .val (.int p4), .val (.int v2), .val (.int v5), .val (.int v8), .val (.ref b11), .val (.ref b13), .val (.int v70), .unset, .unset, .unset] [(.int v70), (.int ((8 : Int32) * ((31 : Int32) - v2)))])) rfl (by rw [hml]; rfl) (argsL := [(.int v70)]) (rest := [(.int ((8 : Int32) * ((31 : Int32) - v2)))]) (lenOf pd_0 rfl) rfl (by show 2 * 0 + _ ≤ _; exact Nat.le_of_eq rfl) (hb hby at_103) (fun _ _ => ⟨rfl, e26, (by decide : 2 + 0 ≤ _), (by decide : 64 + 0 ≤ _)⟩)
        dsimp only [Pt.U, Pt.locs, Pt.cells, Pt.slots] at X79 l79 y79 z79 st79 hQ79
        subst l79 y79 z79
        obtain ⟨rfl, N79q, e79⟩ := hQ79
        have N79 := Fr.app N26 N79q
        exact ⟨_, _, (((8 : Int32) * ((31 : Int32) - v2)) + (f1 v70)), (.unset), (.unset), X79, N79, e79, (by rw [if_neg hc73]), One.u, One.u, fun t k => pre78 t (by
          show Steps p.tables e below (T26.setTop (mkF m 103 #[.val (.int p0), .val (.int p1), .val (.int p2), .val (.int p3), .val (.int p4), .val (.int v2), .val (.int v5), .val (.int v8), .val (.ref b11), .val (.ref b13), .val (.int v70), .unset, .unset, .unset] [(.int v70), (.int ((8 : Int32) * ((31 : Int32) - v2)))])) _
          refine st79 _ ?_
          show Steps p.tables e below (T79.setTop (mkF m 106 #[.val (.int p0), .val (.int p1), .val (.int p2), .val (.int p3), .val (.int p4), .val (.int v2), .val (.int v5), .val (.int v8), .val (.ref b11), .val (.ref b13), .val (.int v70), .unset, .unset, .unset] [(.int (f1 v70)), (.int ((8 : Int32) * ((31 : Int32) - v2)))])) _
          refine XS.iadd X79.here hx rfl (hb hby at_106) rfl ?_
          show Steps p.tables e below (T79.setTop (mkF m 107 #[.val (.int p0), .val (.int p1), .val (.int p2), .val (.int p3), .val (.int p4), .val (.int v2), .val (.int v5), .val (.int v8), .val (.ref b11), .val (.ref b13), .val (.int v70), .unset, .unset, .unset] [(.int (((8 : Int32) * ((31 : Int32) - v2)) + (f1 v70)))])) _
          refine XS.istore X79.here hx rfl (hb hby at_107) rfl (l' := #[.val (.int p0), .val (.int p1), .val (.int p2), .val (.int p3), .val (.int p4), .val (.int v2), .val (.int v5), .val (.int v8), .val (.ref b11), .val (.ref b13), .val (.int v70), .val (.int (((8 : Int32) * ((31 : Int32) - v2)) + (f1 v70))), .unset, .unset]) rfl ?_
          show Steps p.tables e below (T79.setTop (mkF m 109 #[.val (.int p0), .val (.int p1), .val (.int p2), .val (.int p3), .val (.int p4), .val (.int v2), .val (.int v5), .val (.int v8), .val (.ref b11), .val (.ref b13), .val (.int v70), .val (.int (((8 : Int32) * ((31 : Int32) - v2)) + (f1 v70))), .unset, .unset] [])) _
          refine XS.goto X79.here hx rfl (pc0 := 109) (pc' := 175) rfl (hb hby at_109) (by decide) (by decide) ?_
          exact k)⟩
    have pre85 : ∀ t, Steps p.tables e below (T84.setTop (mkF m 179 #[.val (.int p0), .val (.int p1), .val (.int p2), .val (.int p3), .val (.int p4), .val (.int v2), .val (.int v5), .val (.int v8), .val (.ref b11), .val (.ref b13), .val (.int v70), .val (.int j80), sl81, sl82] [(.ref b13), (.ref b11)])) t → Steps p.tables e below (s₁.setTop (entryFrame m #[(.int p0), (.int p1), (.int p2), (.int p3), (.int p4)] maxLocals)) t := fun t k => pre83 t (by
      show Steps p.tables e below (T84.setTop (mkF m 175 #[.val (.int p0), .val (.int p1), .val (.int p2), .val (.int p3), .val (.int p4), .val (.int v2), .val (.int v5), .val (.int v8), .val (.ref b11), .val (.ref b13), .val (.int v70), .val (.int j80), sl81, sl82] [])) _
      refine XS.aload X84.here hx rfl (hb hby at_175) rfl rfl ?_
      show Steps p.tables e below (T84.setTop (mkF m 177 #[.val (.int p0), .val (.int p1), .val (.int p2), .val (.int p3), .val (.int p4), .val (.int v2), .val (.int v5), .val (.int v8), .val (.ref b11), .val (.ref b13), .val (.int v70), .val (.int j80), sl81, sl82] [(.ref b11)])) _
      refine XS.aload X84.here hx rfl (hb hby at_177) rfl rfl ?_
      exact k)
    obtain ⟨_, _, ⟨T86, L86, k86, n86⟩, -, X86, ⟨Lc86, hQ86, l86, y86, z86⟩, st86⟩ := Jvm.LawKit.callS X84 hx (y := (⟨"com/example/hopwise/hopwise/node/Distance", "highestBit", "([B[B)I"⟩ : MethodName)) hown (mvT hZ (hw _ (List.mem_of_getElem? (i := 5) rfl))) (mvT hZ (hw _ (List.mem_of_getElem? (i := 6) rfl))) (mvT hZ (hw _ (List.mem_of_getElem? (i := 7) rfl))) (mvT hZ (hw _ (List.mem_of_getElem? (i := 8) rfl))) (by decide) (backOf (W := 0) (rm2 l Z aw hw [] b11 b13 k11 vs24 k13 vs27 h26 n0 Z26 V_b11_26 V_b13_26) hZ (hw _ (List.mem_of_getElem? (i := 8) rfl)) (hw _ (List.mem_of_getElem? (i := 7) rfl)) (by decide) (by decide)) (g := (mkF m 179 #[.val (.int p0), .val (.int p1), .val (.int p2), .val (.int p3), .val (.int p4), .val (.int v2), .val (.int v5), .val (.int v8), .val (.ref b11), .val (.ref b13), .val (.int v70), .val (.int j80), sl81, sl82] [(.ref b13), (.ref b11)])) rfl (by rw [hml]; rfl) (argsL := [(.ref b11), (.ref b13)]) (rest := []) (lenOf pd_1 rfl) rfl (by show 2 * 0 + _ ≤ _; exact Nat.le_of_eq rfl) (hb hby at_179) (fun _ _ => ⟨rfl, e84, (by decide : 2 + 0 ≤ _), (by decide : 64 + 0 ≤ _)⟩)
    dsimp only [Pt.U, Pt.locs, Pt.cells, Pt.slots] at X86 l86 y86 z86 st86 hQ86
    subst l86 y86 z86
    obtain ⟨rfl, N86q, e86⟩ := hQ86
    have N86 := Fr.app N84 N86q
    have pre87 : ∀ t, Steps p.tables e below (T86.setTop (mkF m 182 #[.val (.int p0), .val (.int p1), .val (.int p2), .val (.int p3), .val (.int p4), .val (.int v2), .val (.int v5), .val (.int v8), .val (.ref b11), .val (.ref b13), .val (.int v70), .val (.int j80), sl81, sl82] [(.int (f2 vs24 vs27))])) t → Steps p.tables e below (s₁.setTop (entryFrame m #[(.int p0), (.int p1), (.int p2), (.int p3), (.int p4)] maxLocals)) t := fun t k => pre85 t (by
      show Steps p.tables e below (T84.setTop (mkF m 179 #[.val (.int p0), .val (.int p1), .val (.int p2), .val (.int p3), .val (.int p4), .val (.int v2), .val (.int v5), .val (.int v8), .val (.ref b11), .val (.ref b13), .val (.int v70), .val (.int j80), sl81, sl82] [(.ref b13), (.ref b11)])) _
      refine st86 _ ?_
      exact k)
    obtain ⟨v88, hv88⟩ : ∃ z : Int32, z = (f2 vs24 vs27) := ⟨_, rfl⟩
    have pre89 : ∀ t, Steps p.tables e below (T86.setTop (mkF m 182 #[.val (.int p0), .val (.int p1), .val (.int p2), .val (.int p3), .val (.int p4), .val (.int v2), .val (.int v5), .val (.int v8), .val (.ref b11), .val (.ref b13), .val (.int v70), .val (.int j80), sl81, sl82] [(.int v88)])) t → Steps p.tables e below (s₁.setTop (entryFrame m #[(.int p0), (.int p1), (.int p2), (.int p3), (.int p4)] maxLocals)) t := fun t k => pre87 t (by rw [hv88] at k; exact k)
    have pre90 : ∀ t, Steps p.tables e below (T86.setTop (mkF m 188 #[.val (.int p0), .val (.int p1), .val (.int p2), .val (.int p3), .val (.int p4), .val (.int v2), .val (.int v5), .val (.int v8), .val (.ref b11), .val (.ref b13), .val (.int v70), .val (.int j80), .val (.int v88), sl82] [(.ref b11), (.ref b13)])) t → Steps p.tables e below (s₁.setTop (entryFrame m #[(.int p0), (.int p1), (.int p2), (.int p3), (.int p4)] maxLocals)) t := fun t k => pre89 t (by
      show Steps p.tables e below (T86.setTop (mkF m 182 #[.val (.int p0), .val (.int p1), .val (.int p2), .val (.int p3), .val (.int p4), .val (.int v2), .val (.int v5), .val (.int v8), .val (.ref b11), .val (.ref b13), .val (.int v70), .val (.int j80), sl81, sl82] [(.int v88)])) _
      refine XS.istore X86.here hx rfl (hb hby at_182) rfl (l' := #[.val (.int p0), .val (.int p1), .val (.int p2), .val (.int p3), .val (.int p4), .val (.int v2), .val (.int v5), .val (.int v8), .val (.ref b11), .val (.ref b13), .val (.int v70), .val (.int j80), .val (.int v88), sl82]) (XS.store1 (o := sl81) rfl hsl81 rfl) ?_
      show Steps p.tables e below (T86.setTop (mkF m 184 #[.val (.int p0), .val (.int p1), .val (.int p2), .val (.int p3), .val (.int p4), .val (.int v2), .val (.int v5), .val (.int v8), .val (.ref b11), .val (.ref b13), .val (.int v70), .val (.int j80), .val (.int v88), sl82] [])) _
      refine XS.aload X86.here hx rfl (hb hby at_184) rfl rfl ?_
      show Steps p.tables e below (T86.setTop (mkF m 186 #[.val (.int p0), .val (.int p1), .val (.int p2), .val (.int p3), .val (.int p4), .val (.int v2), .val (.int v5), .val (.int v8), .val (.ref b11), .val (.ref b13), .val (.int v70), .val (.int j80), .val (.int v88), sl82] [(.ref b13)])) _
      refine XS.aload X86.here hx rfl (hb hby at_186) rfl rfl ?_
      exact k)
    obtain ⟨_, _, ⟨T91, L91, k91, n91⟩, -, X91, ⟨Lc91, hQ91, l91, y91, z91⟩, st91⟩ := Jvm.LawKit.callS X86 hx (y := (⟨"com/example/hopwise/hopwise/node/Distance", "highestBit", "([B[B)I"⟩ : MethodName)) hown (mvT hZ (hw _ (List.mem_of_getElem? (i := 5) rfl))) (mvT hZ (hw _ (List.mem_of_getElem? (i := 6) rfl))) (mvT hZ (hw _ (List.mem_of_getElem? (i := 7) rfl))) (mvT hZ (hw _ (List.mem_of_getElem? (i := 8) rfl))) (by decide) (backOf (W := 0) (rm2 l Z aw hw [] b13 b11 k13 vs27 k11 vs24 h26 n0 Z26 V_b13_26 V_b11_26) hZ (hw _ (List.mem_of_getElem? (i := 8) rfl)) (hw _ (List.mem_of_getElem? (i := 7) rfl)) (by decide) (by decide)) (g := (mkF m 188 #[.val (.int p0), .val (.int p1), .val (.int p2), .val (.int p3), .val (.int p4), .val (.int v2), .val (.int v5), .val (.int v8), .val (.ref b11), .val (.ref b13), .val (.int v70), .val (.int j80), .val (.int v88), sl82] [(.ref b11), (.ref b13)])) rfl (by rw [hml]; rfl) (argsL := [(.ref b13), (.ref b11)]) (rest := []) (lenOf pd_1 rfl) rfl (by show 2 * 0 + _ ≤ _; exact Nat.le_of_eq rfl) (hb hby at_188) (fun _ _ => ⟨rfl, e86, (by decide : 2 + 0 ≤ _), (by decide : 64 + 0 ≤ _)⟩)
    dsimp only [Pt.U, Pt.locs, Pt.cells, Pt.slots] at X91 l91 y91 z91 st91 hQ91
    subst l91 y91 z91
    obtain ⟨rfl, N91q, e91⟩ := hQ91
    have N91 := Fr.app N86 N91q
    have pre92 : ∀ t, Steps p.tables e below (T91.setTop (mkF m 191 #[.val (.int p0), .val (.int p1), .val (.int p2), .val (.int p3), .val (.int p4), .val (.int v2), .val (.int v5), .val (.int v8), .val (.ref b11), .val (.ref b13), .val (.int v70), .val (.int j80), .val (.int v88), sl82] [(.int (f2 vs27 vs24))])) t → Steps p.tables e below (s₁.setTop (entryFrame m #[(.int p0), (.int p1), (.int p2), (.int p3), (.int p4)] maxLocals)) t := fun t k => pre90 t (by
      show Steps p.tables e below (T86.setTop (mkF m 188 #[.val (.int p0), .val (.int p1), .val (.int p2), .val (.int p3), .val (.int p4), .val (.int v2), .val (.int v5), .val (.int v8), .val (.ref b11), .val (.ref b13), .val (.int v70), .val (.int j80), .val (.int v88), sl82] [(.ref b11), (.ref b13)])) _
      refine st91 _ ?_
      exact k)
    obtain ⟨v93, hv93⟩ : ∃ z : Int32, z = (f2 vs27 vs24) := ⟨_, rfl⟩
    have pre94 : ∀ t, Steps p.tables e below (T91.setTop (mkF m 191 #[.val (.int p0), .val (.int p1), .val (.int p2), .val (.int p3), .val (.int p4), .val (.int v2), .val (.int v5), .val (.int v8), .val (.ref b11), .val (.ref b13), .val (.int v70), .val (.int j80), .val (.int v88), sl82] [(.int v93)])) t → Steps p.tables e below (s₁.setTop (entryFrame m #[(.int p0), (.int p1), (.int p2), (.int p3), (.int p4)] maxLocals)) t := fun t k => pre92 t (by rw [hv93] at k; exact k)
    have pre95 : ∀ t, Steps p.tables e below (T91.setTop (mkF m 197 #[.val (.int p0), .val (.int p1), .val (.int p2), .val (.int p3), .val (.int p4), .val (.int v2), .val (.int v5), .val (.int v8), .val (.ref b11), .val (.ref b13), .val (.int v70), .val (.int j80), .val (.int v88), .val (.int v93)] [(.int j80), (.int v88)])) t → Steps p.tables e below (s₁.setTop (entryFrame m #[(.int p0), (.int p1), (.int p2), (.int p3), (.int p4)] maxLocals)) t := fun t k => pre94 t (by
      show Steps p.tables e below (T91.setTop (mkF m 191 #[.val (.int p0), .val (.int p1), .val (.int p2), .val (.int p3), .val (.int p4), .val (.int v2), .val (.int v5), .val (.int v8), .val (.ref b11), .val (.ref b13), .val (.int v70), .val (.int j80), .val (.int v88), sl82] [(.int v93)])) _
      refine XS.istore X91.here hx rfl (hb hby at_191) rfl (l' := #[.val (.int p0), .val (.int p1), .val (.int p2), .val (.int p3), .val (.int p4), .val (.int v2), .val (.int v5), .val (.int v8), .val (.ref b11), .val (.ref b13), .val (.int v70), .val (.int j80), .val (.int v88), .val (.int v93)]) (XS.store1 (o := sl82) rfl hsl82 rfl) ?_
      show Steps p.tables e below (T91.setTop (mkF m 193 #[.val (.int p0), .val (.int p1), .val (.int p2), .val (.int p3), .val (.int p4), .val (.int v2), .val (.int v5), .val (.int v8), .val (.ref b11), .val (.ref b13), .val (.int v70), .val (.int j80), .val (.int v88), .val (.int v93)] [])) _
      refine XS.iload X91.here hx rfl (hb hby at_193) rfl ?_
      show Steps p.tables e below (T91.setTop (mkF m 195 #[.val (.int p0), .val (.int p1), .val (.int p2), .val (.int p3), .val (.int p4), .val (.int v2), .val (.int v5), .val (.int v8), .val (.ref b11), .val (.ref b13), .val (.int v70), .val (.int j80), .val (.int v88), .val (.int v93)] [(.int v88)])) _
      refine XS.iload X91.here hx rfl (hb hby at_195) rfl ?_
      exact k)
    obtain ⟨j99, hj99, pre100⟩ : ∃ (j99 : Int32), j99 = (if v88 = j80 then (if v93 = j80 then (1 : Int32) else (0 : Int32)) else (0 : Int32)) ∧ ∀ t, Steps p.tables e below (T91.setTop (mkF m 212 #[.val (.int p0), .val (.int p1), .val (.int p2), .val (.int p3), .val (.int p4), .val (.int v2), .val (.int v5), .val (.int v8), .val (.ref b11), .val (.ref b13), .val (.int v70), .val (.int j80), .val (.int v88), .val (.int v93)] [(.int j99)])) t → Steps p.tables e below (s₁.setTop (entryFrame m #[(.int p0), (.int p1), (.int p2), (.int p3), (.int p4)] maxLocals)) t := by
      by_cases hc96 : v88 = j80
      · have pre97 : ∀ t, Steps p.tables e below (T91.setTop (mkF m 204 #[.val (.int p0), .val (.int p1), .val (.int p2), .val (.int p3), .val (.int p4), .val (.int v2), .val (.int v5), .val (.int v8), .val (.ref b11), .val (.ref b13), .val (.int v70), .val (.int j80), .val (.int v88), .val (.int v93)] [(.int j80), (.int v93)])) t → Steps p.tables e below (s₁.setTop (entryFrame m #[(.int p0), (.int p1), (.int p2), (.int p3), (.int p4)] maxLocals)) t := fun t k => pre95 t (by
          show Steps p.tables e below (T91.setTop (mkF m 197 #[.val (.int p0), .val (.int p1), .val (.int p2), .val (.int p3), .val (.int p4), .val (.int v2), .val (.int v5), .val (.int v8), .val (.ref b11), .val (.ref b13), .val (.int v70), .val (.int j80), .val (.int v88), .val (.int v93)] [(.int j80), (.int v88)])) _
          refine XS.icmpNo X91.here hx rfl (hb hby at_197) rfl (teq hc96).2 ?_
          show Steps p.tables e below (T91.setTop (mkF m 200 #[.val (.int p0), .val (.int p1), .val (.int p2), .val (.int p3), .val (.int p4), .val (.int v2), .val (.int v5), .val (.int v8), .val (.ref b11), .val (.ref b13), .val (.int v70), .val (.int j80), .val (.int v88), .val (.int v93)] [])) _
          refine XS.iload X91.here hx rfl (hb hby at_200) rfl ?_
          show Steps p.tables e below (T91.setTop (mkF m 202 #[.val (.int p0), .val (.int p1), .val (.int p2), .val (.int p3), .val (.int p4), .val (.int v2), .val (.int v5), .val (.int v8), .val (.ref b11), .val (.ref b13), .val (.int v70), .val (.int j80), .val (.int v88), .val (.int v93)] [(.int v93)])) _
          refine XS.iload X91.here hx rfl (hb hby at_202) rfl ?_
          exact k)
        by_cases hc98 : v93 = j80
        · exact ⟨(1 : Int32), (by rw [if_pos hc96, if_pos hc98]), fun t k => pre97 t (by
            show Steps p.tables e below (T91.setTop (mkF m 204 #[.val (.int p0), .val (.int p1), .val (.int p2), .val (.int p3), .val (.int p4), .val (.int v2), .val (.int v5), .val (.int v8), .val (.ref b11), .val (.ref b13), .val (.int v70), .val (.int j80), .val (.int v88), .val (.int v93)] [(.int j80), (.int v93)])) _
            refine XS.icmpNo X91.here hx rfl (hb hby at_204) rfl (teq hc98).2 ?_
            show Steps p.tables e below (T91.setTop (mkF m 207 #[.val (.int p0), .val (.int p1), .val (.int p2), .val (.int p3), .val (.int p4), .val (.int v2), .val (.int v5), .val (.int v8), .val (.ref b11), .val (.ref b13), .val (.int v70), .val (.int j80), .val (.int v88), .val (.int v93)] [])) _
            refine XS.iconst X91.here hx rfl (hb hby at_207) ?_
            show Steps p.tables e below (T91.setTop (mkF m 208 #[.val (.int p0), .val (.int p1), .val (.int p2), .val (.int p3), .val (.int p4), .val (.int v2), .val (.int v5), .val (.int v8), .val (.ref b11), .val (.ref b13), .val (.int v70), .val (.int j80), .val (.int v88), .val (.int v93)] [(.int (1 : Int32))])) _
            refine XS.goto X91.here hx rfl (pc0 := 208) (pc' := 212) rfl (hb hby at_208) (by decide) (by decide) ?_
            exact k)⟩
        · exact ⟨(0 : Int32), (by rw [if_pos hc96, if_neg hc98]), fun t k => pre97 t (by
            show Steps p.tables e below (T91.setTop (mkF m 204 #[.val (.int p0), .val (.int p1), .val (.int p2), .val (.int p3), .val (.int p4), .val (.int v2), .val (.int v5), .val (.int v8), .val (.ref b11), .val (.ref b13), .val (.int v70), .val (.int j80), .val (.int v88), .val (.int v93)] [(.int j80), (.int v93)])) _
            refine XS.icmpYes X91.here hx rfl (pc0 := 204) (pc' := 211) rfl (hb hby at_204) rfl (feq hc98).2 (by decide) (by decide) ?_
            show Steps p.tables e below (T91.setTop (mkF m 211 #[.val (.int p0), .val (.int p1), .val (.int p2), .val (.int p3), .val (.int p4), .val (.int v2), .val (.int v5), .val (.int v8), .val (.ref b11), .val (.ref b13), .val (.int v70), .val (.int j80), .val (.int v88), .val (.int v93)] [])) _
            refine XS.iconst X91.here hx rfl (hb hby at_211) ?_
            exact k)⟩
      · exact ⟨(0 : Int32), (by rw [if_neg hc96]), fun t k => pre95 t (by
          show Steps p.tables e below (T91.setTop (mkF m 197 #[.val (.int p0), .val (.int p1), .val (.int p2), .val (.int p3), .val (.int p4), .val (.int v2), .val (.int v5), .val (.int v8), .val (.ref b11), .val (.ref b13), .val (.int v70), .val (.int j80), .val (.int v88), .val (.int v93)] [(.int j80), (.int v88)])) _
          refine XS.icmpYes X91.here hx rfl (pc0 := 197) (pc' := 211) rfl (hb hby at_197) rfl (feq hc96).2 (by decide) (by decide) ?_
          show Steps p.tables e below (T91.setTop (mkF m 211 #[.val (.int p0), .val (.int p1), .val (.int p2), .val (.int p3), .val (.int p4), .val (.int v2), .val (.int v5), .val (.int v8), .val (.ref b11), .val (.ref b13), .val (.int v70), .val (.int j80), .val (.int v88), .val (.int v93)] [])) _
          refine XS.iconst X91.here hx rfl (hb hby at_211) ?_
          exact k)⟩
    obtain ⟨fs, hr, hrun, hended, hW, hsame⟩ := X91.leave (v := some (.int (nar .boolean j99))) (fun h => by rw [Bd.returns] at h; cases h)
    refine ⟨_, _, pre100 _ ?_, hrun, hended, _, _, rfl, ?_, ⟨_, rfl⟩, hW, hsame.mono (by decide) (by decide)⟩
    · show Steps p.tables e below (T91.setTop (mkF m 212 #[.val (.int p0), .val (.int p1), .val (.int p2), .val (.int p3), .val (.int p4), .val (.int v2), .val (.int v5), .val (.int v8), .val (.ref b11), .val (.ref b13), .val (.int v70), .val (.int j80), .val (.int v88), .val (.int v93)] [(.int j99)])) _
      exact retN X91 hx (t := .boolean) Bd.returns (by simp) (hb hby at_212) hr
    · show Q0 Z p0 p1 p2 p3 p4 h0 n0 _ T91.heap _
      rw [e91]
      have hv : (nar .boolean j99) = f0 p0 p1 p2 p3 p4 := (by subst hj99 hv93 hv88 hj80 hv70 hvs27 hvs24 hvs21 hvs18 hvs17 hvs14 hv8 hv5 hv2; simp only [f0, if_neg hc29])
      exact ⟨congrArg (fun z => some (Value.int z)) (hv.trans hlaw), N91⟩
def own_d (A B : List Int32) (t : Nat) : Int32 := ((A.getD t 0) ^^^ (B.getD t 0)) &&& 255
def own_k (t : Nat) : Int32 := 8 * (32 - Int32.ofNat t)
def own_hb (g : Nat → Int32) : Nat → Nat → Int32
  | 0, _ => -1
  | n + 1, t => if g t = 0 then own_hb g n (t + 1) else (own_k t - f3 (g t)) + 23
theorem own_f2 (A B : List Int32) : f2 A B = own_hb (own_d A B) 32 0 := by rfl
theorem own_comm (A B : List Int32) : own_d B A = own_d A B := by
  funext t; unfold own_d; rw [Int32.xor_comm]
theorem own_skip (g : Nat → Int32) (n m : Nat) : ∀ t, (∀ s, t ≤ s → s < t + n → g s = 0) → own_hb g (n + m) t = own_hb g m (t + n) := by
  induction n with
  | zero => intro t _; rw [Nat.zero_add, Nat.add_zero]
  | succ n ih =>
    intro t h
    have e : n + 1 + m = (n + m) + 1 := by omega
    rw [e]
    show (if g t = 0 then own_hb g (n + m) (t + 1) else _) = _
    rw [if_pos (h t (Nat.le_refl _) (by omega)), ih (t + 1) (fun s a b => h s (by omega) (by omega))]
    have e2 : t + 1 + n = t + (n + 1) := by omega
    rw [e2]
theorem own_hit (g : Nat → Int32) (m t : Nat) (h : ¬ g t = 0) : own_hb g (m + 1) t = (own_k t - f3 (g t)) + 23 := by
  show (if g t = 0 then own_hb g m (t + 1) else _) = _
  rw [if_neg h]
theorem own_kk : ∀ t : Fin 32, own_k t.val = 8 * (31 - Int32.ofNat t.val) + 8 := by decide
theorem own_top : ∀ d : Fin 256, d.val = 0 ∨ (f3 (Int32.ofNat d.val) = 31 - f1 (Int32.ofNat d.val)) := by decide +kernel
theorem own_alg (x f : Int32) : (x + 8 - (31 - f)) + 23 = x + f := by
  apply Int32.toInt_inj.mp
  have k8 : (8 : Int32).toInt = 8 := by decide
  have k31 : (31 : Int32).toInt = 31 := by decide
  have k23 : (23 : Int32).toInt = 23 := by decide
  have a := c_iadd x 8
  have b := c_isub 31 f
  have c := c_isub (x + 8) (31 - f)
  have d := c_iadd (x + 8 - (31 - f)) 23
  have e := c_iadd x f
  have r1 := rng32 (x + 8 - (31 - f) + 23)
  have r2 := rng32 (x + f)
  rw [k8] at a
  rw [k31] at b
  rw [k23] at d
  generalize (x + 8 - (31 - f) + 23).toInt = A at *
  generalize (x + 8 - (31 - f)).toInt = B at *
  generalize (x + 8).toInt = D at *
  generalize (31 - f).toInt = E at *
  generalize (x + f).toInt = F at *
  clear k8 k31 k23
  omega
theorem own_low (p : Int32) : (p &&& (255 : Int32)) = Int32.ofNat (p &&& (255 : Int32)).toNatClampNeg ∧ (p &&& (255 : Int32)).toNatClampNeg < 256 := by
  have h := c_mask p 255 8 (by decide) (by decide)
  have k : ((2 ^ 8 : Nat) : Int) = 256 := by decide
  rw [k] at h
  have n : ¬ (p &&& (255 : Int32)) < 0 := by
    have k0 : (0 : Int32).toInt = 0 := by decide
    rw [Int32.lt_iff_toInt_lt, h, k0]; omega
  have q := nat_of n
  generalize (p &&& (255 : Int32)) = x at *
  have hn : x.toNatClampNeg < 256 := by omega
  refine ⟨?_, hn⟩
  exact (back32 n).1.symm
theorem own_leaf (t : Nat) (ht : t < 32) (p : Int32) (h : ¬ (p &&& (255 : Int32)) = 0) : (own_k t - f3 (p &&& (255 : Int32))) + 23 = 8 * (31 - Int32.ofNat t) + f1 (p &&& (255 : Int32)) := by
  obtain ⟨e, l⟩ := own_low p
  have q := own_top ⟨_, l⟩
  have kk := own_kk ⟨t, ht⟩
  dsimp only at q kk
  rw [← e] at q
  rcases q with q | q
  · exfalso; rw [q] at e; exact h (e.trans (by decide))
  · rw [kk, q, own_alg]
theorem own_bv {n : Nat} (p : BitVec n) (m i : Nat) (h1 : i < m) (h2 : i < n) : (p.signExtend m).getLsbD i = p.getLsbD i := by
  rw [BitVec.getLsbD_signExtend]; simp [h1, h2]
theorem own_255 (i : Nat) : (255#32).getLsbD i = decide (i < 8) := by
  by_cases h : i < 32
  · have f : ∀ j : Fin 32, (255#32).getLsbD j.val = decide (j.val < 8) := by decide
    exact f ⟨i, h⟩
  · rw [BitVec.getLsbD_of_ge _ _ (by omega)]; simp; omega
theorem own_sx (p : Int32) : (nar .byte (p.toInt8.toInt32)) &&& (255 : Int32) = p &&& (255 : Int32) := by
  apply Int32.toBitVec_inj.mp
  show ((((p.toBitVec.signExtend 8).signExtend 32).signExtend 8).signExtend 32) &&& 255#32 = p.toBitVec &&& 255#32
  apply BitVec.eq_of_getLsbD_eq
  intro i hi
  rw [BitVec.getLsbD_and, BitVec.getLsbD_and, own_255]
  by_cases h : i < 8
  · rw [own_bv _ 32 i hi h, own_bv _ 8 i h hi, own_bv _ 32 i hi h, own_bv _ 8 i h hi]
  · simp [h]
theorem own_x (a b : Int32) : (a ^^^ b) &&& (255 : Int32) = ((a &&& (255 : Int32)) ^^^ (b &&& (255 : Int32))) := by
  apply Int32.toBitVec_inj.mp
  show (a.toBitVec ^^^ b.toBitVec) &&& 255#32 = (a.toBitVec &&& 255#32) ^^^ (b.toBitVec &&& 255#32)
  apply BitVec.eq_of_getLsbD_eq
  intro i hi
  simp only [BitVec.getLsbD_and, BitVec.getLsbD_xor]
  cases a.toBitVec.getLsbD i <;> cases b.toBitVec.getLsbD i <;> cases (255#32).getLsbD i <;> rfl
theorem own_setD (l : List Int32) (n : Nat) (v : Int32) (t : Nat) (h : n < l.length) : (l.set n v).getD t 0 = if n = t then v else l.getD t 0 := by
  rw [List.getD_eq_getElem?_getD, List.getD_eq_getElem?_getD, List.getElem?_set]
  by_cases e : n = t
  · subst e; rw [if_pos rfl, if_pos rfl, if_pos h]; rfl
  · rw [if_neg e, if_neg e]
theorem own_zero (n t : Nat) : (List.replicate n (0 : Int32)).getD t 0 = 0 := by
  rw [List.getD_eq_getElem?_getD, List.getElem?_replicate]
  split <;> rfl
theorem own_xx (a : Int32) : (a ^^^ a) &&& (255 : Int32) = 0 := by rw [Int32.xor_self]; decide
theorem own_m (x : Int32) : ∃ n : Nat, n < 32 ∧ (x &&& (31 : Int32)).toNatClampNeg = n ∧ (x &&& (31 : Int32)) = Int32.ofNat n ∧ (x &&& (31 : Int32)).toInt = n := by
  have h := c_mask x 31 5 (by decide) (by decide)
  have k : ((2 ^ 5 : Nat) : Int) = 32 := by decide
  rw [k] at h
  have n := (own_m31 x).1
  have q := nat_of n
  generalize (x &&& (31 : Int32)) = y at *
  exact ⟨y.toNatClampNeg, by omega, rfl, (back32 n).1.symm, q⟩
theorem own_one (g : Nat → Int32) (i : Nat) (hi : i < 32) (v : Int32) (lo : ∀ t, t < i → g t = 0) (at_i : g i = v &&& (255 : Int32)) :
    own_hb g 32 0 = if (v &&& (255 : Int32)) = 0 then own_hb g (31 - i) (i + 1) else 8 * (31 - Int32.ofNat i) + f1 (v &&& (255 : Int32)) := by
  have e : 32 = i + ((31 - i) + 1) := by omega
  rw [e, own_skip g i ((31 - i) + 1) 0 (fun s _ b => lo s (by omega)), Nat.zero_add]
  by_cases q : (v &&& (255 : Int32)) = 0
  · rw [if_pos q]
    show (if g i = 0 then own_hb g (31 - i) (i + 1) else _) = _
    rw [if_pos (at_i.trans q)]
  · rw [if_neg q, own_hit g _ i (by rw [at_i]; exact q), at_i, own_leaf i hi v q]
theorem own_two (g : Nat → Int32) (i k : Nat) (hk : k < 32) (hik : i < k) (v : Int32) (lo : ∀ t, i < t → t < k → g t = 0) (hi : ∀ t, k < t → g t = 0) (at_k : g k = v &&& (255 : Int32)) :
    own_hb g (31 - i) (i + 1) = if (v &&& (255 : Int32)) = 0 then (-1 : Int32) else 8 * (31 - Int32.ofNat k) + f1 (v &&& (255 : Int32)) := by
  have e : 31 - i = (k - i - 1) + ((31 - k) + 1) := by omega
  rw [e, own_skip g (k - i - 1) ((31 - k) + 1) (i + 1) (fun s a b => lo s (by omega) (by omega))]
  have e2 : i + 1 + (k - i - 1) = k := by omega
  rw [e2]
  by_cases q : (v &&& (255 : Int32)) = 0
  · rw [if_pos q]
    show (if g k = 0 then own_hb g (31 - k) (k + 1) else _) = _
    rw [if_pos (at_k.trans q)]
    have z := own_skip g (31 - k) 0 (k + 1) (fun s a b => hi s (by omega))
    rw [Nat.add_zero] at z
    rw [z]; rfl
  · rw [if_neg q, own_hit g _ k (by rw [at_k]; exact q), at_k, own_leaf k hk v q]
theorem own_tail (g : Nat → Int32) (i : Nat) (hi : ∀ t, i < t → g t = 0) : own_hb g (31 - i) (i + 1) = -1 := by
  have z := own_skip g (31 - i) 0 (i + 1) (fun s a b => hi s (by omega))
  rw [Nat.add_zero] at z
  rw [z]; rfl
def own_Z : List Int32 := List.replicate 32 0
theorem own_A (m i k : Nat) (hm : m < 32) (hi : i < 32) (hk : k < 32) (c x z : Int32) (t : Nat) : (((own_Z.set m c).set i x).set k z).getD t 0 = if k = t then z else if i = t then x else if m = t then c else 0 := by
  rw [own_setD _ _ _ _ (by simp [own_Z, hk]), own_setD _ _ _ _ (by simp [own_Z, hi]), own_setD _ _ _ _ (by simp [own_Z, hm])]
  unfold own_Z
  rw [own_zero]
theorem own_B (m i : Nat) (hm : m < 32) (hi : i < 32) (c x : Int32) (t : Nat) : ((own_Z.set m c).set i x).getD t 0 = if i = t then x else if m = t then c else 0 := by
  rw [own_setD _ _ _ _ (by simp [own_Z, hi]), own_setD _ _ _ _ (by simp [own_Z, hm])]
  unfold own_Z
  rw [own_zero]
theorem own_inj (m k : Nat) (hm : m < 32) (hk : k < 32) : (Int32.ofNat k = Int32.ofNat m) ↔ m = k := by
  constructor
  · intro h
    have f : ∀ a b : Fin 32, Int32.ofNat a.val = Int32.ofNat b.val → a = b := by decide
    exact (congrArg Fin.val (f ⟨k, hk⟩ ⟨m, hm⟩ h)).symm
  · intro h; rw [h]
theorem own_lt (i k : Nat) (hi : i < 32) (hk : k < 32) : (Int32.ofNat i < Int32.ofNat k) ↔ i < k := by
  have f : ∀ a b : Fin 32, (Int32.ofNat a.val < Int32.ofNat b.val) ↔ a.val < b.val := by decide
  exact f ⟨i, hi⟩ ⟨k, hk⟩
def own_S (p : Int32) : Int32 := nar .byte (p.toInt8.toInt32)
theorem own_SS (a b : Int32) : (own_S a ^^^ own_S b) &&& (255 : Int32) = (a ^^^ b) &&& (255 : Int32) := by
  unfold own_S
  rw [own_x, own_sx, own_sx, ← own_x]
theorem own_aa (p : Int32) : (p &&& (255 : Int32)) &&& (255 : Int32) = p &&& (255 : Int32) := by rw [Int32.and_assoc, Int32.and_self]
theorem own_S0 (a : Int32) : (own_S a ^^^ 0) &&& (255 : Int32) = (a ^^^ 0) &&& (255 : Int32) := by
  unfold own_S
  rw [Int32.xor_zero, Int32.xor_zero, own_sx]
theorem own_SM (a b : Int32) : (own_S a ^^^ own_S b) &&& (255 : Int32) = (a ^^^ (b &&& (255 : Int32))) &&& (255 : Int32) := by
  rw [own_SS, own_x a b, own_x a, own_aa]
theorem own_c1 (i k m : Nat) (hi : i < 32) (hk : k < 32) (hm : m < 32) (hik : i < k) (p1 p2 p3 p4 : Int32) :
    f2 (((own_Z.set m (own_S p4)).set i (own_S p1)).set k (own_S p3)) ((own_Z.set m (own_S p4)).set i (own_S p2)) = (if ((p1 ^^^ p2) &&& (255 : Int32)) = 0 then (if ((p3 ^^^ (if Int32.ofNat k = Int32.ofNat m then (p4 &&& (255 : Int32)) else (0 : Int32))) &&& (255 : Int32)) = 0 then (-1 : Int32) else 8 * (31 - Int32.ofNat k) + f1 ((p3 ^^^ (if Int32.ofNat k = Int32.ofNat m then (p4 &&& (255 : Int32)) else (0 : Int32))) &&& (255 : Int32))) else 8 * (31 - Int32.ofNat i) + f1 ((p1 ^^^ p2) &&& (255 : Int32))) := by
  have g : ∀ t, own_d (((own_Z.set m (own_S p4)).set i (own_S p1)).set k (own_S p3)) ((own_Z.set m (own_S p4)).set i (own_S p2)) t = ((if k = t then own_S p3 else if i = t then own_S p1 else if m = t then own_S p4 else 0) ^^^ (if i = t then own_S p2 else if m = t then own_S p4 else 0)) &&& (255 : Int32) := fun t => by
    unfold own_d; rw [own_A m i k hm hi hk, own_B m i hm hi]
  have eq0 : ∀ t, t ≠ k → t ≠ i → own_d (((own_Z.set m (own_S p4)).set i (own_S p1)).set k (own_S p3)) ((own_Z.set m (own_S p4)).set i (own_S p2)) t = 0 := fun t a b => by
    rw [g, if_neg (Ne.symm a), if_neg (Ne.symm b), if_neg (Ne.symm b), own_xx]
  rw [own_f2, own_one _ i hi (p1 ^^^ p2) (fun t a => eq0 t (by omega) (by omega)) (by rw [g, if_neg (by omega), if_pos rfl, if_pos rfl, own_SS])]
  rw [own_two _ i k hk hik (p3 ^^^ (if Int32.ofNat k = Int32.ofNat m then (p4 &&& (255 : Int32)) else (0 : Int32))) (fun t a b => eq0 t (by omega) (by omega)) (fun t a => eq0 t (by omega) (by omega)) (by
    rw [g, if_pos rfl, if_neg (by omega)]
    by_cases q : m = k
    · rw [if_pos q, if_pos ((own_inj m k hm hk).mpr q), own_SM]
    · rw [if_neg q, if_neg (fun z => q ((own_inj m k hm hk).mp z)), own_S0])]
theorem own_c2 (i m : Nat) (hi : i < 32) (hm : m < 32) (p1 p2 p4 : Int32) :
    f2 ((own_Z.set m (own_S p4)).set i (own_S p1)) ((own_Z.set m (own_S p4)).set i (own_S p2)) = (if ((p1 ^^^ p2) &&& (255 : Int32)) = 0 then (-1 : Int32) else 8 * (31 - Int32.ofNat i) + f1 ((p1 ^^^ p2) &&& (255 : Int32))) := by
  have g : ∀ t, own_d ((own_Z.set m (own_S p4)).set i (own_S p1)) ((own_Z.set m (own_S p4)).set i (own_S p2)) t = ((if i = t then own_S p1 else if m = t then own_S p4 else 0) ^^^ (if i = t then own_S p2 else if m = t then own_S p4 else 0)) &&& (255 : Int32) := fun t => by
    unfold own_d; rw [own_B m i hm hi, own_B m i hm hi]
  have eq0 : ∀ t, t ≠ i → own_d ((own_Z.set m (own_S p4)).set i (own_S p1)) ((own_Z.set m (own_S p4)).set i (own_S p2)) t = 0 := fun t b => by
    rw [g, if_neg (Ne.symm b), if_neg (Ne.symm b), own_xx]
  rw [own_f2, own_one _ i hi (p1 ^^^ p2) (fun t a => eq0 t (by omega)) (by rw [g, if_pos rfl, if_pos rfl, own_SS]), own_tail _ i (fun t a => eq0 t (by omega))]
theorem own_sym (A B : List Int32) : f2 B A = f2 A B := by rw [own_f2, own_f2, own_comm]
theorem own_law (p0 p1 p2 p3 p4 : Int32) : f0 p0 p1 p2 p3 p4 = 1 := by
  obtain ⟨i, hi, ni, ei, -⟩ := own_m p0
  obtain ⟨k, hk, nk, ek, -⟩ := own_m ((p0.toUInt32 >>> ((5 : Int32) &&& 31).toUInt32).toInt32)
  obtain ⟨m, hm, nm, em, -⟩ := own_m ((p0.toUInt32 >>> ((10 : Int32) &&& 31).toUInt32).toInt32)
  have hz : ([(0 : Int32), (0 : Int32), (0 : Int32), (0 : Int32), (0 : Int32), (0 : Int32), (0 : Int32), (0 : Int32), (0 : Int32), (0 : Int32), (0 : Int32), (0 : Int32), (0 : Int32), (0 : Int32), (0 : Int32), (0 : Int32), (0 : Int32), (0 : Int32), (0 : Int32), (0 : Int32), (0 : Int32), (0 : Int32), (0 : Int32), (0 : Int32), (0 : Int32), (0 : Int32), (0 : Int32), (0 : Int32), (0 : Int32), (0 : Int32), (0 : Int32), (0 : Int32)] : List Int32) = own_Z := rfl
  have hS : ∀ p : Int32, nar .byte (p.toInt8.toInt32) = own_S p := fun _ => rfl
  unfold f0
  dsimp only
  simp only [hz, hS, ni, nk, nm]
  rw [ei, ek, em]
  simp only [own_lt i k hi hk]
  by_cases q : i < k
  · rw [if_pos q, if_pos (own_c1 i k m hi hk hm q p1 p2 p3 p4), own_sym, if_pos (own_c1 i k m hi hk hm q p1 p2 p3 p4)]
    rfl
  · rw [if_neg q, if_pos (own_c2 i m hi hm p1 p2 p4), own_sym, if_pos (own_c2 i m hi hm p1 p2 p4)]
    rfl

set_option maxRecDepth 65536 in
set_option maxHeartbeats 40000000 in
theorem comes_1 {Post : Tables → Env → Array Value → State → Outcome → State → Prop} (hpost : ∀ tb e args s v u, (limb_1_1.after args s (.returned v) u = true ∧ limb_1_2.after args s (.returned v) u = true ∧ True) → FrameEnd s (.returned v) u (Jvm.fieldLocs frame_1_writes args s ++ Jvm.arrayLocs frame_1_arrays args s ++ Jvm.staticLocs frame_1_statics s) 16 192 → Post tb e args s (.returned v) u) :
    ArmFor flags0 classFile x code maxLocals ret World_1 tables_1 room_1 Calls_1 rest_1 Pre_1 Post := by
  intro l hfl _ _ p e ha hc hk s m args below hf hA hF happ hP
  obtain ⟨hcalls, hrest, hpre⟩ := hP
  obtain ⟨-, -, -, hnamed, -, -, -, hat⟩ := (Spec.applies_iff hf).mp happ
  obtain ⟨hg, hn⟩ := and_e (Cond.before_iff.mp (show (Jvm.Cond.and given_1 narrow_1).before args s = true from hpre))
  obtain ⟨g1, g2⟩ := and_e hg
  obtain ⟨g3, g4⟩ := and_e g2
  obtain ⟨g5, g6⟩ := and_e g4
  obtain ⟨g7, g8⟩ := and_e g6
  obtain ⟨g9, g10⟩ := and_e g8
  obtain ⟨w0, w1, w2, w3, w4, rfl⟩ : ∃ w0 w1 w2 w3 w4 : Value, args = #[w0, w1, w2, w3, w4] := by
    have hs : args.size = 5 := by simpa [Cond.value, given_1] using g1
    obtain ⟨L⟩ := args
    match L, hs with
    | [w0, w1, w2, w3, w4], _ => exact ⟨w0, w1, w2, w3, w4, rfl⟩
  have hw := fun d (hd : d ∈ tables_1) => atoms_spec (ws := Jvm.Cond.code x code maxLocals ret :: tables_1) hat d (List.mem_cons_of_mem _ hd)
  have hfit : Fit s := fun {y c} hc i hi => by
    obtain ⟨ha, rfl⟩ := Array.getElem?_eq_some_iff.mp hc
    have q := List.all_eq_true.mp ((Array.all_eq_true_iff_forall_mem.mp hF) _ (Array.getElem_mem ha)) i (List.mem_range.mpr hi)
    simpa [Array.getElem?_eq_getElem hi] using q
  obtain ⟨i0, ei0⟩ := is_v g3
  obtain rfl : w0 = (.int i0) := Option.some.inj ei0
  obtain ⟨i1, ei1⟩ := is_v g5
  obtain rfl : w1 = (.int i1) := Option.some.inj ei1
  obtain ⟨i2, ei2⟩ := is_v g7
  obtain rfl : w2 = (.int i2) := Option.some.inj ei2
  obtain ⟨i3, ei3⟩ := is_v g9
  obtain rfl : w3 = (.int i3) := Option.some.inj ei3
  obtain ⟨i4, ei4⟩ := is_v g10
  obtain rfl : w4 = (.int i4) := Option.some.inj ei4
  obtain ⟨n, o, h1, h2, h3, _, L, rfl, ⟨rfl, N⟩, hq⟩ := rm0 l s _ hw tables_1 i0 i1 i2 i3 i4 s.heap s.heap.size (Nat.le_refl _) (own_law i0 i1 i2 i3 i4) p e ha hc hk s m _ below hf ((Spec.applies_iff_loose hf).mp happ).1 ⟨rfl, State.Warmed39.refl s, rfl⟩ trivial
  refine ⟨n, _, h1, h2, h3, hpost _ _ _ _ _ _ ⟨Cond.after_iff.mpr rfl, Cond.after_iff.mpr (eq_i res_at (Term.int_eval (1)) rfl), trivial⟩ ⟨hq.1, hq.2.1, (hq.2.2.sift fun y hy => Or.inr (N y hy)).mono (by decide) (by decide)⟩⟩
theorem main_1_1 : Claimed_1_1 := comes_1 fun _ _ _ _ _ _ h hF => ⟨h.1, hF⟩
theorem main_1_2 : Claimed_1_2 := comes_1 fun _ _ _ _ _ _ h hF => ⟨h.2.1, hF⟩
end Jvm.Pilot.@@N@@
namespace Jvm.Pilot.@@N@@
open Jvm Jvm.ClassFile Sem Op Lib Jvm.Free Jvm.Stand Jvm.Pilot.@@N@@.Jvm.D
/-! MADE BY PROGRAM (witnessworld.py) out of the Statement's table words and the real class files: 14 classes; the members and pool entries that the words name. The judged class is class 1, her method 2. -/
namespace start1
open Jvm.ClassFile
def u (s : String) : CpInfo := .utf8 (stringToUtf16 s)
/-- a pool by its gaps: so many unusable entries, then the entry; so many at the end -/
def gap : Nat → List CpInfo → List CpInfo
  | 0, r => r
  | n + 1, r => .unusable :: gap n r
def poolList (es : List (Nat × CpInfo)) (last : Nat) : List CpInfo := es.foldr (fun e r => gap e.1 (e.2 :: r)) (gap last [])
def pool (es : List (Nat × CpInfo)) (last : Nat) : Array CpInfo := ⟨poolList es last⟩
def fileOf (pool : Array CpInfo) (this : Nat) (attrs : Array Attribute := #[]) (ms : Array MethodInfo := #[]) (fl : Nat := 33) (sup : Nat := 0) (ifs : Array Nat := #[]) (fds : Array FieldInfo := #[]) : ClassFile where
  minorVersion := 0
  majorVersion := 65
  constantPool := pool
  accessFlags := fl
  thisClass := this
  superClass := sup
  interfaces := ifs
  fields := fds
  methods := ms
  attributes := attrs
def plain (name : String) (sup : Option ClassId) : Class where
  name := name
  kind := .ordinary
  loader := none
  accessFlags := 33
  super := sup
  interfaces := #[]
  cf := none
  fields := #[]
  methods := #[]
  instanceTypes := #[]
  staticTypes := #[]
  resolved := #[]
  callSites := []
  init := .initialized
  statics := none
  mirror := none

def pool0 : Array CpInfo := pool [(5, u "<init>"), (0, u "()V"), (1, .class_ 10), (1, u "java/lang/Object")] 113

def k0m0 : Method := { name := "<init>", desc := "()V", sig := { parameters := [], returnType := none }, accessFlags := 1, code := none }
/-- java/lang/Object -/
def k0 : Class := { plain "java/lang/Object" none with
  accessFlags := 33
  interfaces := #[]
  cf := some (fileOf pool0 8 #[] #[{ accessFlags := 1, nameIndex := 5, descriptorIndex := 6, attributes := #[] }] 33 0 #[] #[])
  fields := #[]
  methods := #[k0m0]
  instanceTypes := #[]
  staticTypes := #[]
  resolved := Array.replicate 124 none
  statics := none }

def pool1 : Array CpInfo := pool [(2, .class_ 4), (1, u "java/lang/Object"), (0, u "<init>"), (0, u "()V"), (0, .methodref 8 9), (0, .class_ 10), (0, .nameAndType 11 12), (0, u "com/example/hopwise/hopwise/node/DistanceHighestBitPinLaw"), (0, u "top"), (0, u "(I)I"), (0, .methodref 14 15), (0, .class_ 16), (0, .nameAndType 17 18), (0, u "com/example/hopwise/hopwise/node/Distance"), (0, u "highestBit"), (0, u "([B[B)I"), (3, u "law"), (0, u "(IIIII)Z")] 4

def k1m0 : Method := { name := "<init>", desc := "()V", sig := { parameters := [], returnType := none }, accessFlags := 2, code := none }
def k1c1 : Code := { maxStack := 2, maxLocals := 1, code := method_2_code, exceptionTable := #[], attributes := #[] }
def k1m1 : Method := { name := "top", desc := "(I)I", sig := { parameters := [.int], returnType := some .int }, accessFlags := 10, code := some k1c1 }
def k1c2 : Code := { maxStack := 3, maxLocals := 14, code := code, exceptionTable := #[], attributes := #[] }
def k1m2 : Method := { name := "law", desc := "(IIIII)Z", sig := { parameters := [.int, .int, .int, .int, .int], returnType := some .boolean }, accessFlags := 9, code := some k1c2 }
/-- com/example/hopwise/hopwise/node/DistanceHighestBitPinLaw -/
def k1 : Class := { plain "com/example/hopwise/hopwise/node/DistanceHighestBitPinLaw" (some 0) with
  accessFlags := 49
  interfaces := #[]
  cf := some (fileOf pool1 8 #[] #[{ accessFlags := 2, nameIndex := 5, descriptorIndex := 6, attributes := #[] }, { accessFlags := 10, nameIndex := 11, descriptorIndex := 12, attributes := #[] }, { accessFlags := 9, nameIndex := 22, descriptorIndex := 23, attributes := #[] }] 49 2 #[] #[])
  fields := #[]
  methods := #[k1m0, k1m1, k1m2]
  instanceTypes := #[]
  staticTypes := #[]
  resolved := Array.replicate 28 none
  statics := none }

def pool2 : Array CpInfo := pool [(1, .class_ 2), (0, u "java/lang/Comparable"), (0, .class_ 4), (0, u "java/lang/Object")] 7

/-- java/lang/Comparable -/
def k2 : Class := { plain "java/lang/Comparable" (some 0) with
  accessFlags := 1537
  interfaces := #[]
  cf := some (fileOf pool2 1 #[] #[] 1537 3 #[] #[])
  fields := #[]
  methods := #[]
  instanceTypes := #[]
  staticTypes := #[]
  resolved := Array.replicate 12 none
  statics := none }

def pool3 : Array CpInfo := pool [(4, .class_ 6), (1, u "java/lang/Object"), (3, .class_ 12), (1, u "com/example/hopwise/hopwise/node/Distance"), (0, u "bytes"), (0, u "[B"), (19, u "ZERO"), (2, u "highestBit"), (0, u "([B[B)I"), (0, .methodref 40 41), (0, .class_ 42), (0, .nameAndType 43 44), (0, u "java/lang/Integer"), (0, u "numberOfLeadingZeros"), (0, u "(I)I"), (31, .class_ 77), (0, u "java/lang/Comparable"), (0, u "LENGTH"), (0, u "I")] 35

def k3c0 : Code := { maxStack := 3, maxLocals := 4, code := prog_85_method_5_code, exceptionTable := #[], attributes := #[] }
def k3m0 : Method := { name := "highestBit", desc := "([B[B)I", sig := { parameters := [(.array .byte), (.array .byte)], returnType := some .int }, accessFlags := 8, code := some k3c0 }
/-- com/example/hopwise/hopwise/node/Distance -/
def k3 : Class := { plain "com/example/hopwise/hopwise/node/Distance" (some 0) with
  accessFlags := 49
  interfaces := #[2]
  cf := some (fileOf pool3 10 #[] #[{ accessFlags := 8, nameIndex := 37, descriptorIndex := 38, attributes := #[] }] 49 4 #[76] #[{ accessFlags := 24, nameIndex := 78, descriptorIndex := 79, attributes := #[] }, { accessFlags := 26, nameIndex := 34, descriptorIndex := 14, attributes := #[] }, { accessFlags := 18, nameIndex := 13, descriptorIndex := 14, attributes := #[] }])
  fields := #[{ name := "LENGTH", type := .int, accessFlags := 24, slot := 0, constantValue := 0 }, { name := "ZERO", type := (.array .byte), accessFlags := 26, slot := 1, constantValue := 0 }, { name := "bytes", type := (.array .byte), accessFlags := 18, slot := 0, constantValue := 0 }]
  methods := #[k3m0]
  instanceTypes := #[(.array .byte)]
  staticTypes := #[.int, (.array .byte)]
  resolved := Array.replicate 115 none
  statics := none }

def pool4 : Array CpInfo := pool [(1, .class_ 2), (0, u "java/io/Serializable"), (0, .class_ 4), (0, u "java/lang/Object")] 2

/-- java/io/Serializable -/
def k4 : Class := { plain "java/io/Serializable" (some 0) with
  accessFlags := 1537
  interfaces := #[]
  cf := some (fileOf pool4 1 #[] #[] 1537 3 #[] #[])
  fields := #[]
  methods := #[]
  instanceTypes := #[]
  staticTypes := #[]
  resolved := Array.replicate 7 none
  statics := none }

def pool5 : Array CpInfo := pool [(2, .class_ 4), (1, u "java/lang/Object"), (0, u "<init>"), (0, u "()V"), (1, .class_ 10), (1, u "java/lang/Number"), (2, .class_ 14), (0, u "java/io/Serializable"), (0, u "serialVersionUID"), (0, u "J")] 20

def k5m0 : Method := { name := "<init>", desc := "()V", sig := { parameters := [], returnType := none }, accessFlags := 1, code := none }
/-- java/lang/Number -/
def k5 : Class := { plain "java/lang/Number" (some 0) with
  accessFlags := 1057
  interfaces := #[4]
  cf := some (fileOf pool5 8 #[] #[{ accessFlags := 1, nameIndex := 5, descriptorIndex := 6, attributes := #[] }] 1057 2 #[13] #[{ accessFlags := 26, nameIndex := 15, descriptorIndex := 16, attributes := #[] }])
  fields := #[{ name := "serialVersionUID", type := .long, accessFlags := 26, slot := 0, constantValue := 0 }]
  methods := #[k5m0]
  instanceTypes := #[]
  staticTypes := #[.long]
  resolved := Array.replicate 37 none
  statics := none }

def pool6 : Array CpInfo := pool [(1, .class_ 2), (0, u "java/lang/constant/Constable"), (0, .class_ 4), (0, u "java/lang/Object")] 6

/-- java/lang/constant/Constable -/
def k6 : Class := { plain "java/lang/constant/Constable" (some 0) with
  accessFlags := 1537
  interfaces := #[]
  cf := some (fileOf pool6 1 #[] #[] 1537 3 #[] #[])
  fields := #[]
  methods := #[]
  instanceTypes := #[]
  staticTypes := #[]
  resolved := Array.replicate 11 none
  statics := none }

def pool7 : Array CpInfo := pool [(1, .class_ 2), (0, u "java/lang/constant/ConstantDesc"), (0, .class_ 4), (0, u "java/lang/Object")] 32

/-- java/lang/constant/ConstantDesc -/
def k7 : Class := { plain "java/lang/constant/ConstantDesc" (some 0) with
  accessFlags := 1537
  interfaces := #[]
  cf := some (fileOf pool7 1 #[] #[] 1537 3 #[] #[])
  fields := #[]
  methods := #[]
  instanceTypes := #[]
  staticTypes := #[]
  resolved := Array.replicate 37 none
  statics := none }

def pool8 : Array CpInfo := pool [(1, .class_ 2), (0, u "java/lang/Integer"), (16, u "digits"), (0, u "[C"), (32, u "numberOfLeadingZeros"), (0, u "(I)I"), (30, u "DigitOnes"), (0, u "[B"), (2, u "DigitTens"), (99, .class_ 190), (0, u "java/lang/Integer$IntegerCache"), (3, u "I"), (8, .class_ 204), (0, u "java/lang/Number"), (2, u "value"), (56, .integer 65536), (37, u "TYPE"), (0, u "Ljava/lang/Class;"), (0, .class_ 305), (0, u "java/lang/Comparable"), (0, .class_ 307), (0, u "java/lang/constant/Constable"), (0, .class_ 309), (0, u "java/lang/constant/ConstantDesc"), (0, u "MIN_VALUE"), (1, u "MAX_VALUE"), (3, u "SIZE"), (1, u "BYTES"), (1, u "serialVersionUID"), (0, u "J")] 131

def k8c0 : Code := { maxStack := 3, maxLocals := 2, code := jdk_33_method_47_code, exceptionTable := #[], attributes := #[] }
def k8m0 : Method := { name := "numberOfLeadingZeros", desc := "(I)I", sig := { parameters := [.int], returnType := some .int }, accessFlags := 9, code := some k8c0 }
/-- java/lang/Integer -/
def k8 : Class := { plain "java/lang/Integer" (some 5) with
  accessFlags := 49
  interfaces := #[2, 6, 7]
  cf := some (fileOf pool8 1 #[.nestMembers #[189]] #[{ accessFlags := 9, nameIndex := 53, descriptorIndex := 54, attributes := #[] }] 49 203 #[304, 306, 308] #[{ accessFlags := 25, nameIndex := 310, descriptorIndex := 194, attributes := #[] }, { accessFlags := 25, nameIndex := 312, descriptorIndex := 194, attributes := #[] }, { accessFlags := 25, nameIndex := 302, descriptorIndex := 303, attributes := #[] }, { accessFlags := 24, nameIndex := 19, descriptorIndex := 20, attributes := #[] }, { accessFlags := 24, nameIndex := 89, descriptorIndex := 86, attributes := #[] }, { accessFlags := 24, nameIndex := 85, descriptorIndex := 86, attributes := #[] }, { accessFlags := 18, nameIndex := 207, descriptorIndex := 194, attributes := #[] }, { accessFlags := 25, nameIndex := 316, descriptorIndex := 194, attributes := #[] }, { accessFlags := 25, nameIndex := 318, descriptorIndex := 194, attributes := #[] }, { accessFlags := 26, nameIndex := 320, descriptorIndex := 321, attributes := #[] }])
  fields := #[{ name := "MIN_VALUE", type := .int, accessFlags := 25, slot := 0, constantValue := 0 }, { name := "MAX_VALUE", type := .int, accessFlags := 25, slot := 1, constantValue := 0 }, { name := "TYPE", type := (.object "java/lang/Class"), accessFlags := 25, slot := 2, constantValue := 0 }, { name := "digits", type := (.array .char), accessFlags := 24, slot := 3, constantValue := 0 }, { name := "DigitTens", type := (.array .byte), accessFlags := 24, slot := 4, constantValue := 0 }, { name := "DigitOnes", type := (.array .byte), accessFlags := 24, slot := 5, constantValue := 0 }, { name := "value", type := .int, accessFlags := 18, slot := 0, constantValue := 0 }, { name := "SIZE", type := .int, accessFlags := 25, slot := 6, constantValue := 0 }, { name := "BYTES", type := .int, accessFlags := 25, slot := 7, constantValue := 0 }, { name := "serialVersionUID", type := .long, accessFlags := 26, slot := 8, constantValue := 0 }]
  methods := #[k8m0]
  instanceTypes := #[.int]
  staticTypes := #[.int, .int, (.object "java/lang/Class"), (.array .char), (.array .byte), (.array .byte), .int, .int, .long]
  resolved := Array.replicate 453 none
  statics := none }

def pool9 : Array CpInfo := pool [(1, u "java/lang/Cloneable"), (0, .class_ 1), (0, u "java/lang/Object"), (0, .class_ 3)] 3

/-- java/lang/Cloneable -/
def k9 : Class := { plain "java/lang/Cloneable" (some 0) with
  accessFlags := 1537
  interfaces := #[]
  cf := some (fileOf pool9 2 #[] #[] 1537 4 #[] #[])
  fields := #[]
  methods := #[]
  instanceTypes := #[]
  staticTypes := #[]
  resolved := Array.replicate 8 none
  statics := none }

/-- the primitive byte -/
def k10 : Class := { plain "byte" none with kind := .primitive 'B', accessFlags := 0x411 }
/-- [B -/
def k11 : Class := { plain "[B" (some 0) with kind := .array 10 .byte, interfaces := #[9, 4], accessFlags := 1041 }

/-- the primitive int -/
def k12 : Class := { plain "int" none with kind := .primitive 'I', accessFlags := 0x411 }
/-- [I -/
def k13 : Class := { plain "[I" (some 0) with kind := .array 12 .int, interfaces := #[9, 4], accessFlags := 1041 }

def heap : Heap := #[]
def classes : Array Class := #[k0, k1, k2, k3, k4, k5, k6, k7, k8, k9, k10, k11, k12, k13]
def interned : List (Array UInt16 × Addr) := []
def slotsUsed : Nat := 0
def theMethod : MethodId := ⟨1, 2⟩
def args0 : Array Value := #[.int 5, .int 3, .int 3, .int 1, .int 7]
def aboutOver (below : List Frame) : State where
  vm := { classes := classes, interned := interned.toArray }
  heap := heap
  slotsUsed := slotsUsed
  threads := #[{ frames := .invoking theMethod args0 :: below }]
def below0 : List Frame := [.native { method := ⟨0, 0⟩, args := #[] }]
def about1 : State := aboutOver below0
def p0 : Program := .bare "" "" ""
def e0 : Env := launch0.env 0 0 0
theorem w_frames : about1.frames = Frame.invoking theMethod args0 :: below0 := rfl
set_option maxRecDepth 65536 in
theorem w_args : argsFit about1.vm theMethod args0 = true := by decide +kernel
set_option maxRecDepth 65536 in
theorem w_heap : heapFits about1 = true := by decide +kernel
set_option maxRecDepth 65536 in
theorem w_runnable : about1.curStatus? = some .runnable := by decide +kernel
set_option maxRecDepth 65536 in
theorem w_alone : about1.alone = true := by decide +kernel
set_option maxRecDepth 65536 in
theorem w_named : about1.methodNamed? x = some theMethod := by decide +kernel
set_option maxRecDepth 65536 in
theorem w_hears : about1.hears theMethod below0 = true := by decide +kernel
set_option maxRecDepth 65536 in
theorem w_ripe : about1.ripe theMethod args0 below0 = true := by decide +kernel
theorem w_running : about1.status = .running := rfl
set_option maxRecDepth 65536 in
theorem w_room : about1.hasRoom e0.platform room_1 = true :=
  launch0.hasRoom_least _ room_1 (by decide +kernel) (by decide +kernel) (by decide +kernel) (by decide +kernel) (by decide +kernel) (by decide +kernel)
theorem allAtoms_all (ts : List Jvm.Cond) (a : Array Jvm.Value) (st : Jvm.State) : (allAtoms ts).before a st = ts.all (fun c => c.before a st) := by
  induction ts with
  | nil => rfl
  | cons c t ih =>
    show (Jvm.Cond.and c (allAtoms t)).before a st = _
    rw [Jvm.Cond.before_and, ih, List.all_cons]
def words1 : List Jvm.Cond := Jvm.Cond.code x code maxLocals ret :: tables_1
/-- a 'code' word, met by the world's own term for the bytes: nothing is compared byte by byte -/
theorem code_word {y : MethodName} {bytes : ByteArray} {mx : Nat} {rt : Option FieldType} {a : Array Value} {s : State} {m : MethodId} {meth : Method} {c : Code} (h1 : s.methodNamed? y = some m) (h2 : s.vm.method? m = some meth) (h3 : meth.code = some c) (h4 : c.code = bytes)
    (h5 : (c.maxLocals == mx && c.exceptionTable.isEmpty && decide (c.maxStack ≤ mostOperands) && decide (meth.sig.returnType = rt) && !meth.locks && decide (parseMethodDescriptor y.desc = some meth.sig)) = true) : (Jvm.Cond.code y bytes mx rt).before a s = true := by
  simp only [Bool.and_eq_true, beq_iff_eq, Bool.not_eq_true', decide_eq_true_eq] at h5
  obtain ⟨⟨⟨⟨⟨g1, g2⟩, g3⟩, g4⟩, g5⟩, g6⟩ := h5
  simp [Cond.before, Cond.holds, Cond.value, h1, h2, h3, h4, g1, g2, g3, g4, g5, g6]
def isCode : Jvm.Cond → Bool
  | .code _ _ _ _ => true
  | _ => false
theorem all_split {L : List Jvm.Cond} {P : Jvm.Cond → Bool} (h1 : L.all (fun c => isCode c || P c) = true) (h2 : ∀ c ∈ L.filter isCode, P c = true) : L.all P = true := by
  refine List.all_eq_true.mpr fun c hc => ?_
  have h := List.all_eq_true.mp h1 c hc
  rcases Bool.eq_false_or_eq_true (isCode c) with hi | hi
  · exact h2 c (List.mem_filter.mpr ⟨hc, hi⟩)
  · simpa [hi] using h
set_option maxRecDepth 65536 in
theorem w_c0 : (Jvm.Cond.code x code maxLocals ret).before args0 about1 = true := code_word (m := ⟨1, 2⟩) (meth := k1m2) (c := k1c2) (by decide +kernel) rfl rfl rfl (by decide +kernel)
set_option maxRecDepth 65536 in
theorem w_c1 : (Jvm.Cond.code ({ cls := "com/example/hopwise/hopwise/node/DistanceHighestBitPinLaw", name := "top", desc := "(I)I" } : Jvm.MethodName) method_2_code (1 : Nat) (Option.some Jvm.ClassFile.FieldType.int)).before args0 about1 = true := code_word (m := ⟨1, 1⟩) (meth := k1m1) (c := k1c1) (by decide +kernel) rfl rfl rfl (by decide +kernel)
set_option maxRecDepth 65536 in
theorem w_c2 : (Jvm.Cond.code ({ cls := "com/example/hopwise/hopwise/node/Distance", name := "highestBit", desc := "([B[B)I" } : Jvm.MethodName) prog_85_method_5_code (4 : Nat) (Option.some Jvm.ClassFile.FieldType.int)).before args0 about1 = true := code_word (m := ⟨3, 0⟩) (meth := k3m0) (c := k3c0) (by decide +kernel) rfl rfl rfl (by decide +kernel)
set_option maxRecDepth 65536 in
theorem w_c3 : (Jvm.Cond.code ({ cls := "java/lang/Integer", name := "numberOfLeadingZeros", desc := "(I)I" } : Jvm.MethodName) jdk_33_method_47_code (2 : Nat) (Option.some Jvm.ClassFile.FieldType.int)).before args0 about1 = true := code_word (m := ⟨8, 0⟩) (meth := k8m0) (c := k8c0) (by decide +kernel) rfl rfl rfl (by decide +kernel)
def codes1 : List Jvm.Cond := [Jvm.Cond.code x code maxLocals ret, Jvm.Cond.code ({ cls := "com/example/hopwise/hopwise/node/DistanceHighestBitPinLaw", name := "top", desc := "(I)I" } : Jvm.MethodName) method_2_code (1 : Nat) (Option.some Jvm.ClassFile.FieldType.int), Jvm.Cond.code ({ cls := "com/example/hopwise/hopwise/node/Distance", name := "highestBit", desc := "([B[B)I" } : Jvm.MethodName) prog_85_method_5_code (4 : Nat) (Option.some Jvm.ClassFile.FieldType.int), Jvm.Cond.code ({ cls := "java/lang/Integer", name := "numberOfLeadingZeros", desc := "(I)I" } : Jvm.MethodName) jdk_33_method_47_code (2 : Nat) (Option.some Jvm.ClassFile.FieldType.int)]
set_option maxRecDepth 65536 in
theorem codes_eq : words1.filter isCode = codes1 := rfl
theorem w_codes : ∀ c ∈ words1.filter isCode, c.before args0 about1 = true := by
  rw [codes_eq]
  intro c hc
  simp only [codes1, List.mem_cons, List.not_mem_nil, or_false] at hc
  rcases hc with rfl | rfl | rfl | rfl
  · exact w_c0
  · exact w_c1
  · exact w_c2
  · exact w_c3
set_option maxRecDepth 65536 in
theorem w_t1 : words1.all (fun c => isCode c || c.before args0 about1) = true := by decide +kernel
theorem w_tables : (allAtoms (Jvm.Cond.code x code maxLocals ret :: tables_1)).before args0 about1 = true := by
  rw [allAtoms_all]
  show words1.all (fun c => c.before args0 about1) = true
  refine all_split ?_ w_codes
  rw [w_t1]
set_option maxRecDepth 65536 in
theorem w_case : (Jvm.Cond.and given_1 narrow_1).before args0 about1 = true := by decide +kernel
theorem w_applies : (headSpec (Jvm.Cond.code x code maxLocals ret :: tables_1) room_1).applies x e0.platform about1 = true :=
  (Spec.applies_iff w_frames).mpr ⟨w_running, w_runnable, w_alone, w_named, w_hears, w_ripe, w_room, w_tables⟩
theorem atStart : AtStart classFile x code maxLocals ret World_1 tables_1 room_1 Calls_1 rest_1 Pre_1 launch0 p0 e0 about1 theMethod args0 below0 :=
  ⟨lists_1, trivial, launch0.admits_env _ _ _, launch0.least_env, fairChoices_fair.cas, fairChoices_fair.clock, w_frames, w_args, w_heap, w_applies, trivial, trivial, w_case⟩
end start1
theorem witness_1 : WitnessClaimed_1 := ⟨start1.p0, start1.e0, start1.about1, start1.theMethod, start1.args0, start1.below0, start1.atStart⟩
end Jvm.Pilot.@@N@@
