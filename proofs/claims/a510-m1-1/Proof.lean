import JvmDerived
import JvmDerived.Pilot.@@N@@Statement
import JvmDerived.Pilot.@@N@@Code
set_option linter.unusedVariables false
set_option linter.unusedSimpArgs false
namespace Jvm.RoadKit
open Sem ClassFile Op Lib Jvm.Stand Jvm.Free Jvm.LawKit
section New
variable {p : Program} {l : Launch} {e : Env} {R : Room} {s : State} {m : MethodId} {args : Array Value} {below : List Frame} {meth : Method} {c : Code} {T : State} {locs : List Loc} {cells slots : Nat}
theorem retI (X : Stand p l e R s m args below meth c T locs cells slots) (hx : p.tables.exec = Jvm.exec) {pc : Nat} {Ls : Array Slot} {z : Int32} {rest : List Value} (hret : meth.sig.returnType = some .int) (hd : decode c.code pc = .ok (.ireturn, 1)) {fs : List Frame}
    (hl : ∀ (f : JFrame) (acts : List Action), f.method = m → f.locked = none → f.entered = [] → (doReturn e (T.setTop f) acts (some (.int z))).1 = T.setFrames fs) : Steps p.tables e below (T.setTop (mkF m pc Ls (.int z :: rest))) (T.setFrames fs) := by
  have hm' : T.vm.method? m = some meth := X.method'
  have hn : narrow .int (.int z) = .int z := rfl
  show Steps p.tables e below (T.setTop { method := m, pc := pc, locals := Ls, stack := _ :: rest, locked := none }) _
  jvm_step X.here [X.here.top, hx, hd, hm', hret, hn]
  first | (intro acts; rw [hl _ acts rfl rfl rfl]) | rw [hl _ _ rfl rfl rfl]
  exact Steps.refl _
end New
end Jvm.RoadKit
namespace Jvm.Pilot.@@N@@
open Jvm Jvm.ClassFile Sem Op Lib Jvm.Free Jvm.Stand Jvm.LawKit Jvm.RoadKit Bundle Jvm.Pilot.@@N@@.Jvm.D
def own_Di (i : Int) : UInt64 := FP.ddiv (.ofNat (FP.Core.fromInt FP.Core.b64 i)) 4616189618054758400
def own_chk (i : Int) : Bool := match FP.Core.decode FP.Core.b64 (own_Di i).toNat with
  | .fin s c q => s == decide (i < 0) && c == i.natAbs * 2 ^ (-2 - q).toNat && decide (q ≤ -2) && decide ((own_Di i) &&& 0x7fffffffffffffff ≤ 0x7ff0000000000000)
  | _ => false
set_option maxRecDepth 100000 in
theorem own_all : (List.range 1601).all (fun n => own_chk ((n : Int) - 800)) = true := by decide +kernel
theorem own_c1 : own_Di (-360) = 13859405640767635456 ∧ own_Di 360 = 4636033603912859648 ∧ own_Di (-720) = 13863909240395005952 ∧ own_Di 720 = 4640537203540230144 := by decide +kernel
theorem own_P (i : Int) (h1 : -800 ≤ i) (h2 : i ≤ 800) : own_chk i = true := by
  have h := List.all_eq_true.mp own_all (i + 800).toNat (List.mem_range.mpr (by omega))
  have e : (((i + 800).toNat : Nat) : Int) - 800 = i := by omega
  rw [e] at h; exact h
theorem own_dec (i : Int) (h1 : -800 ≤ i) (h2 : i ≤ 800) : ∃ k : Nat, FP.Core.decode FP.Core.b64 (own_Di i).toNat = .fin (decide (i < 0)) (i.natAbs * 2 ^ k) (-2 - (k : Int)) := by
  have h := own_P i h1 h2
  unfold own_chk at h
  split at h
  · rename_i s c q e
    simp only [Bool.and_eq_true, beq_iff_eq, decide_eq_true_eq] at h
    obtain ⟨⟨⟨a, b⟩, d⟩, -⟩ := h
    refine ⟨(-2 - q).toNat, ?_⟩
    rw [e, a, b]
    congr 1
    omega
  · cases h
theorem own_nn (i : Int) (h1 : -800 ≤ i) (h2 : i ≤ 800) : Jvm.Free.Fl.NoNaN64 (own_Di i) := by
  have h := own_P i h1 h2
  unfold own_chk at h
  split at h
  · simp only [Bool.and_eq_true, decide_eq_true_eq] at h
    exact h.2
  · cases h
theorem own_sg (i : Int) (M : Nat) : FP.Core.signed (decide (i < 0)) (i.natAbs * 2 ^ M) = i * 2 ^ M := by
  unfold FP.Core.signed
  by_cases h : i < 0
  · rw [decide_eq_true h, if_pos rfl]
    have e : (i.natAbs : Int) = -i := by omega
    rw [Int.natCast_mul, e, Int.natCast_pow, Int.neg_mul, Int.neg_neg]; rfl
  · rw [decide_eq_false h, if_neg (by decide)]
    have e : (i.natAbs : Int) = i := by omega
    rw [Int.natCast_mul, e, Int.natCast_pow]; rfl
theorem own_cmp (a b : Int) (a1 : -800 ≤ a) (a2 : a ≤ 800) (b1 : -800 ≤ b) (b2 : b ≤ 800) : FP.dcmp (own_Di a) (own_Di b) = some (compare a b) := by
  obtain ⟨k, hk⟩ := own_dec a a1 a2
  obtain ⟨l, hl⟩ := own_dec b b1 b2
  show FP.Core.order (FP.Core.decode FP.Core.b64 (own_Di a).toNat) (FP.Core.decode FP.Core.b64 (own_Di b).toNat) = _
  rw [hk, hl]
  show some (compare (FP.Core.signed _ (FP.Core.inUnits _ _ _)) (FP.Core.signed _ (FP.Core.inUnits _ _ _))) = _
  have m : min (-2 - (k : Int)) (-2 - (l : Int)) = -2 - ((max k l : Nat) : Int) := by omega
  rw [m]
  unfold FP.Core.inUnits
  have e1 : (-2 - (k : Int) - (-2 - ((max k l : Nat) : Int))).toNat = max k l - k := by omega
  have e2 : (-2 - (l : Int) - (-2 - ((max k l : Nat) : Int))).toNat = max k l - l := by omega
  rw [e1, e2, Nat.mul_assoc, Nat.mul_assoc, ← Nat.pow_add, ← Nat.pow_add]
  have e3 : k + (max k l - k) = max k l := by omega
  have e4 : l + (max k l - l) = max k l := by omega
  rw [e3, e4, own_sg, own_sg]
  have hp : (0 : Int) < 2 ^ (max k l) := Int.pow_pos (by decide)
  congr 1
  rcases Int.lt_trichotomy a b with h | h | h
  · rw [Int.compare_eq_lt.mpr h, Int.compare_eq_lt.mpr (Int.mul_lt_mul_of_pos_right h hp)]
  · rw [h]; exact (Int.compare_eq_eq.mpr rfl).trans (Int.compare_eq_eq.mpr rfl).symm
  · rw [Int.compare_eq_gt.mpr h, Int.compare_eq_gt.mpr (Int.mul_lt_mul_of_pos_right h hp)]
theorem own_cv (a b : Int) (a1 : -800 ≤ a) (a2 : a ≤ 800) (b1 : -800 ≤ b) (b2 : b ≤ 800) (o : CmpOp) : cmpValue (FP.dcmp (own_Di a) (own_Di b)) o = if a < b then (-1 : Int32) else if a = b then (0 : Int32) else (1 : Int32) := by
  rw [own_cmp a b a1 a2 b1 b2]
  rcases Int.lt_trichotomy a b with h | h | h
  · rw [Int.compare_eq_lt.mpr h, if_pos h]; rfl
  · rw [Int.compare_eq_eq.mpr h, if_neg (by omega), if_pos h]; rfl
  · rw [Int.compare_eq_gt.mpr h, if_neg (by omega), if_neg (by omega)]; rfl
theorem own_lt0 (a b : Int) (a1 : -800 ≤ a) (a2 : a ≤ 800) (b1 : -800 ≤ b) (b2 : b ≤ 800) (o : CmpOp) : cmpValue (FP.dcmp (own_Di a) (own_Di b)) o < (0 : Int32) ↔ a < b := by
  rw [own_cv a b a1 a2 b1 b2]
  repeat' split
  all_goals first | exact ⟨fun _ => by assumption, fun _ => by decide⟩ | exact ⟨fun h => absurd h (by decide), fun h => by omega⟩
theorem own_gt0 (a b : Int) (a1 : -800 ≤ a) (a2 : a ≤ 800) (b1 : -800 ≤ b) (b2 : b ≤ 800) (o : CmpOp) : (0 : Int32) < cmpValue (FP.dcmp (own_Di a) (own_Di b)) o ↔ b < a := by
  rw [own_cv a b a1 a2 b1 b2]
  repeat' split
  · exact ⟨fun h => absurd h (by decide), fun h => by omega⟩
  · exact ⟨fun h => absurd h (by decide), fun h => by omega⟩
  · exact ⟨fun _ => by omega, fun _ => by decide⟩
theorem d1_0 : decode jdk_29_method_69_code 0 = .ok (.iload_n 0, 1) := by decide +kernel
theorem d1_1 : decode jdk_29_method_69_code 1 = .ok (.iload_n 1, 1) := by decide +kernel
theorem d1_2 : decode jdk_29_method_69_code 2 = .ok (.if_icmp .gt 7, 3) := by decide +kernel
theorem d1_9 : decode jdk_29_method_69_code 9 = .ok (.iload_n 1, 1) := by decide +kernel
theorem d1_5 : decode jdk_29_method_69_code 5 = .ok (.iload_n 0, 1) := by decide +kernel
theorem d1_6 : decode jdk_29_method_69_code 6 = .ok (.goto 4, 3) := by decide +kernel
theorem ef_1 (m : MethodId) (x0 : Int32) (x1 : Int32) : entryFrame m #[(.int x0), (.int x1)] 2 = mkF m 0 #[.val (.int x0), .val (.int x1)] [] := by first | (simp [entryFrame, mkF, argsToLocals, Value.category]; done) | rfl
def f1 (p0 : Int32) (p1 : Int32) : Int32 := (let j3 : Int32 := (if p1 < p0 then p1 else p0); j3)
def Q1 (Z : State) (p0 : Int32) (p1 : Int32) (h0 : Heap) (n0 : Nat) (v : Option Value) (h : Heap) (L : List Loc) : Prop := v = some (.int (f1 p0 p1)) ∧ Fr n0 L ∧ h = h0
theorem d1_10 : decode jdk_29_method_69_code 10 = .ok (.ireturn, 1) := by decide +kernel
set_option maxRecDepth 65536 in
set_option maxHeartbeats 40000000 in
theorem rm1 (l : Launch) (Z : State) (aw : Array Value) (hw : ∀ d ∈ tables_1, d.before aw Z = true) (ws : List Jvm.Cond) (p0 : Int32) (p1 : Int32) (h0 : Heap) (n0 : Nat) (Z0 : n0 ≤ h0.size) :
    MetFree l (⟨"java/lang/Math", "min", "(II)I"⟩ : MethodName) (head1 (Jvm.Cond.code (⟨"java/lang/Math", "min", "(II)I"⟩ : MethodName) jdk_29_method_69_code 2 (some .int) :: ws) ({ frames := 0, cells := 0, slots := 0, locals := 0 } : Room)) (fun a U => a = #[(.int p0), (.int p1)] ∧ Z.Warmed39 U.vm ∧ U.heap = h0) (fun _ _ _ _ _ => True) (fun _ U o U' => ∃ v L, o = .returned v ∧ Q1 Z p0 p1 h0 n0 v U'.heap L ∧ FrameEnd U o U' L ({ frames := 0, cells := 0, slots := 0, locals := 0 } : Room).cells ({ frames := 0, cells := 0, slots := 0, locals := 0 } : Room).slots) := by
  refine MetFree.of_bodySF (Jvm.Free.JP.mathPlain rfl (by decide +kernel)) hisR ?_
  intro p e s m args below meth c s₁ Bd hml0 hP hK
  obtain ⟨rfl, hZ, hh⟩ := hP
  have hx := Bd.exec
  have hby := Bd.bytes
  have hml : c.maxLocals = 2 := hml0
  have hown : s.vm.findClass "java/lang/Math" = some m.cls := findClass_of_methodNamed Bd.named
  have hnm := (name_of_methodNamed Bd.named Bd.method).1
  have X0 : Stand p l e ({ frames := 0, cells := 0, slots := 0, locals := 0 } : Room) s m #[(.int p0), (.int p1)] below meth c s₁ [] 0 0 := Stand.of_body Bd
  have e0 : s₁.heap = h0 := by rw [← hh, Bd.state]; rfl
  have N0 := Fr.nil n0
  have pre0 : ∀ t, Steps p.tables e below (s₁.setTop (mkF m 0 #[.val (.int p0), .val (.int p1)] [])) t → Steps p.tables e below (s₁.setTop (entryFrame m #[(.int p0), (.int p1)] 2)) t := fun t k => castTop (ef_1 m p0 p1) k
  have pre1 : ∀ t, Steps p.tables e below (s₁.setTop (mkF m 2 #[.val (.int p0), .val (.int p1)] [(.int p1), (.int p0)])) t → Steps p.tables e below (s₁.setTop (entryFrame m #[(.int p0), (.int p1)] 2)) t := fun t k => pre0 t (by
    show Steps p.tables e below (s₁.setTop (mkF m 0 #[.val (.int p0), .val (.int p1)] [])) _
    refine XS.iloadN X0.here hx rfl (hb hby d1_0) rfl ?_
    show Steps p.tables e below (s₁.setTop (mkF m 1 #[.val (.int p0), .val (.int p1)] [(.int p0)])) _
    refine XS.iloadN X0.here hx rfl (hb hby d1_1) rfl ?_
    exact k)
  obtain ⟨j3, hj3, pre4⟩ : ∃ (j3 : Int32), j3 = (if p1 < p0 then p1 else p0) ∧ ∀ t, Steps p.tables e below (s₁.setTop (mkF m 10 #[.val (.int p0), .val (.int p1)] [(.int j3)])) t → Steps p.tables e below (s₁.setTop (entryFrame m #[(.int p0), (.int p1)] 2)) t := by
    by_cases hc2 : p1 < p0
    · exact ⟨p1, (by rw [if_pos hc2]), fun t k => pre1 t (by
        show Steps p.tables e below (s₁.setTop (mkF m 2 #[.val (.int p0), .val (.int p1)] [(.int p1), (.int p0)])) _
        refine XS.icmpYes X0.here hx rfl (pc0 := 2) (pc' := 9) rfl (hb hby d1_2) rfl (tlt hc2).2.2.1 (by decide) (by decide) ?_
        show Steps p.tables e below (s₁.setTop (mkF m 9 #[.val (.int p0), .val (.int p1)] [])) _
        refine XS.iloadN X0.here hx rfl (hb hby d1_9) rfl ?_
        exact k)⟩
    · exact ⟨p0, (by rw [if_neg hc2]), fun t k => pre1 t (by
        show Steps p.tables e below (s₁.setTop (mkF m 2 #[.val (.int p0), .val (.int p1)] [(.int p1), (.int p0)])) _
        refine XS.icmpNo X0.here hx rfl (hb hby d1_2) rfl (flt hc2).2.2.1 ?_
        show Steps p.tables e below (s₁.setTop (mkF m 5 #[.val (.int p0), .val (.int p1)] [])) _
        refine XS.iloadN X0.here hx rfl (hb hby d1_5) rfl ?_
        show Steps p.tables e below (s₁.setTop (mkF m 6 #[.val (.int p0), .val (.int p1)] [(.int p0)])) _
        refine XS.goto X0.here hx rfl (pc0 := 6) (pc' := 10) rfl (hb hby d1_6) (by decide) (by decide) ?_
        exact k)⟩
  obtain ⟨fs, hr, hrun, hended, hW, hsame⟩ := X0.leave (v := some (.int j3)) (fun h => by rw [Bd.returns] at h; cases h)
  refine ⟨_, _, pre4 _ ?_, hrun, hended, _, _, rfl, ?_, ⟨_, rfl⟩, hW, hsame.mono (by decide) (by decide)⟩
  · show Steps p.tables e below (s₁.setTop (mkF m 10 #[.val (.int p0), .val (.int p1)] [(.int j3)])) _
    exact retI X0 hx Bd.returns (hb hby d1_10) hr
  · show Q1 Z p0 p1 h0 n0 _ s₁.heap _
    rw [e0]
    exact ⟨congrArg (fun z => some (Value.int z)) (by subst hj3; rfl), N0, rfl⟩
theorem d2_0 : decode jdk_29_method_65_code 0 = .ok (.iload_n 0, 1) := by decide +kernel
theorem d2_1 : decode jdk_29_method_65_code 1 = .ok (.iload_n 1, 1) := by decide +kernel
theorem d2_2 : decode jdk_29_method_65_code 2 = .ok (.if_icmp .lt 7, 3) := by decide +kernel
theorem d2_9 : decode jdk_29_method_65_code 9 = .ok (.iload_n 1, 1) := by decide +kernel
theorem d2_5 : decode jdk_29_method_65_code 5 = .ok (.iload_n 0, 1) := by decide +kernel
theorem d2_6 : decode jdk_29_method_65_code 6 = .ok (.goto 4, 3) := by decide +kernel
theorem ef_2 (m : MethodId) (x0 : Int32) (x1 : Int32) : entryFrame m #[(.int x0), (.int x1)] 2 = mkF m 0 #[.val (.int x0), .val (.int x1)] [] := by first | (simp [entryFrame, mkF, argsToLocals, Value.category]; done) | rfl
def f2 (p0 : Int32) (p1 : Int32) : Int32 := (let j3 : Int32 := (if p0 < p1 then p1 else p0); j3)
def Q2 (Z : State) (p0 : Int32) (p1 : Int32) (h0 : Heap) (n0 : Nat) (v : Option Value) (h : Heap) (L : List Loc) : Prop := v = some (.int (f2 p0 p1)) ∧ Fr n0 L ∧ h = h0
theorem d2_10 : decode jdk_29_method_65_code 10 = .ok (.ireturn, 1) := by decide +kernel
set_option maxRecDepth 65536 in
set_option maxHeartbeats 40000000 in
theorem rm2 (l : Launch) (Z : State) (aw : Array Value) (hw : ∀ d ∈ tables_1, d.before aw Z = true) (ws : List Jvm.Cond) (p0 : Int32) (p1 : Int32) (h0 : Heap) (n0 : Nat) (Z0 : n0 ≤ h0.size) :
    MetFree l (⟨"java/lang/Math", "max", "(II)I"⟩ : MethodName) (head1 (Jvm.Cond.code (⟨"java/lang/Math", "max", "(II)I"⟩ : MethodName) jdk_29_method_65_code 2 (some .int) :: ws) ({ frames := 0, cells := 0, slots := 0, locals := 0 } : Room)) (fun a U => a = #[(.int p0), (.int p1)] ∧ Z.Warmed39 U.vm ∧ U.heap = h0) (fun _ _ _ _ _ => True) (fun _ U o U' => ∃ v L, o = .returned v ∧ Q2 Z p0 p1 h0 n0 v U'.heap L ∧ FrameEnd U o U' L ({ frames := 0, cells := 0, slots := 0, locals := 0 } : Room).cells ({ frames := 0, cells := 0, slots := 0, locals := 0 } : Room).slots) := by
  refine MetFree.of_bodySF (Jvm.Free.JP.mathPlain rfl (by decide +kernel)) hisR ?_
  intro p e s m args below meth c s₁ Bd hml0 hP hK
  obtain ⟨rfl, hZ, hh⟩ := hP
  have hx := Bd.exec
  have hby := Bd.bytes
  have hml : c.maxLocals = 2 := hml0
  have hown : s.vm.findClass "java/lang/Math" = some m.cls := findClass_of_methodNamed Bd.named
  have hnm := (name_of_methodNamed Bd.named Bd.method).1
  have X0 : Stand p l e ({ frames := 0, cells := 0, slots := 0, locals := 0 } : Room) s m #[(.int p0), (.int p1)] below meth c s₁ [] 0 0 := Stand.of_body Bd
  have e0 : s₁.heap = h0 := by rw [← hh, Bd.state]; rfl
  have N0 := Fr.nil n0
  have pre0 : ∀ t, Steps p.tables e below (s₁.setTop (mkF m 0 #[.val (.int p0), .val (.int p1)] [])) t → Steps p.tables e below (s₁.setTop (entryFrame m #[(.int p0), (.int p1)] 2)) t := fun t k => castTop (ef_2 m p0 p1) k
  have pre1 : ∀ t, Steps p.tables e below (s₁.setTop (mkF m 2 #[.val (.int p0), .val (.int p1)] [(.int p1), (.int p0)])) t → Steps p.tables e below (s₁.setTop (entryFrame m #[(.int p0), (.int p1)] 2)) t := fun t k => pre0 t (by
    show Steps p.tables e below (s₁.setTop (mkF m 0 #[.val (.int p0), .val (.int p1)] [])) _
    refine XS.iloadN X0.here hx rfl (hb hby d2_0) rfl ?_
    show Steps p.tables e below (s₁.setTop (mkF m 1 #[.val (.int p0), .val (.int p1)] [(.int p0)])) _
    refine XS.iloadN X0.here hx rfl (hb hby d2_1) rfl ?_
    exact k)
  obtain ⟨j3, hj3, pre4⟩ : ∃ (j3 : Int32), j3 = (if p0 < p1 then p1 else p0) ∧ ∀ t, Steps p.tables e below (s₁.setTop (mkF m 10 #[.val (.int p0), .val (.int p1)] [(.int j3)])) t → Steps p.tables e below (s₁.setTop (entryFrame m #[(.int p0), (.int p1)] 2)) t := by
    by_cases hc2 : p0 < p1
    · exact ⟨p1, (by rw [if_pos hc2]), fun t k => pre1 t (by
        show Steps p.tables e below (s₁.setTop (mkF m 2 #[.val (.int p0), .val (.int p1)] [(.int p1), (.int p0)])) _
        refine XS.icmpYes X0.here hx rfl (pc0 := 2) (pc' := 9) rfl (hb hby d2_2) rfl (tlt hc2).1 (by decide) (by decide) ?_
        show Steps p.tables e below (s₁.setTop (mkF m 9 #[.val (.int p0), .val (.int p1)] [])) _
        refine XS.iloadN X0.here hx rfl (hb hby d2_9) rfl ?_
        exact k)⟩
    · exact ⟨p0, (by rw [if_neg hc2]), fun t k => pre1 t (by
        show Steps p.tables e below (s₁.setTop (mkF m 2 #[.val (.int p0), .val (.int p1)] [(.int p1), (.int p0)])) _
        refine XS.icmpNo X0.here hx rfl (hb hby d2_2) rfl (flt hc2).1 ?_
        show Steps p.tables e below (s₁.setTop (mkF m 5 #[.val (.int p0), .val (.int p1)] [])) _
        refine XS.iloadN X0.here hx rfl (hb hby d2_5) rfl ?_
        show Steps p.tables e below (s₁.setTop (mkF m 6 #[.val (.int p0), .val (.int p1)] [(.int p0)])) _
        refine XS.goto X0.here hx rfl (pc0 := 6) (pc' := 10) rfl (hb hby d2_6) (by decide) (by decide) ?_
        exact k)⟩
  obtain ⟨fs, hr, hrun, hended, hW, hsame⟩ := X0.leave (v := some (.int j3)) (fun h => by rw [Bd.returns] at h; cases h)
  refine ⟨_, _, pre4 _ ?_, hrun, hended, _, _, rfl, ?_, ⟨_, rfl⟩, hW, hsame.mono (by decide) (by decide)⟩
  · show Steps p.tables e below (s₁.setTop (mkF m 10 #[.val (.int p0), .val (.int p1)] [(.int j3)])) _
    exact retI X0 hx Bd.returns (hb hby d2_10) hr
  · show Q2 Z p0 p1 h0 n0 _ s₁.heap _
    rw [e0]
    exact ⟨congrArg (fun z => some (Value.int z)) (by subst hj3; rfl), N0, rfl⟩
theorem pn_5 : plainName "java/lang/Record" = true := by first | (simp [plainName, overriddenIn]; done) | decide +kernel
theorem d4_0 : decode jdk_30_method_1_code 0 = .ok (.aload_n 0, 1) := by decide +kernel
theorem d4_1 : decode jdk_30_method_1_code 1 = .ok (.invokespecial 1, 3) := by decide +kernel
theorem ef_4 (m : MethodId) (x0 : Addr) : entryFrame m #[(.ref x0)] 1 = mkF m 0 #[.val (.ref x0)] [] := by first | (simp [entryFrame, mkF, argsToLocals, Value.category]; done) | rfl
def Q4 (Z : State) (a0 : Addr) (h0 : Heap) (n0 : Nat) (v : Option Value) (h : Heap) (L : List Loc) : Prop := v = none ∧ Fr n0 L ∧ h = h0
theorem d4_4 : decode jdk_30_method_1_code 4 = .ok (.return_, 1) := by decide +kernel
set_option maxRecDepth 65536 in
set_option maxHeartbeats 40000000 in
theorem rm4 (l : Launch) (Z : State) (aw : Array Value) (hw : ∀ d ∈ tables_1, d.before aw Z = true) (ws : List Jvm.Cond) (a0 : Addr) (h0 : Heap) (n0 : Nat) (Z0 : n0 ≤ h0.size) :
    MetFree l (⟨"java/lang/Record", "<init>", "()V"⟩ : MethodName) (head1 (Jvm.Cond.code (⟨"java/lang/Record", "<init>", "()V"⟩ : MethodName) jdk_30_method_1_code 1 none :: ws) ({ frames := 1, cells := 0, slots := 0, locals := 12 } : Room)) (fun a U => a = #[(.ref a0)] ∧ Z.Warmed39 U.vm ∧ U.heap = h0) (fun _ _ _ _ _ => True) (fun _ U o U' => ∃ v L, o = .returned v ∧ Q4 Z a0 h0 n0 v U'.heap L ∧ FrameEnd U o U' L ({ frames := 1, cells := 0, slots := 0, locals := 12 } : Room).cells ({ frames := 1, cells := 0, slots := 0, locals := 12 } : Room).slots) := by
  refine MetFree.of_bodySF (plainFor_of_name pn_5) hisR ?_
  intro p e s m args below meth c s₁ Bd hml0 hP hK
  obtain ⟨rfl, hZ, hh⟩ := hP
  have hx := Bd.exec
  have hby := Bd.bytes
  have hml : c.maxLocals = 1 := hml0
  have hown : s.vm.findClass "java/lang/Record" = some m.cls := findClass_of_methodNamed Bd.named
  have hnm := (name_of_methodNamed Bd.named Bd.method).1
  have X0 : Stand p l e ({ frames := 1, cells := 0, slots := 0, locals := 12 } : Room) s m #[(.ref a0)] below meth c s₁ [] 0 0 := Stand.of_body Bd
  have e0 : s₁.heap = h0 := by rw [← hh, Bd.state]; rfl
  have N0 := Fr.nil n0
  have pre0 : ∀ t, Steps p.tables e below (s₁.setTop (mkF m 0 #[.val (.ref a0)] [])) t → Steps p.tables e below (s₁.setTop (entryFrame m #[(.ref a0)] 1)) t := fun t k => castTop (ef_4 m a0) k
  have pre1 : ∀ t, Steps p.tables e below (s₁.setTop (mkF m 1 #[.val (.ref a0)] [(.ref a0)])) t → Steps p.tables e below (s₁.setTop (entryFrame m #[(.ref a0)] 1)) t := fun t k => pre0 t (by
    show Steps p.tables e below (s₁.setTop (mkF m 0 #[.val (.ref a0)] [])) _
    refine XS.aloadN X0.here hx rfl (hb hby d4_0) rfl rfl ?_
    exact k)
  obtain ⟨T2, X2, e2, st2⟩ := initO X0 hx hZ hown (hw _ (List.mem_of_getElem? (i := 20) rfl)) (hw _ (List.mem_of_getElem? (i := 21) rfl)) (hw _ (List.mem_of_getElem? (i := 22) rfl)) e0 (g := (mkF m 1 #[.val (.ref a0)] [(.ref a0)])) rfl (by rw [hml]; rfl) rfl (hb hby d4_1) (by decide) (W := 0) (by show 2 * 0 + _ ≤ _; exact Nat.le_of_eq rfl) (by decide)
  obtain ⟨fs, hr, hrun, hended, hW, hsame⟩ := X2.leave (v := none) (fun _ => rfl)
  refine ⟨_, _, pre1 _ ?_, hrun, hended, _, _, rfl, ?_, ⟨_, rfl⟩, hW, hsame.mono (by decide) (by decide)⟩
  · show Steps p.tables e below (s₁.setTop (mkF m 1 #[.val (.ref a0)] [(.ref a0)])) _
    refine st2 _ ?_
    show Steps p.tables e below (T2.setTop (mkF m 4 #[.val (.ref a0)] [])) _
    exact X2.returnOut hx Bd.returns (hb hby d4_4) hr
  · show Q4 Z a0 h0 n0 _ T2.heap _
    rw [e2]
    exact ⟨rfl, N0, rfl⟩
theorem pn_0 : plainName "com/example/adjacent_moments/adjacentmoments/GeoRecord" = true := by first | (simp [plainName, overriddenIn]; done) | decide +kernel
theorem d6_0 : decode prog_1_method_4_code 0 = .ok (.dload_n 0, 1) := by decide +kernel
theorem d6_1 : decode prog_1_method_4_code 1 = .ok (.ldc2_w 129, 3) := by decide +kernel
theorem d6_4 : decode prog_1_method_4_code 4 = .ok (.dcmp .l, 1) := by decide +kernel
theorem d6_5 : decode prog_1_method_4_code 5 = .ok (.ifCond .lt 11, 3) := by decide +kernel
theorem d6_8 : decode prog_1_method_4_code 8 = .ok (.dload_n 0, 1) := by decide +kernel
theorem d6_9 : decode prog_1_method_4_code 9 = .ok (.ldc2_w 131, 3) := by decide +kernel
theorem d6_12 : decode prog_1_method_4_code 12 = .ok (.dcmp .g, 1) := by decide +kernel
theorem d6_13 : decode prog_1_method_4_code 13 = .ok (.ifCond .le 17, 3) := by decide +kernel
theorem ef_6 (m : MethodId) (x0 : UInt64) : entryFrame m #[(.double x0)] 2 = mkF m 0 #[.val (.double x0), .second] [] := by first | (simp [entryFrame, mkF, argsToLocals, Value.category]; done) | rfl
def Q6 (Z : State) (d0 : UInt64) (h0 : Heap) (n0 : Nat) (v : Option Value) (h : Heap) (L : List Loc) : Prop := v = none ∧ Fr n0 L ∧ h = h0
theorem d6_30 : decode prog_1_method_4_code 30 = .ok (.return_, 1) := by decide +kernel
set_option maxRecDepth 65536 in
set_option maxHeartbeats 40000000 in
theorem rm6 (l : Launch) (Z : State) (aw : Array Value) (hw : ∀ d ∈ tables_1, d.before aw Z = true) (ws : List Jvm.Cond) (d0 : UInt64) (h0 : Heap) (n0 : Nat) (Z0 : n0 ≤ h0.size) (hr1 : ¬ ((cmpValue (FP.dcmp d0 (13859405640767635456 : UInt64)) .l) < (0 : Int32))) (hr2 : ¬ ((0 : Int32) < (cmpValue (FP.dcmp d0 (4636033603912859648 : UInt64)) .g))) :
    MetFree l (⟨"com/example/adjacent_moments/adjacentmoments/GeoRecord", "requireLatitude", "(D)V"⟩ : MethodName) (head1 (Jvm.Cond.code (⟨"com/example/adjacent_moments/adjacentmoments/GeoRecord", "requireLatitude", "(D)V"⟩ : MethodName) prog_1_method_4_code 2 none :: ws) ({ frames := 0, cells := 0, slots := 0, locals := 0 } : Room)) (fun a U => a = #[(.double d0)] ∧ Z.Warmed39 U.vm ∧ U.heap = h0) (fun _ _ _ _ _ => True) (fun _ U o U' => ∃ v L, o = .returned v ∧ Q6 Z d0 h0 n0 v U'.heap L ∧ FrameEnd U o U' L ({ frames := 0, cells := 0, slots := 0, locals := 0 } : Room).cells ({ frames := 0, cells := 0, slots := 0, locals := 0 } : Room).slots) := by
  refine MetFree.of_bodySF (plainFor_of_name pn_0) hisR ?_
  intro p e s m args below meth c s₁ Bd hml0 hP hK
  obtain ⟨rfl, hZ, hh⟩ := hP
  have hx := Bd.exec
  have hby := Bd.bytes
  have hml : c.maxLocals = 2 := hml0
  have hown : s.vm.findClass "com/example/adjacent_moments/adjacentmoments/GeoRecord" = some m.cls := findClass_of_methodNamed Bd.named
  have hnm := (name_of_methodNamed Bd.named Bd.method).1
  have X0 : Stand p l e ({ frames := 0, cells := 0, slots := 0, locals := 0 } : Room) s m #[(.double d0)] below meth c s₁ [] 0 0 := Stand.of_body Bd
  have e0 : s₁.heap = h0 := by rw [← hh, Bd.state]; rfl
  have N0 := Fr.nil n0
  have pre0 : ∀ t, Steps p.tables e below (s₁.setTop (mkF m 0 #[.val (.double d0), .second] [])) t → Steps p.tables e below (s₁.setTop (entryFrame m #[(.double d0)] 2)) t := fun t k => castTop (ef_6 m d0) k
  obtain ⟨fs, hr, hrun, hended, hW, hsame⟩ := X0.leave (v := none) (fun _ => rfl)
  refine ⟨_, _, pre0 _ ?_, hrun, hended, _, _, rfl, ?_, ⟨_, rfl⟩, hW, hsame.mono (by decide) (by decide)⟩
  · show Steps p.tables e below (s₁.setTop (mkF m 0 #[.val (.double d0), .second] [])) _
    refine XS.dloadN X0.here hx rfl (hb hby d6_0) rfl ?_
    show Steps p.tables e below (s₁.setTop (mkF m 1 #[.val (.double d0), .second] [(.double d0)])) _
    refine X0.ldc2DoubleC hx hown (mvT hZ (hw _ (List.mem_of_getElem? (i := 27) rfl))) (g := (mkF m 1 #[.val (.double d0), .second] [(.double d0)])) rfl (hb hby d6_1) _ ?_
    show Steps p.tables e below (s₁.setTop (mkF m 4 #[.val (.double d0), .second] [(.double (13859405640767635456 : UInt64)), (.double d0)])) _
    refine XS.dcmpS X0.here hx rfl (hb hby d6_4) rfl rfl ?_
    show Steps p.tables e below (s₁.setTop (mkF m 5 #[.val (.double d0), .second] [(.int (cmpValue (FP.dcmp d0 (13859405640767635456 : UInt64)) .l))])) _
    refine XS.ifNo X0.here hx rfl (hb hby d6_5) rfl ((if0 _ _).trans (flt (hr1 : ¬ ((cmpValue (FP.dcmp d0 (13859405640767635456 : UInt64)) .l) < (0 : Int32)))).1) ?_
    show Steps p.tables e below (s₁.setTop (mkF m 8 #[.val (.double d0), .second] [])) _
    refine XS.dloadN X0.here hx rfl (hb hby d6_8) rfl ?_
    show Steps p.tables e below (s₁.setTop (mkF m 9 #[.val (.double d0), .second] [(.double d0)])) _
    refine X0.ldc2DoubleC hx hown (mvT hZ (hw _ (List.mem_of_getElem? (i := 28) rfl))) (g := (mkF m 9 #[.val (.double d0), .second] [(.double d0)])) rfl (hb hby d6_9) _ ?_
    show Steps p.tables e below (s₁.setTop (mkF m 12 #[.val (.double d0), .second] [(.double (4636033603912859648 : UInt64)), (.double d0)])) _
    refine XS.dcmpS X0.here hx rfl (hb hby d6_12) rfl rfl ?_
    show Steps p.tables e below (s₁.setTop (mkF m 13 #[.val (.double d0), .second] [(.int (cmpValue (FP.dcmp d0 (4636033603912859648 : UInt64)) .g))])) _
    refine XS.ifYes X0.here hx rfl (pc0 := 13) (pc' := 30) rfl (hb hby d6_13) rfl ((if0 _ _).trans (flt (hr2 : ¬ ((0 : Int32) < (cmpValue (FP.dcmp d0 (4636033603912859648 : UInt64)) .g)))).2.2.2) (by decide) (by decide) ?_
    show Steps p.tables e below (s₁.setTop (mkF m 30 #[.val (.double d0), .second] [])) _
    exact X0.returnOut hx Bd.returns (hb hby d6_30) hr
  · show Q6 Z d0 h0 n0 _ s₁.heap _
    rw [e0]
    exact ⟨rfl, N0, rfl⟩
theorem d7_0 : decode prog_1_method_5_code 0 = .ok (.dload_n 0, 1) := by decide +kernel
theorem d7_1 : decode prog_1_method_5_code 1 = .ok (.ldc2_w 136, 3) := by decide +kernel
theorem d7_4 : decode prog_1_method_5_code 4 = .ok (.dcmp .l, 1) := by decide +kernel
theorem d7_5 : decode prog_1_method_5_code 5 = .ok (.ifCond .lt 11, 3) := by decide +kernel
theorem d7_8 : decode prog_1_method_5_code 8 = .ok (.dload_n 0, 1) := by decide +kernel
theorem d7_9 : decode prog_1_method_5_code 9 = .ok (.ldc2_w 138, 3) := by decide +kernel
theorem d7_12 : decode prog_1_method_5_code 12 = .ok (.dcmp .g, 1) := by decide +kernel
theorem d7_13 : decode prog_1_method_5_code 13 = .ok (.ifCond .le 17, 3) := by decide +kernel
theorem ef_7 (m : MethodId) (x0 : UInt64) : entryFrame m #[(.double x0)] 2 = mkF m 0 #[.val (.double x0), .second] [] := by first | (simp [entryFrame, mkF, argsToLocals, Value.category]; done) | rfl
def Q7 (Z : State) (d0 : UInt64) (h0 : Heap) (n0 : Nat) (v : Option Value) (h : Heap) (L : List Loc) : Prop := v = none ∧ Fr n0 L ∧ h = h0
theorem d7_30 : decode prog_1_method_5_code 30 = .ok (.return_, 1) := by decide +kernel
set_option maxRecDepth 65536 in
set_option maxHeartbeats 40000000 in
theorem rm7 (l : Launch) (Z : State) (aw : Array Value) (hw : ∀ d ∈ tables_1, d.before aw Z = true) (ws : List Jvm.Cond) (d0 : UInt64) (h0 : Heap) (n0 : Nat) (Z0 : n0 ≤ h0.size) (hr1 : ¬ ((cmpValue (FP.dcmp d0 (13863909240395005952 : UInt64)) .l) < (0 : Int32))) (hr2 : ¬ ((0 : Int32) < (cmpValue (FP.dcmp d0 (4640537203540230144 : UInt64)) .g))) :
    MetFree l (⟨"com/example/adjacent_moments/adjacentmoments/GeoRecord", "requireLongitude", "(D)V"⟩ : MethodName) (head1 (Jvm.Cond.code (⟨"com/example/adjacent_moments/adjacentmoments/GeoRecord", "requireLongitude", "(D)V"⟩ : MethodName) prog_1_method_5_code 2 none :: ws) ({ frames := 0, cells := 0, slots := 0, locals := 0 } : Room)) (fun a U => a = #[(.double d0)] ∧ Z.Warmed39 U.vm ∧ U.heap = h0) (fun _ _ _ _ _ => True) (fun _ U o U' => ∃ v L, o = .returned v ∧ Q7 Z d0 h0 n0 v U'.heap L ∧ FrameEnd U o U' L ({ frames := 0, cells := 0, slots := 0, locals := 0 } : Room).cells ({ frames := 0, cells := 0, slots := 0, locals := 0 } : Room).slots) := by
  refine MetFree.of_bodySF (plainFor_of_name pn_0) hisR ?_
  intro p e s m args below meth c s₁ Bd hml0 hP hK
  obtain ⟨rfl, hZ, hh⟩ := hP
  have hx := Bd.exec
  have hby := Bd.bytes
  have hml : c.maxLocals = 2 := hml0
  have hown : s.vm.findClass "com/example/adjacent_moments/adjacentmoments/GeoRecord" = some m.cls := findClass_of_methodNamed Bd.named
  have hnm := (name_of_methodNamed Bd.named Bd.method).1
  have X0 : Stand p l e ({ frames := 0, cells := 0, slots := 0, locals := 0 } : Room) s m #[(.double d0)] below meth c s₁ [] 0 0 := Stand.of_body Bd
  have e0 : s₁.heap = h0 := by rw [← hh, Bd.state]; rfl
  have N0 := Fr.nil n0
  have pre0 : ∀ t, Steps p.tables e below (s₁.setTop (mkF m 0 #[.val (.double d0), .second] [])) t → Steps p.tables e below (s₁.setTop (entryFrame m #[(.double d0)] 2)) t := fun t k => castTop (ef_7 m d0) k
  obtain ⟨fs, hr, hrun, hended, hW, hsame⟩ := X0.leave (v := none) (fun _ => rfl)
  refine ⟨_, _, pre0 _ ?_, hrun, hended, _, _, rfl, ?_, ⟨_, rfl⟩, hW, hsame.mono (by decide) (by decide)⟩
  · show Steps p.tables e below (s₁.setTop (mkF m 0 #[.val (.double d0), .second] [])) _
    refine XS.dloadN X0.here hx rfl (hb hby d7_0) rfl ?_
    show Steps p.tables e below (s₁.setTop (mkF m 1 #[.val (.double d0), .second] [(.double d0)])) _
    refine X0.ldc2DoubleC hx hown (mvT hZ (hw _ (List.mem_of_getElem? (i := 32) rfl))) (g := (mkF m 1 #[.val (.double d0), .second] [(.double d0)])) rfl (hb hby d7_1) _ ?_
    show Steps p.tables e below (s₁.setTop (mkF m 4 #[.val (.double d0), .second] [(.double (13863909240395005952 : UInt64)), (.double d0)])) _
    refine XS.dcmpS X0.here hx rfl (hb hby d7_4) rfl rfl ?_
    show Steps p.tables e below (s₁.setTop (mkF m 5 #[.val (.double d0), .second] [(.int (cmpValue (FP.dcmp d0 (13863909240395005952 : UInt64)) .l))])) _
    refine XS.ifNo X0.here hx rfl (hb hby d7_5) rfl ((if0 _ _).trans (flt (hr1 : ¬ ((cmpValue (FP.dcmp d0 (13863909240395005952 : UInt64)) .l) < (0 : Int32)))).1) ?_
    show Steps p.tables e below (s₁.setTop (mkF m 8 #[.val (.double d0), .second] [])) _
    refine XS.dloadN X0.here hx rfl (hb hby d7_8) rfl ?_
    show Steps p.tables e below (s₁.setTop (mkF m 9 #[.val (.double d0), .second] [(.double d0)])) _
    refine X0.ldc2DoubleC hx hown (mvT hZ (hw _ (List.mem_of_getElem? (i := 33) rfl))) (g := (mkF m 9 #[.val (.double d0), .second] [(.double d0)])) rfl (hb hby d7_9) _ ?_
    show Steps p.tables e below (s₁.setTop (mkF m 12 #[.val (.double d0), .second] [(.double (4640537203540230144 : UInt64)), (.double d0)])) _
    refine XS.dcmpS X0.here hx rfl (hb hby d7_12) rfl rfl ?_
    show Steps p.tables e below (s₁.setTop (mkF m 13 #[.val (.double d0), .second] [(.int (cmpValue (FP.dcmp d0 (4640537203540230144 : UInt64)) .g))])) _
    refine XS.ifYes X0.here hx rfl (pc0 := 13) (pc' := 30) rfl (hb hby d7_13) rfl ((if0 _ _).trans (flt (hr2 : ¬ ((0 : Int32) < (cmpValue (FP.dcmp d0 (4640537203540230144 : UInt64)) .g)))).2.2.2) (by decide) (by decide) ?_
    show Steps p.tables e below (s₁.setTop (mkF m 30 #[.val (.double d0), .second] [])) _
    exact X0.returnOut hx Bd.returns (hb hby d7_30) hr
  · show Q7 Z d0 h0 n0 _ s₁.heap _
    rw [e0]
    exact ⟨rfl, N0, rfl⟩
theorem pn_1 : plainName "com/example/adjacent_moments/adjacentmoments/query/Box" = true := by first | (simp [plainName, overriddenIn]; done) | decide +kernel
theorem d3_0 : decode prog_9_method_1_code 0 = .ok (.aload_n 0, 1) := by decide +kernel
theorem pd_2 : parseMethodDescriptor "()V" = some ⟨[], none⟩ := by decide +kernel
theorem d3_1 : decode prog_9_method_1_code 1 = .ok (.invokespecial 1, 3) := by decide +kernel
theorem d3_4 : decode prog_9_method_1_code 4 = .ok (.dload_n 1, 1) := by decide +kernel
theorem pd_3 : parseMethodDescriptor "(D)V" = some ⟨[.double], none⟩ := by decide +kernel
theorem d3_5 : decode prog_9_method_1_code 5 = .ok (.invokestatic 7, 3) := by decide +kernel
theorem d3_8 : decode prog_9_method_1_code 8 = .ok (.dload_n 3, 1) := by decide +kernel
theorem d3_9 : decode prog_9_method_1_code 9 = .ok (.invokestatic 13, 3) := by decide +kernel
theorem d3_12 : decode prog_9_method_1_code 12 = .ok (.dload 5, 2) := by decide +kernel
theorem d3_14 : decode prog_9_method_1_code 14 = .ok (.invokestatic 7, 3) := by decide +kernel
theorem d3_17 : decode prog_9_method_1_code 17 = .ok (.dload 7, 2) := by decide +kernel
theorem d3_19 : decode prog_9_method_1_code 19 = .ok (.invokestatic 13, 3) := by decide +kernel
theorem d3_22 : decode prog_9_method_1_code 22 = .ok (.dload_n 1, 1) := by decide +kernel
theorem d3_23 : decode prog_9_method_1_code 23 = .ok (.dload 5, 2) := by decide +kernel
theorem d3_25 : decode prog_9_method_1_code 25 = .ok (.dcmp .l, 1) := by decide +kernel
theorem d3_26 : decode prog_9_method_1_code 26 = .ok (.ifCond .le 19, 3) := by decide +kernel
theorem d3_45 : decode prog_9_method_1_code 45 = .ok (.dload_n 3, 1) := by decide +kernel
theorem d3_46 : decode prog_9_method_1_code 46 = .ok (.dload 7, 2) := by decide +kernel
theorem d3_48 : decode prog_9_method_1_code 48 = .ok (.dcmp .l, 1) := by decide +kernel
theorem d3_49 : decode prog_9_method_1_code 49 = .ok (.ifCond .le 19, 3) := by decide +kernel
theorem d3_68 : decode prog_9_method_1_code 68 = .ok (.aload_n 0, 1) := by decide +kernel
theorem d3_69 : decode prog_9_method_1_code 69 = .ok (.dload_n 1, 1) := by decide +kernel
theorem d3_70 : decode prog_9_method_1_code 70 = .ok (.putfield 26, 3) := by decide +kernel
theorem d3_73 : decode prog_9_method_1_code 73 = .ok (.aload_n 0, 1) := by decide +kernel
theorem d3_74 : decode prog_9_method_1_code 74 = .ok (.dload_n 3, 1) := by decide +kernel
theorem d3_75 : decode prog_9_method_1_code 75 = .ok (.putfield 32, 3) := by decide +kernel
theorem d3_78 : decode prog_9_method_1_code 78 = .ok (.aload_n 0, 1) := by decide +kernel
theorem d3_79 : decode prog_9_method_1_code 79 = .ok (.dload 5, 2) := by decide +kernel
theorem d3_81 : decode prog_9_method_1_code 81 = .ok (.putfield 35, 3) := by decide +kernel
theorem d3_84 : decode prog_9_method_1_code 84 = .ok (.aload_n 0, 1) := by decide +kernel
theorem d3_85 : decode prog_9_method_1_code 85 = .ok (.dload 7, 2) := by decide +kernel
theorem d3_87 : decode prog_9_method_1_code 87 = .ok (.putfield 38, 3) := by decide +kernel
theorem ef_3 (m : MethodId) (x0 : Addr) (x1 : UInt64) (x2 : UInt64) (x3 : UInt64) (x4 : UInt64) : entryFrame m #[(.ref x0), (.double x1), (.double x2), (.double x3), (.double x4)] 9 = mkF m 0 #[.val (.ref x0), .val (.double x1), .second, .val (.double x2), .second, .val (.double x3), .second, .val (.double x4), .second] [] := by first | (simp [entryFrame, mkF, argsToLocals, Value.category]; done) | rfl
def f3_a0_minLatitude (d1 : UInt64) (d2 : UInt64) (d3 : UInt64) (d4 : UInt64) : UInt64 := d1
def f3_a0_minLongitude (d1 : UInt64) (d2 : UInt64) (d3 : UInt64) (d4 : UInt64) : UInt64 := d2
def f3_a0_maxLatitude (d1 : UInt64) (d2 : UInt64) (d3 : UInt64) (d4 : UInt64) : UInt64 := d3
def f3_a0_maxLongitude (d1 : UInt64) (d2 : UInt64) (d3 : UInt64) (d4 : UInt64) : UInt64 := d4
def Q3 (Z : State) (a0 : Addr) (d1 : UInt64) (d2 : UInt64) (d3 : UInt64) (d4 : UInt64) (u_minLatitude_a0 : Value) (u_minLongitude_a0 : Value) (u_maxLatitude_a0 : Value) (u_maxLongitude_a0 : Value) (h0 : Heap) (n0 : Nat) (v : Option Value) (h : Heap) (L : List Loc) : Prop := v = none ∧ Fr n0 L ∧ Keep h0 h [a0] ∧ Exa Z h a0 "com/example/adjacent_moments/adjacentmoments/query/Box" ∧ Fld Z h a0 "com/example/adjacent_moments/adjacentmoments/query/Box" "minLatitude" "D" (.double (f3_a0_minLatitude d1 d2 d3 d4)) ∧ Fld Z h a0 "com/example/adjacent_moments/adjacentmoments/query/Box" "minLongitude" "D" (.double (f3_a0_minLongitude d1 d2 d3 d4)) ∧ Fld Z h a0 "com/example/adjacent_moments/adjacentmoments/query/Box" "maxLatitude" "D" (.double (f3_a0_maxLatitude d1 d2 d3 d4)) ∧ Fld Z h a0 "com/example/adjacent_moments/adjacentmoments/query/Box" "maxLongitude" "D" (.double (f3_a0_maxLongitude d1 d2 d3 d4))
theorem d3_90 : decode prog_9_method_1_code 90 = .ok (.return_, 1) := by decide +kernel
theorem own_la1_1 (d1 : UInt64) (d2 : UInt64) (d3 : UInt64) (d4 : UInt64) (u_minLatitude_a0 : Value) (u_minLongitude_a0 : Value) (u_maxLatitude_a0 : Value) (u_maxLongitude_a0 : Value) (h1 : ¬ ((cmpValue (FP.dcmp d1 (13859405640767635456 : UInt64)) .l) < (0 : Int32))) (h2 : ¬ ((0 : Int32) < (cmpValue (FP.dcmp d1 (4636033603912859648 : UInt64)) .g))) (h3 : ¬ ((cmpValue (FP.dcmp d2 (13863909240395005952 : UInt64)) .l) < (0 : Int32))) (h4 : ¬ ((0 : Int32) < (cmpValue (FP.dcmp d2 (4640537203540230144 : UInt64)) .g))) (h5 : ¬ ((cmpValue (FP.dcmp d3 (13859405640767635456 : UInt64)) .l) < (0 : Int32))) (h6 : ¬ ((0 : Int32) < (cmpValue (FP.dcmp d3 (4636033603912859648 : UInt64)) .g))) (h7 : ¬ ((cmpValue (FP.dcmp d4 (13863909240395005952 : UInt64)) .l) < (0 : Int32))) (h8 : ¬ ((0 : Int32) < (cmpValue (FP.dcmp d4 (4640537203540230144 : UInt64)) .g))) (h9 : ¬ ((0 : Int32) < (cmpValue (FP.dcmp d1 d3) .l))) (h10 : ¬ ((0 : Int32) < (cmpValue (FP.dcmp d2 d4) .l))) : ¬ ((cmpValue (FP.dcmp d1 (13859405640767635456 : UInt64)) .l) < (0 : Int32)) := by
  first | exact h1 | exact h2 | exact h3 | exact h4 | exact h5 | exact h6 | exact h7 | exact h8
theorem own_la2_1 (d1 : UInt64) (d2 : UInt64) (d3 : UInt64) (d4 : UInt64) (u_minLatitude_a0 : Value) (u_minLongitude_a0 : Value) (u_maxLatitude_a0 : Value) (u_maxLongitude_a0 : Value) (h1 : ¬ ((cmpValue (FP.dcmp d1 (13859405640767635456 : UInt64)) .l) < (0 : Int32))) (h2 : ¬ ((0 : Int32) < (cmpValue (FP.dcmp d1 (4636033603912859648 : UInt64)) .g))) (h3 : ¬ ((cmpValue (FP.dcmp d2 (13863909240395005952 : UInt64)) .l) < (0 : Int32))) (h4 : ¬ ((0 : Int32) < (cmpValue (FP.dcmp d2 (4640537203540230144 : UInt64)) .g))) (h5 : ¬ ((cmpValue (FP.dcmp d3 (13859405640767635456 : UInt64)) .l) < (0 : Int32))) (h6 : ¬ ((0 : Int32) < (cmpValue (FP.dcmp d3 (4636033603912859648 : UInt64)) .g))) (h7 : ¬ ((cmpValue (FP.dcmp d4 (13863909240395005952 : UInt64)) .l) < (0 : Int32))) (h8 : ¬ ((0 : Int32) < (cmpValue (FP.dcmp d4 (4640537203540230144 : UInt64)) .g))) (h9 : ¬ ((0 : Int32) < (cmpValue (FP.dcmp d1 d3) .l))) (h10 : ¬ ((0 : Int32) < (cmpValue (FP.dcmp d2 d4) .l))) : ¬ ((0 : Int32) < (cmpValue (FP.dcmp d1 (4636033603912859648 : UInt64)) .g)) := by
  first | exact h1 | exact h2 | exact h3 | exact h4 | exact h5 | exact h6 | exact h7 | exact h8
theorem own_lo1_1 (d1 : UInt64) (d2 : UInt64) (d3 : UInt64) (d4 : UInt64) (u_minLatitude_a0 : Value) (u_minLongitude_a0 : Value) (u_maxLatitude_a0 : Value) (u_maxLongitude_a0 : Value) (h1 : ¬ ((cmpValue (FP.dcmp d1 (13859405640767635456 : UInt64)) .l) < (0 : Int32))) (h2 : ¬ ((0 : Int32) < (cmpValue (FP.dcmp d1 (4636033603912859648 : UInt64)) .g))) (h3 : ¬ ((cmpValue (FP.dcmp d2 (13863909240395005952 : UInt64)) .l) < (0 : Int32))) (h4 : ¬ ((0 : Int32) < (cmpValue (FP.dcmp d2 (4640537203540230144 : UInt64)) .g))) (h5 : ¬ ((cmpValue (FP.dcmp d3 (13859405640767635456 : UInt64)) .l) < (0 : Int32))) (h6 : ¬ ((0 : Int32) < (cmpValue (FP.dcmp d3 (4636033603912859648 : UInt64)) .g))) (h7 : ¬ ((cmpValue (FP.dcmp d4 (13863909240395005952 : UInt64)) .l) < (0 : Int32))) (h8 : ¬ ((0 : Int32) < (cmpValue (FP.dcmp d4 (4640537203540230144 : UInt64)) .g))) (h9 : ¬ ((0 : Int32) < (cmpValue (FP.dcmp d1 d3) .l))) (h10 : ¬ ((0 : Int32) < (cmpValue (FP.dcmp d2 d4) .l))) : ¬ ((cmpValue (FP.dcmp d2 (13863909240395005952 : UInt64)) .l) < (0 : Int32)) := by
  first | exact h1 | exact h2 | exact h3 | exact h4 | exact h5 | exact h6 | exact h7 | exact h8
theorem own_lo2_1 (d1 : UInt64) (d2 : UInt64) (d3 : UInt64) (d4 : UInt64) (u_minLatitude_a0 : Value) (u_minLongitude_a0 : Value) (u_maxLatitude_a0 : Value) (u_maxLongitude_a0 : Value) (h1 : ¬ ((cmpValue (FP.dcmp d1 (13859405640767635456 : UInt64)) .l) < (0 : Int32))) (h2 : ¬ ((0 : Int32) < (cmpValue (FP.dcmp d1 (4636033603912859648 : UInt64)) .g))) (h3 : ¬ ((cmpValue (FP.dcmp d2 (13863909240395005952 : UInt64)) .l) < (0 : Int32))) (h4 : ¬ ((0 : Int32) < (cmpValue (FP.dcmp d2 (4640537203540230144 : UInt64)) .g))) (h5 : ¬ ((cmpValue (FP.dcmp d3 (13859405640767635456 : UInt64)) .l) < (0 : Int32))) (h6 : ¬ ((0 : Int32) < (cmpValue (FP.dcmp d3 (4636033603912859648 : UInt64)) .g))) (h7 : ¬ ((cmpValue (FP.dcmp d4 (13863909240395005952 : UInt64)) .l) < (0 : Int32))) (h8 : ¬ ((0 : Int32) < (cmpValue (FP.dcmp d4 (4640537203540230144 : UInt64)) .g))) (h9 : ¬ ((0 : Int32) < (cmpValue (FP.dcmp d1 d3) .l))) (h10 : ¬ ((0 : Int32) < (cmpValue (FP.dcmp d2 d4) .l))) : ¬ ((0 : Int32) < (cmpValue (FP.dcmp d2 (4640537203540230144 : UInt64)) .g)) := by
  first | exact h1 | exact h2 | exact h3 | exact h4 | exact h5 | exact h6 | exact h7 | exact h8
theorem own_la1_2 (d1 : UInt64) (d2 : UInt64) (d3 : UInt64) (d4 : UInt64) (u_minLatitude_a0 : Value) (u_minLongitude_a0 : Value) (u_maxLatitude_a0 : Value) (u_maxLongitude_a0 : Value) (h1 : ¬ ((cmpValue (FP.dcmp d1 (13859405640767635456 : UInt64)) .l) < (0 : Int32))) (h2 : ¬ ((0 : Int32) < (cmpValue (FP.dcmp d1 (4636033603912859648 : UInt64)) .g))) (h3 : ¬ ((cmpValue (FP.dcmp d2 (13863909240395005952 : UInt64)) .l) < (0 : Int32))) (h4 : ¬ ((0 : Int32) < (cmpValue (FP.dcmp d2 (4640537203540230144 : UInt64)) .g))) (h5 : ¬ ((cmpValue (FP.dcmp d3 (13859405640767635456 : UInt64)) .l) < (0 : Int32))) (h6 : ¬ ((0 : Int32) < (cmpValue (FP.dcmp d3 (4636033603912859648 : UInt64)) .g))) (h7 : ¬ ((cmpValue (FP.dcmp d4 (13863909240395005952 : UInt64)) .l) < (0 : Int32))) (h8 : ¬ ((0 : Int32) < (cmpValue (FP.dcmp d4 (4640537203540230144 : UInt64)) .g))) (h9 : ¬ ((0 : Int32) < (cmpValue (FP.dcmp d1 d3) .l))) (h10 : ¬ ((0 : Int32) < (cmpValue (FP.dcmp d2 d4) .l))) : ¬ ((cmpValue (FP.dcmp d3 (13859405640767635456 : UInt64)) .l) < (0 : Int32)) := by
  first | exact h1 | exact h2 | exact h3 | exact h4 | exact h5 | exact h6 | exact h7 | exact h8
theorem own_la2_2 (d1 : UInt64) (d2 : UInt64) (d3 : UInt64) (d4 : UInt64) (u_minLatitude_a0 : Value) (u_minLongitude_a0 : Value) (u_maxLatitude_a0 : Value) (u_maxLongitude_a0 : Value) (h1 : ¬ ((cmpValue (FP.dcmp d1 (13859405640767635456 : UInt64)) .l) < (0 : Int32))) (h2 : ¬ ((0 : Int32) < (cmpValue (FP.dcmp d1 (4636033603912859648 : UInt64)) .g))) (h3 : ¬ ((cmpValue (FP.dcmp d2 (13863909240395005952 : UInt64)) .l) < (0 : Int32))) (h4 : ¬ ((0 : Int32) < (cmpValue (FP.dcmp d2 (4640537203540230144 : UInt64)) .g))) (h5 : ¬ ((cmpValue (FP.dcmp d3 (13859405640767635456 : UInt64)) .l) < (0 : Int32))) (h6 : ¬ ((0 : Int32) < (cmpValue (FP.dcmp d3 (4636033603912859648 : UInt64)) .g))) (h7 : ¬ ((cmpValue (FP.dcmp d4 (13863909240395005952 : UInt64)) .l) < (0 : Int32))) (h8 : ¬ ((0 : Int32) < (cmpValue (FP.dcmp d4 (4640537203540230144 : UInt64)) .g))) (h9 : ¬ ((0 : Int32) < (cmpValue (FP.dcmp d1 d3) .l))) (h10 : ¬ ((0 : Int32) < (cmpValue (FP.dcmp d2 d4) .l))) : ¬ ((0 : Int32) < (cmpValue (FP.dcmp d3 (4636033603912859648 : UInt64)) .g)) := by
  first | exact h1 | exact h2 | exact h3 | exact h4 | exact h5 | exact h6 | exact h7 | exact h8
theorem own_lo1_2 (d1 : UInt64) (d2 : UInt64) (d3 : UInt64) (d4 : UInt64) (u_minLatitude_a0 : Value) (u_minLongitude_a0 : Value) (u_maxLatitude_a0 : Value) (u_maxLongitude_a0 : Value) (h1 : ¬ ((cmpValue (FP.dcmp d1 (13859405640767635456 : UInt64)) .l) < (0 : Int32))) (h2 : ¬ ((0 : Int32) < (cmpValue (FP.dcmp d1 (4636033603912859648 : UInt64)) .g))) (h3 : ¬ ((cmpValue (FP.dcmp d2 (13863909240395005952 : UInt64)) .l) < (0 : Int32))) (h4 : ¬ ((0 : Int32) < (cmpValue (FP.dcmp d2 (4640537203540230144 : UInt64)) .g))) (h5 : ¬ ((cmpValue (FP.dcmp d3 (13859405640767635456 : UInt64)) .l) < (0 : Int32))) (h6 : ¬ ((0 : Int32) < (cmpValue (FP.dcmp d3 (4636033603912859648 : UInt64)) .g))) (h7 : ¬ ((cmpValue (FP.dcmp d4 (13863909240395005952 : UInt64)) .l) < (0 : Int32))) (h8 : ¬ ((0 : Int32) < (cmpValue (FP.dcmp d4 (4640537203540230144 : UInt64)) .g))) (h9 : ¬ ((0 : Int32) < (cmpValue (FP.dcmp d1 d3) .l))) (h10 : ¬ ((0 : Int32) < (cmpValue (FP.dcmp d2 d4) .l))) : ¬ ((cmpValue (FP.dcmp d4 (13863909240395005952 : UInt64)) .l) < (0 : Int32)) := by
  first | exact h1 | exact h2 | exact h3 | exact h4 | exact h5 | exact h6 | exact h7 | exact h8
theorem own_lo2_2 (d1 : UInt64) (d2 : UInt64) (d3 : UInt64) (d4 : UInt64) (u_minLatitude_a0 : Value) (u_minLongitude_a0 : Value) (u_maxLatitude_a0 : Value) (u_maxLongitude_a0 : Value) (h1 : ¬ ((cmpValue (FP.dcmp d1 (13859405640767635456 : UInt64)) .l) < (0 : Int32))) (h2 : ¬ ((0 : Int32) < (cmpValue (FP.dcmp d1 (4636033603912859648 : UInt64)) .g))) (h3 : ¬ ((cmpValue (FP.dcmp d2 (13863909240395005952 : UInt64)) .l) < (0 : Int32))) (h4 : ¬ ((0 : Int32) < (cmpValue (FP.dcmp d2 (4640537203540230144 : UInt64)) .g))) (h5 : ¬ ((cmpValue (FP.dcmp d3 (13859405640767635456 : UInt64)) .l) < (0 : Int32))) (h6 : ¬ ((0 : Int32) < (cmpValue (FP.dcmp d3 (4636033603912859648 : UInt64)) .g))) (h7 : ¬ ((cmpValue (FP.dcmp d4 (13863909240395005952 : UInt64)) .l) < (0 : Int32))) (h8 : ¬ ((0 : Int32) < (cmpValue (FP.dcmp d4 (4640537203540230144 : UInt64)) .g))) (h9 : ¬ ((0 : Int32) < (cmpValue (FP.dcmp d1 d3) .l))) (h10 : ¬ ((0 : Int32) < (cmpValue (FP.dcmp d2 d4) .l))) : ¬ ((0 : Int32) < (cmpValue (FP.dcmp d4 (4640537203540230144 : UInt64)) .g)) := by
  first | exact h1 | exact h2 | exact h3 | exact h4 | exact h5 | exact h6 | exact h7 | exact h8
set_option maxRecDepth 65536 in
set_option maxHeartbeats 40000000 in
theorem rm3 (l : Launch) (Z : State) (aw : Array Value) (hw : ∀ d ∈ tables_1, d.before aw Z = true) (ws : List Jvm.Cond) (a0 : Addr) (d1 : UInt64) (d2 : UInt64) (d3 : UInt64) (d4 : UInt64) (u_minLatitude_a0 : Value) (u_minLongitude_a0 : Value) (u_maxLatitude_a0 : Value) (u_maxLongitude_a0 : Value) (h0 : Heap) (n0 : Nat) (Z0 : n0 ≤ h0.size) (h1 : ¬ ((cmpValue (FP.dcmp d1 (13859405640767635456 : UInt64)) .l) < (0 : Int32))) (h2 : ¬ ((0 : Int32) < (cmpValue (FP.dcmp d1 (4636033603912859648 : UInt64)) .g))) (h3 : ¬ ((cmpValue (FP.dcmp d2 (13863909240395005952 : UInt64)) .l) < (0 : Int32))) (h4 : ¬ ((0 : Int32) < (cmpValue (FP.dcmp d2 (4640537203540230144 : UInt64)) .g))) (h5 : ¬ ((cmpValue (FP.dcmp d3 (13859405640767635456 : UInt64)) .l) < (0 : Int32))) (h6 : ¬ ((0 : Int32) < (cmpValue (FP.dcmp d3 (4636033603912859648 : UInt64)) .g))) (h7 : ¬ ((cmpValue (FP.dcmp d4 (13863909240395005952 : UInt64)) .l) < (0 : Int32))) (h8 : ¬ ((0 : Int32) < (cmpValue (FP.dcmp d4 (4640537203540230144 : UInt64)) .g))) (h9 : ¬ ((0 : Int32) < (cmpValue (FP.dcmp d1 d3) .l))) (h10 : ¬ ((0 : Int32) < (cmpValue (FP.dcmp d2 d4) .l))) (E_a0 : Exa Z h0 a0 "com/example/adjacent_moments/adjacentmoments/query/Box") (F_minLatitude_a0 : Fld Z h0 a0 "com/example/adjacent_moments/adjacentmoments/query/Box" "minLatitude" "D" u_minLatitude_a0) (g_a0 : n0 ≤ a0) (F_minLongitude_a0 : Fld Z h0 a0 "com/example/adjacent_moments/adjacentmoments/query/Box" "minLongitude" "D" u_minLongitude_a0) (F_maxLatitude_a0 : Fld Z h0 a0 "com/example/adjacent_moments/adjacentmoments/query/Box" "maxLatitude" "D" u_maxLatitude_a0) (F_maxLongitude_a0 : Fld Z h0 a0 "com/example/adjacent_moments/adjacentmoments/query/Box" "maxLongitude" "D" u_maxLongitude_a0) :
    MetFree l (⟨"com/example/adjacent_moments/adjacentmoments/query/Box", "<init>", "(DDDD)V"⟩ : MethodName) (head1 (Jvm.Cond.code (⟨"com/example/adjacent_moments/adjacentmoments/query/Box", "<init>", "(DDDD)V"⟩ : MethodName) prog_9_method_1_code 9 none :: ws) ({ frames := 2, cells := 0, slots := 0, locals := 24 } : Room)) (fun a U => a = #[(.ref a0), (.double d1), (.double d2), (.double d3), (.double d4)] ∧ Z.Warmed39 U.vm ∧ U.heap = h0) (fun _ _ _ _ _ => True) (fun _ U o U' => ∃ v L, o = .returned v ∧ Q3 Z a0 d1 d2 d3 d4 u_minLatitude_a0 u_minLongitude_a0 u_maxLatitude_a0 u_maxLongitude_a0 h0 n0 v U'.heap L ∧ FrameEnd U o U' L ({ frames := 2, cells := 0, slots := 0, locals := 24 } : Room).cells ({ frames := 2, cells := 0, slots := 0, locals := 24 } : Room).slots) := by
  refine MetFree.of_bodySF (plainFor_of_name pn_1) hisR ?_
  intro p e s m args below meth c s₁ Bd hml0 hP hK
  obtain ⟨rfl, hZ, hh⟩ := hP
  have hx := Bd.exec
  have hby := Bd.bytes
  have hml : c.maxLocals = 9 := hml0
  have hown : s.vm.findClass "com/example/adjacent_moments/adjacentmoments/query/Box" = some m.cls := findClass_of_methodNamed Bd.named
  have hnm := (name_of_methodNamed Bd.named Bd.method).1
  have X0 : Stand p l e ({ frames := 2, cells := 0, slots := 0, locals := 24 } : Room) s m #[(.ref a0), (.double d1), (.double d2), (.double d3), (.double d4)] below meth c s₁ [] 0 0 := Stand.of_body Bd
  have e0 : s₁.heap = h0 := by rw [← hh, Bd.state]; rfl
  have N0 := Fr.nil n0
  have pre0 : ∀ t, Steps p.tables e below (s₁.setTop (mkF m 0 #[.val (.ref a0), .val (.double d1), .second, .val (.double d2), .second, .val (.double d3), .second, .val (.double d4), .second] [])) t → Steps p.tables e below (s₁.setTop (entryFrame m #[(.ref a0), (.double d1), (.double d2), (.double d3), (.double d4)] 9)) t := fun t k => castTop (ef_3 m a0 d1 d2 d3 d4) k
  have pre1 : ∀ t, Steps p.tables e below (s₁.setTop (mkF m 1 #[.val (.ref a0), .val (.double d1), .second, .val (.double d2), .second, .val (.double d3), .second, .val (.double d4), .second] [(.ref a0)])) t → Steps p.tables e below (s₁.setTop (entryFrame m #[(.ref a0), (.double d1), (.double d2), (.double d3), (.double d4)] 9)) t := fun t k => pre0 t (by
    show Steps p.tables e below (s₁.setTop (mkF m 0 #[.val (.ref a0), .val (.double d1), .second, .val (.double d2), .second, .val (.double d3), .second, .val (.double d4), .second] [])) _
    refine XS.aloadN X0.here hx rfl (hb hby d3_0) rfl rfl ?_
    exact k)
  obtain ⟨_, _, ⟨T2, L2, k2, n2⟩, -, X2, ⟨Lc2, hQ2, l2, y2, z2⟩, st2⟩ := X0.specialBack hx (y := (⟨"java/lang/Record", "<init>", "()V"⟩ : MethodName)) rfl hown (mvT hZ (hw _ (List.mem_of_getElem? (i := 15) rfl))) (mvT hZ (hw _ (List.mem_of_getElem? (i := 16) rfl))) (mvT hZ (hw _ (List.mem_of_getElem? (i := 19) rfl))) (by decide) (backOf (W := 0) (rm4 l Z aw hw [] a0 h0 n0 Z0) hZ (hw _ (List.mem_of_getElem? (i := 19) rfl)) (hw _ (List.mem_of_getElem? (i := 18) rfl)) (by decide) (by decide)) (g := (mkF m 1 #[.val (.ref a0), .val (.double d1), .second, .val (.double d2), .second, .val (.double d3), .second, .val (.double d4), .second] [(.ref a0)])) rfl (by rw [hml]; rfl) (Steps.refl _) (a := a0) (argsL := []) (rest := []) (lenOf pd_2 rfl) rfl (by show 2 * 0 + _ ≤ _; exact Nat.le_of_eq rfl) (hb hby d3_1) (fun _ _ => ⟨rfl, e0, (by decide : 0 + 0 ≤ _), (by decide : 0 + 0 ≤ _)⟩)
  dsimp only [Pt.U, Pt.locs, Pt.cells, Pt.slots] at X2 l2 y2 z2 st2 hQ2
  subst l2 y2 z2
  obtain ⟨rfl, N2q, e2⟩ := hQ2
  have N2 := Fr.app N0 N2q
  have pre3 : ∀ t, Steps p.tables e below (T2.setTop (mkF m 5 #[.val (.ref a0), .val (.double d1), .second, .val (.double d2), .second, .val (.double d3), .second, .val (.double d4), .second] [(.double d1)])) t → Steps p.tables e below (s₁.setTop (entryFrame m #[(.ref a0), (.double d1), (.double d2), (.double d3), (.double d4)] 9)) t := fun t k => pre1 t (by
    show Steps p.tables e below (s₁.setTop (mkF m 1 #[.val (.ref a0), .val (.double d1), .second, .val (.double d2), .second, .val (.double d3), .second, .val (.double d4), .second] [(.ref a0)])) _
    refine st2.trans ?_
    show Steps p.tables e below (T2.setTop (mkF m 4 #[.val (.ref a0), .val (.double d1), .second, .val (.double d2), .second, .val (.double d3), .second, .val (.double d4), .second] [])) _
    refine XS.dloadN X2.here hx rfl (hb hby d3_4) rfl ?_
    exact k)
  have kown_la1_1 : ¬ ((cmpValue (FP.dcmp d1 (13859405640767635456 : UInt64)) .l) < (0 : Int32)) := own_la1_1 d1 d2 d3 d4 u_minLatitude_a0 u_minLongitude_a0 u_maxLatitude_a0 u_maxLongitude_a0 h1 h2 h3 h4 h5 h6 h7 h8 h9 h10
  have kown_la2_1 : ¬ ((0 : Int32) < (cmpValue (FP.dcmp d1 (4636033603912859648 : UInt64)) .g)) := own_la2_1 d1 d2 d3 d4 u_minLatitude_a0 u_minLongitude_a0 u_maxLatitude_a0 u_maxLongitude_a0 h1 h2 h3 h4 h5 h6 h7 h8 h9 h10
  obtain ⟨_, _, ⟨T4, L4, k4, n4⟩, -, X4, ⟨Lc4, hQ4, l4, y4, z4⟩, st4⟩ := Jvm.LawKit.callS X2 hx (y := (⟨"com/example/adjacent_moments/adjacentmoments/GeoRecord", "requireLatitude", "(D)V"⟩ : MethodName)) hown (mvT hZ (hw _ (List.mem_of_getElem? (i := 23) rfl))) (mvT hZ (hw _ (List.mem_of_getElem? (i := 24) rfl))) (mvT hZ (hw _ (List.mem_of_getElem? (i := 25) rfl))) (mvT hZ (hw _ (List.mem_of_getElem? (i := 26) rfl))) (by decide) (backOf (W := 0) (rm6 l Z aw hw [] d1 h0 n0 Z0 kown_la1_1 kown_la2_1) hZ (hw _ (List.mem_of_getElem? (i := 26) rfl)) (hw _ (List.mem_of_getElem? (i := 25) rfl)) (by decide) (by decide)) (g := (mkF m 5 #[.val (.ref a0), .val (.double d1), .second, .val (.double d2), .second, .val (.double d3), .second, .val (.double d4), .second] [(.double d1)])) rfl (by rw [hml]; rfl) (argsL := [(.double d1)]) (rest := []) (lenOf pd_3 rfl) rfl (by show 2 * 0 + _ ≤ _; exact Nat.le_of_eq rfl) (hb hby d3_5) (fun _ _ => ⟨rfl, e2, (by decide : 0 + 0 ≤ _), (by decide : 0 + 0 ≤ _)⟩)
  dsimp only [Pt.U, Pt.locs, Pt.cells, Pt.slots] at X4 l4 y4 z4 st4 hQ4
  subst l4 y4 z4
  obtain ⟨rfl, N4q, e4⟩ := hQ4
  have N4 := Fr.app N2 N4q
  have pre5 : ∀ t, Steps p.tables e below (T4.setTop (mkF m 9 #[.val (.ref a0), .val (.double d1), .second, .val (.double d2), .second, .val (.double d3), .second, .val (.double d4), .second] [(.double d2)])) t → Steps p.tables e below (s₁.setTop (entryFrame m #[(.ref a0), (.double d1), (.double d2), (.double d3), (.double d4)] 9)) t := fun t k => pre3 t (by
    show Steps p.tables e below (T2.setTop (mkF m 5 #[.val (.ref a0), .val (.double d1), .second, .val (.double d2), .second, .val (.double d3), .second, .val (.double d4), .second] [(.double d1)])) _
    refine st4 _ ?_
    show Steps p.tables e below (T4.setTop (mkF m 8 #[.val (.ref a0), .val (.double d1), .second, .val (.double d2), .second, .val (.double d3), .second, .val (.double d4), .second] [])) _
    refine XS.dloadN X4.here hx rfl (hb hby d3_8) rfl ?_
    exact k)
  have kown_lo1_1 : ¬ ((cmpValue (FP.dcmp d2 (13863909240395005952 : UInt64)) .l) < (0 : Int32)) := own_lo1_1 d1 d2 d3 d4 u_minLatitude_a0 u_minLongitude_a0 u_maxLatitude_a0 u_maxLongitude_a0 h1 h2 h3 h4 h5 h6 h7 h8 h9 h10
  have kown_lo2_1 : ¬ ((0 : Int32) < (cmpValue (FP.dcmp d2 (4640537203540230144 : UInt64)) .g)) := own_lo2_1 d1 d2 d3 d4 u_minLatitude_a0 u_minLongitude_a0 u_maxLatitude_a0 u_maxLongitude_a0 h1 h2 h3 h4 h5 h6 h7 h8 h9 h10
  obtain ⟨_, _, ⟨T6, L6, k6, n6⟩, -, X6, ⟨Lc6, hQ6, l6, y6, z6⟩, st6⟩ := Jvm.LawKit.callS X4 hx (y := (⟨"com/example/adjacent_moments/adjacentmoments/GeoRecord", "requireLongitude", "(D)V"⟩ : MethodName)) hown (mvT hZ (hw _ (List.mem_of_getElem? (i := 29) rfl))) (mvT hZ (hw _ (List.mem_of_getElem? (i := 30) rfl))) (mvT hZ (hw _ (List.mem_of_getElem? (i := 25) rfl))) (mvT hZ (hw _ (List.mem_of_getElem? (i := 31) rfl))) (by decide) (backOf (W := 0) (rm7 l Z aw hw [] d2 h0 n0 Z0 kown_lo1_1 kown_lo2_1) hZ (hw _ (List.mem_of_getElem? (i := 31) rfl)) (hw _ (List.mem_of_getElem? (i := 25) rfl)) (by decide) (by decide)) (g := (mkF m 9 #[.val (.ref a0), .val (.double d1), .second, .val (.double d2), .second, .val (.double d3), .second, .val (.double d4), .second] [(.double d2)])) rfl (by rw [hml]; rfl) (argsL := [(.double d2)]) (rest := []) (lenOf pd_3 rfl) rfl (by show 2 * 0 + _ ≤ _; exact Nat.le_of_eq rfl) (hb hby d3_9) (fun _ _ => ⟨rfl, e4, (by decide : 0 + 0 ≤ _), (by decide : 0 + 0 ≤ _)⟩)
  dsimp only [Pt.U, Pt.locs, Pt.cells, Pt.slots] at X6 l6 y6 z6 st6 hQ6
  subst l6 y6 z6
  obtain ⟨rfl, N6q, e6⟩ := hQ6
  have N6 := Fr.app N4 N6q
  have pre7 : ∀ t, Steps p.tables e below (T6.setTop (mkF m 14 #[.val (.ref a0), .val (.double d1), .second, .val (.double d2), .second, .val (.double d3), .second, .val (.double d4), .second] [(.double d3)])) t → Steps p.tables e below (s₁.setTop (entryFrame m #[(.ref a0), (.double d1), (.double d2), (.double d3), (.double d4)] 9)) t := fun t k => pre5 t (by
    show Steps p.tables e below (T4.setTop (mkF m 9 #[.val (.ref a0), .val (.double d1), .second, .val (.double d2), .second, .val (.double d3), .second, .val (.double d4), .second] [(.double d2)])) _
    refine st6 _ ?_
    show Steps p.tables e below (T6.setTop (mkF m 12 #[.val (.ref a0), .val (.double d1), .second, .val (.double d2), .second, .val (.double d3), .second, .val (.double d4), .second] [])) _
    refine XS.dload X6.here hx rfl (hb hby d3_12) rfl ?_
    exact k)
  have kown_la1_2 : ¬ ((cmpValue (FP.dcmp d3 (13859405640767635456 : UInt64)) .l) < (0 : Int32)) := own_la1_2 d1 d2 d3 d4 u_minLatitude_a0 u_minLongitude_a0 u_maxLatitude_a0 u_maxLongitude_a0 h1 h2 h3 h4 h5 h6 h7 h8 h9 h10
  have kown_la2_2 : ¬ ((0 : Int32) < (cmpValue (FP.dcmp d3 (4636033603912859648 : UInt64)) .g)) := own_la2_2 d1 d2 d3 d4 u_minLatitude_a0 u_minLongitude_a0 u_maxLatitude_a0 u_maxLongitude_a0 h1 h2 h3 h4 h5 h6 h7 h8 h9 h10
  obtain ⟨_, _, ⟨T8, L8, k8, n8⟩, -, X8, ⟨Lc8, hQ8, l8, y8, z8⟩, st8⟩ := Jvm.LawKit.callS X6 hx (y := (⟨"com/example/adjacent_moments/adjacentmoments/GeoRecord", "requireLatitude", "(D)V"⟩ : MethodName)) hown (mvT hZ (hw _ (List.mem_of_getElem? (i := 23) rfl))) (mvT hZ (hw _ (List.mem_of_getElem? (i := 24) rfl))) (mvT hZ (hw _ (List.mem_of_getElem? (i := 25) rfl))) (mvT hZ (hw _ (List.mem_of_getElem? (i := 26) rfl))) (by decide) (backOf (W := 0) (rm6 l Z aw hw [] d3 h0 n0 Z0 kown_la1_2 kown_la2_2) hZ (hw _ (List.mem_of_getElem? (i := 26) rfl)) (hw _ (List.mem_of_getElem? (i := 25) rfl)) (by decide) (by decide)) (g := (mkF m 14 #[.val (.ref a0), .val (.double d1), .second, .val (.double d2), .second, .val (.double d3), .second, .val (.double d4), .second] [(.double d3)])) rfl (by rw [hml]; rfl) (argsL := [(.double d3)]) (rest := []) (lenOf pd_3 rfl) rfl (by show 2 * 0 + _ ≤ _; exact Nat.le_of_eq rfl) (hb hby d3_14) (fun _ _ => ⟨rfl, e6, (by decide : 0 + 0 ≤ _), (by decide : 0 + 0 ≤ _)⟩)
  dsimp only [Pt.U, Pt.locs, Pt.cells, Pt.slots] at X8 l8 y8 z8 st8 hQ8
  subst l8 y8 z8
  obtain ⟨rfl, N8q, e8⟩ := hQ8
  have N8 := Fr.app N6 N8q
  have pre9 : ∀ t, Steps p.tables e below (T8.setTop (mkF m 19 #[.val (.ref a0), .val (.double d1), .second, .val (.double d2), .second, .val (.double d3), .second, .val (.double d4), .second] [(.double d4)])) t → Steps p.tables e below (s₁.setTop (entryFrame m #[(.ref a0), (.double d1), (.double d2), (.double d3), (.double d4)] 9)) t := fun t k => pre7 t (by
    show Steps p.tables e below (T6.setTop (mkF m 14 #[.val (.ref a0), .val (.double d1), .second, .val (.double d2), .second, .val (.double d3), .second, .val (.double d4), .second] [(.double d3)])) _
    refine st8 _ ?_
    show Steps p.tables e below (T8.setTop (mkF m 17 #[.val (.ref a0), .val (.double d1), .second, .val (.double d2), .second, .val (.double d3), .second, .val (.double d4), .second] [])) _
    refine XS.dload X8.here hx rfl (hb hby d3_17) rfl ?_
    exact k)
  have kown_lo1_2 : ¬ ((cmpValue (FP.dcmp d4 (13863909240395005952 : UInt64)) .l) < (0 : Int32)) := own_lo1_2 d1 d2 d3 d4 u_minLatitude_a0 u_minLongitude_a0 u_maxLatitude_a0 u_maxLongitude_a0 h1 h2 h3 h4 h5 h6 h7 h8 h9 h10
  have kown_lo2_2 : ¬ ((0 : Int32) < (cmpValue (FP.dcmp d4 (4640537203540230144 : UInt64)) .g)) := own_lo2_2 d1 d2 d3 d4 u_minLatitude_a0 u_minLongitude_a0 u_maxLatitude_a0 u_maxLongitude_a0 h1 h2 h3 h4 h5 h6 h7 h8 h9 h10
  obtain ⟨_, _, ⟨T10, L10, k10, n10⟩, -, X10, ⟨Lc10, hQ10, l10, y10, z10⟩, st10⟩ := Jvm.LawKit.callS X8 hx (y := (⟨"com/example/adjacent_moments/adjacentmoments/GeoRecord", "requireLongitude", "(D)V"⟩ : MethodName)) hown (mvT hZ (hw _ (List.mem_of_getElem? (i := 29) rfl))) (mvT hZ (hw _ (List.mem_of_getElem? (i := 30) rfl))) (mvT hZ (hw _ (List.mem_of_getElem? (i := 25) rfl))) (mvT hZ (hw _ (List.mem_of_getElem? (i := 31) rfl))) (by decide) (backOf (W := 0) (rm7 l Z aw hw [] d4 h0 n0 Z0 kown_lo1_2 kown_lo2_2) hZ (hw _ (List.mem_of_getElem? (i := 31) rfl)) (hw _ (List.mem_of_getElem? (i := 25) rfl)) (by decide) (by decide)) (g := (mkF m 19 #[.val (.ref a0), .val (.double d1), .second, .val (.double d2), .second, .val (.double d3), .second, .val (.double d4), .second] [(.double d4)])) rfl (by rw [hml]; rfl) (argsL := [(.double d4)]) (rest := []) (lenOf pd_3 rfl) rfl (by show 2 * 0 + _ ≤ _; exact Nat.le_of_eq rfl) (hb hby d3_19) (fun _ _ => ⟨rfl, e8, (by decide : 0 + 0 ≤ _), (by decide : 0 + 0 ≤ _)⟩)
  dsimp only [Pt.U, Pt.locs, Pt.cells, Pt.slots] at X10 l10 y10 z10 st10 hQ10
  subst l10 y10 z10
  obtain ⟨rfl, N10q, e10⟩ := hQ10
  have N10 := Fr.app N8 N10q
  have pre11 : ∀ t, Steps p.tables e below (T10.setTop (mkF m 70 #[.val (.ref a0), .val (.double d1), .second, .val (.double d2), .second, .val (.double d3), .second, .val (.double d4), .second] [(.double d1), (.ref a0)])) t → Steps p.tables e below (s₁.setTop (entryFrame m #[(.ref a0), (.double d1), (.double d2), (.double d3), (.double d4)] 9)) t := fun t k => pre9 t (by
    show Steps p.tables e below (T8.setTop (mkF m 19 #[.val (.ref a0), .val (.double d1), .second, .val (.double d2), .second, .val (.double d3), .second, .val (.double d4), .second] [(.double d4)])) _
    refine st10 _ ?_
    show Steps p.tables e below (T10.setTop (mkF m 22 #[.val (.ref a0), .val (.double d1), .second, .val (.double d2), .second, .val (.double d3), .second, .val (.double d4), .second] [])) _
    refine XS.dloadN X10.here hx rfl (hb hby d3_22) rfl ?_
    show Steps p.tables e below (T10.setTop (mkF m 23 #[.val (.ref a0), .val (.double d1), .second, .val (.double d2), .second, .val (.double d3), .second, .val (.double d4), .second] [(.double d1)])) _
    refine XS.dload X10.here hx rfl (hb hby d3_23) rfl ?_
    show Steps p.tables e below (T10.setTop (mkF m 25 #[.val (.ref a0), .val (.double d1), .second, .val (.double d2), .second, .val (.double d3), .second, .val (.double d4), .second] [(.double d3), (.double d1)])) _
    refine XS.dcmpS X10.here hx rfl (hb hby d3_25) rfl rfl ?_
    show Steps p.tables e below (T10.setTop (mkF m 26 #[.val (.ref a0), .val (.double d1), .second, .val (.double d2), .second, .val (.double d3), .second, .val (.double d4), .second] [(.int (cmpValue (FP.dcmp d1 d3) .l))])) _
    refine XS.ifYes X10.here hx rfl (pc0 := 26) (pc' := 45) rfl (hb hby d3_26) rfl ((if0 _ _).trans (flt (h9 : ¬ ((0 : Int32) < (cmpValue (FP.dcmp d1 d3) .l)))).2.2.2) (by decide) (by decide) ?_
    show Steps p.tables e below (T10.setTop (mkF m 45 #[.val (.ref a0), .val (.double d1), .second, .val (.double d2), .second, .val (.double d3), .second, .val (.double d4), .second] [])) _
    refine XS.dloadN X10.here hx rfl (hb hby d3_45) rfl ?_
    show Steps p.tables e below (T10.setTop (mkF m 46 #[.val (.ref a0), .val (.double d1), .second, .val (.double d2), .second, .val (.double d3), .second, .val (.double d4), .second] [(.double d2)])) _
    refine XS.dload X10.here hx rfl (hb hby d3_46) rfl ?_
    show Steps p.tables e below (T10.setTop (mkF m 48 #[.val (.ref a0), .val (.double d1), .second, .val (.double d2), .second, .val (.double d3), .second, .val (.double d4), .second] [(.double d4), (.double d2)])) _
    refine XS.dcmpS X10.here hx rfl (hb hby d3_48) rfl rfl ?_
    show Steps p.tables e below (T10.setTop (mkF m 49 #[.val (.ref a0), .val (.double d1), .second, .val (.double d2), .second, .val (.double d3), .second, .val (.double d4), .second] [(.int (cmpValue (FP.dcmp d2 d4) .l))])) _
    refine XS.ifYes X10.here hx rfl (pc0 := 49) (pc' := 68) rfl (hb hby d3_49) rfl ((if0 _ _).trans (flt (h10 : ¬ ((0 : Int32) < (cmpValue (FP.dcmp d2 d4) .l)))).2.2.2) (by decide) (by decide) ?_
    show Steps p.tables e below (T10.setTop (mkF m 68 #[.val (.ref a0), .val (.double d1), .second, .val (.double d2), .second, .val (.double d3), .second, .val (.double d4), .second] [])) _
    refine XS.aloadN X10.here hx rfl (hb hby d3_68) rfl rfl ?_
    show Steps p.tables e below (T10.setTop (mkF m 69 #[.val (.ref a0), .val (.double d1), .second, .val (.double d2), .second, .val (.double d3), .second, .val (.double d4), .second] [(.ref a0)])) _
    refine XS.dloadN X10.here hx rfl (hb hby d3_69) rfl ?_
    exact k)
  obtain ⟨T12, h12, X12, e12, W12, st12⟩ := putF X10 hx hZ hown (host := "") (Or.inl (hw _ (List.mem_of_getElem? (i := 34) rfl))) Via.refl e10 F_minLatitude_a0 E_a0 (Or.inr ⟨(hw _ (List.mem_of_getElem? (i := 35) rfl)), rfl, hnm⟩) (hw _ (List.mem_of_getElem? (i := 9) rfl)) (ty := .double) (by decide) rfl rfl (g := (mkF m 70 #[.val (.ref a0), .val (.double d1), .second, .val (.double d2), .second, .val (.double d3), .second, .val (.double d4), .second] [(.double d1), (.ref a0)])) rfl rfl (hb hby d3_70)
  have E_a0_12 := E_a0.wr W12
  have F_minLatitude_a0_12 := F_minLatitude_a0.same W12
  have F_minLongitude_a0_12 := F_minLongitude_a0.other W12 (Or.inr (slot_ne (Or.inr (hw _ (List.mem_of_getElem? (i := 37) rfl))) (Or.inr (hw _ (List.mem_of_getElem? (i := 35) rfl))) (by decide) (t := .double) (t' := .double) (by decide) (by decide)))
  have F_maxLatitude_a0_12 := F_maxLatitude_a0.other W12 (Or.inr (slot_ne (Or.inr (hw _ (List.mem_of_getElem? (i := 39) rfl))) (Or.inr (hw _ (List.mem_of_getElem? (i := 35) rfl))) (by decide) (t := .double) (t' := .double) (by decide) (by decide)))
  have F_maxLongitude_a0_12 := F_maxLongitude_a0.other W12 (Or.inr (slot_ne (Or.inr (hw _ (List.mem_of_getElem? (i := 41) rfl))) (Or.inr (hw _ (List.mem_of_getElem? (i := 35) rfl))) (by decide) (t := .double) (t' := .double) (by decide) (by decide)))
  have K12 : Keep h0 h12 [a0] := (Keep.refl h0 [a0]).wr W12 (Or.inl (by simp))
  have N12 := Fr.snoc X12 N10 g_a0
  have Z12 : n0 ≤ h12.size := (Nat.le_trans Z0 (Nat.le_of_eq W12.size.symm))
  have pre13 : ∀ t, Steps p.tables e below (T12.setTop (mkF m 75 #[.val (.ref a0), .val (.double d1), .second, .val (.double d2), .second, .val (.double d3), .second, .val (.double d4), .second] [(.double d2), (.ref a0)])) t → Steps p.tables e below (s₁.setTop (entryFrame m #[(.ref a0), (.double d1), (.double d2), (.double d3), (.double d4)] 9)) t := fun t k => pre11 t (by
    show Steps p.tables e below (T10.setTop (mkF m 70 #[.val (.ref a0), .val (.double d1), .second, .val (.double d2), .second, .val (.double d3), .second, .val (.double d4), .second] [(.double d1), (.ref a0)])) _
    refine st12 _ ?_
    show Steps p.tables e below (T12.setTop (mkF m 73 #[.val (.ref a0), .val (.double d1), .second, .val (.double d2), .second, .val (.double d3), .second, .val (.double d4), .second] [])) _
    refine XS.aloadN X12.here hx rfl (hb hby d3_73) rfl rfl ?_
    show Steps p.tables e below (T12.setTop (mkF m 74 #[.val (.ref a0), .val (.double d1), .second, .val (.double d2), .second, .val (.double d3), .second, .val (.double d4), .second] [(.ref a0)])) _
    refine XS.dloadN X12.here hx rfl (hb hby d3_74) rfl ?_
    exact k)
  obtain ⟨T14, h14, X14, e14, W14, st14⟩ := putF X12 hx hZ hown (host := "") (Or.inl (hw _ (List.mem_of_getElem? (i := 36) rfl))) Via.refl e12 F_minLongitude_a0_12 E_a0_12 (Or.inr ⟨(hw _ (List.mem_of_getElem? (i := 37) rfl)), rfl, hnm⟩) (hw _ (List.mem_of_getElem? (i := 9) rfl)) (ty := .double) (by decide) rfl rfl (g := (mkF m 75 #[.val (.ref a0), .val (.double d1), .second, .val (.double d2), .second, .val (.double d3), .second, .val (.double d4), .second] [(.double d2), (.ref a0)])) rfl rfl (hb hby d3_75)
  have E_a0_14 := E_a0_12.wr W14
  have F_minLatitude_a0_14 := F_minLatitude_a0_12.other W14 (Or.inr (slot_ne (Or.inr (hw _ (List.mem_of_getElem? (i := 35) rfl))) (Or.inr (hw _ (List.mem_of_getElem? (i := 37) rfl))) (by decide) (t := .double) (t' := .double) (by decide) (by decide)))
  have F_minLongitude_a0_14 := F_minLongitude_a0_12.same W14
  have F_maxLatitude_a0_14 := F_maxLatitude_a0_12.other W14 (Or.inr (slot_ne (Or.inr (hw _ (List.mem_of_getElem? (i := 39) rfl))) (Or.inr (hw _ (List.mem_of_getElem? (i := 37) rfl))) (by decide) (t := .double) (t' := .double) (by decide) (by decide)))
  have F_maxLongitude_a0_14 := F_maxLongitude_a0_12.other W14 (Or.inr (slot_ne (Or.inr (hw _ (List.mem_of_getElem? (i := 41) rfl))) (Or.inr (hw _ (List.mem_of_getElem? (i := 37) rfl))) (by decide) (t := .double) (t' := .double) (by decide) (by decide)))
  have K14 : Keep h0 h14 [a0] := K12.wr W14 (Or.inl (by simp))
  have N14 := Fr.snoc X14 N12 g_a0
  have Z14 : n0 ≤ h14.size := (Nat.le_trans Z12 (Nat.le_of_eq W14.size.symm))
  have pre15 : ∀ t, Steps p.tables e below (T14.setTop (mkF m 81 #[.val (.ref a0), .val (.double d1), .second, .val (.double d2), .second, .val (.double d3), .second, .val (.double d4), .second] [(.double d3), (.ref a0)])) t → Steps p.tables e below (s₁.setTop (entryFrame m #[(.ref a0), (.double d1), (.double d2), (.double d3), (.double d4)] 9)) t := fun t k => pre13 t (by
    show Steps p.tables e below (T12.setTop (mkF m 75 #[.val (.ref a0), .val (.double d1), .second, .val (.double d2), .second, .val (.double d3), .second, .val (.double d4), .second] [(.double d2), (.ref a0)])) _
    refine st14 _ ?_
    show Steps p.tables e below (T14.setTop (mkF m 78 #[.val (.ref a0), .val (.double d1), .second, .val (.double d2), .second, .val (.double d3), .second, .val (.double d4), .second] [])) _
    refine XS.aloadN X14.here hx rfl (hb hby d3_78) rfl rfl ?_
    show Steps p.tables e below (T14.setTop (mkF m 79 #[.val (.ref a0), .val (.double d1), .second, .val (.double d2), .second, .val (.double d3), .second, .val (.double d4), .second] [(.ref a0)])) _
    refine XS.dload X14.here hx rfl (hb hby d3_79) rfl ?_
    exact k)
  obtain ⟨T16, h16, X16, e16, W16, st16⟩ := putF X14 hx hZ hown (host := "") (Or.inl (hw _ (List.mem_of_getElem? (i := 38) rfl))) Via.refl e14 F_maxLatitude_a0_14 E_a0_14 (Or.inr ⟨(hw _ (List.mem_of_getElem? (i := 39) rfl)), rfl, hnm⟩) (hw _ (List.mem_of_getElem? (i := 9) rfl)) (ty := .double) (by decide) rfl rfl (g := (mkF m 81 #[.val (.ref a0), .val (.double d1), .second, .val (.double d2), .second, .val (.double d3), .second, .val (.double d4), .second] [(.double d3), (.ref a0)])) rfl rfl (hb hby d3_81)
  have E_a0_16 := E_a0_14.wr W16
  have F_minLatitude_a0_16 := F_minLatitude_a0_14.other W16 (Or.inr (slot_ne (Or.inr (hw _ (List.mem_of_getElem? (i := 35) rfl))) (Or.inr (hw _ (List.mem_of_getElem? (i := 39) rfl))) (by decide) (t := .double) (t' := .double) (by decide) (by decide)))
  have F_minLongitude_a0_16 := F_minLongitude_a0_14.other W16 (Or.inr (slot_ne (Or.inr (hw _ (List.mem_of_getElem? (i := 37) rfl))) (Or.inr (hw _ (List.mem_of_getElem? (i := 39) rfl))) (by decide) (t := .double) (t' := .double) (by decide) (by decide)))
  have F_maxLatitude_a0_16 := F_maxLatitude_a0_14.same W16
  have F_maxLongitude_a0_16 := F_maxLongitude_a0_14.other W16 (Or.inr (slot_ne (Or.inr (hw _ (List.mem_of_getElem? (i := 41) rfl))) (Or.inr (hw _ (List.mem_of_getElem? (i := 39) rfl))) (by decide) (t := .double) (t' := .double) (by decide) (by decide)))
  have K16 : Keep h0 h16 [a0] := K14.wr W16 (Or.inl (by simp))
  have N16 := Fr.snoc X16 N14 g_a0
  have Z16 : n0 ≤ h16.size := (Nat.le_trans Z14 (Nat.le_of_eq W16.size.symm))
  have pre17 : ∀ t, Steps p.tables e below (T16.setTop (mkF m 87 #[.val (.ref a0), .val (.double d1), .second, .val (.double d2), .second, .val (.double d3), .second, .val (.double d4), .second] [(.double d4), (.ref a0)])) t → Steps p.tables e below (s₁.setTop (entryFrame m #[(.ref a0), (.double d1), (.double d2), (.double d3), (.double d4)] 9)) t := fun t k => pre15 t (by
    show Steps p.tables e below (T14.setTop (mkF m 81 #[.val (.ref a0), .val (.double d1), .second, .val (.double d2), .second, .val (.double d3), .second, .val (.double d4), .second] [(.double d3), (.ref a0)])) _
    refine st16 _ ?_
    show Steps p.tables e below (T16.setTop (mkF m 84 #[.val (.ref a0), .val (.double d1), .second, .val (.double d2), .second, .val (.double d3), .second, .val (.double d4), .second] [])) _
    refine XS.aloadN X16.here hx rfl (hb hby d3_84) rfl rfl ?_
    show Steps p.tables e below (T16.setTop (mkF m 85 #[.val (.ref a0), .val (.double d1), .second, .val (.double d2), .second, .val (.double d3), .second, .val (.double d4), .second] [(.ref a0)])) _
    refine XS.dload X16.here hx rfl (hb hby d3_85) rfl ?_
    exact k)
  obtain ⟨T18, h18, X18, e18, W18, st18⟩ := putF X16 hx hZ hown (host := "") (Or.inl (hw _ (List.mem_of_getElem? (i := 40) rfl))) Via.refl e16 F_maxLongitude_a0_16 E_a0_16 (Or.inr ⟨(hw _ (List.mem_of_getElem? (i := 41) rfl)), rfl, hnm⟩) (hw _ (List.mem_of_getElem? (i := 9) rfl)) (ty := .double) (by decide) rfl rfl (g := (mkF m 87 #[.val (.ref a0), .val (.double d1), .second, .val (.double d2), .second, .val (.double d3), .second, .val (.double d4), .second] [(.double d4), (.ref a0)])) rfl rfl (hb hby d3_87)
  have E_a0_18 := E_a0_16.wr W18
  have F_minLatitude_a0_18 := F_minLatitude_a0_16.other W18 (Or.inr (slot_ne (Or.inr (hw _ (List.mem_of_getElem? (i := 35) rfl))) (Or.inr (hw _ (List.mem_of_getElem? (i := 41) rfl))) (by decide) (t := .double) (t' := .double) (by decide) (by decide)))
  have F_minLongitude_a0_18 := F_minLongitude_a0_16.other W18 (Or.inr (slot_ne (Or.inr (hw _ (List.mem_of_getElem? (i := 37) rfl))) (Or.inr (hw _ (List.mem_of_getElem? (i := 41) rfl))) (by decide) (t := .double) (t' := .double) (by decide) (by decide)))
  have F_maxLatitude_a0_18 := F_maxLatitude_a0_16.other W18 (Or.inr (slot_ne (Or.inr (hw _ (List.mem_of_getElem? (i := 39) rfl))) (Or.inr (hw _ (List.mem_of_getElem? (i := 41) rfl))) (by decide) (t := .double) (t' := .double) (by decide) (by decide)))
  have F_maxLongitude_a0_18 := F_maxLongitude_a0_16.same W18
  have K18 : Keep h0 h18 [a0] := K16.wr W18 (Or.inl (by simp))
  have N18 := Fr.snoc X18 N16 g_a0
  have Z18 : n0 ≤ h18.size := (Nat.le_trans Z16 (Nat.le_of_eq W18.size.symm))
  obtain ⟨fs, hr, hrun, hended, hW, hsame⟩ := X18.leave (v := none) (fun _ => rfl)
  refine ⟨_, _, pre17 _ ?_, hrun, hended, _, _, rfl, ?_, ⟨_, rfl⟩, hW, hsame.mono (by decide) (by decide)⟩
  · show Steps p.tables e below (T16.setTop (mkF m 87 #[.val (.ref a0), .val (.double d1), .second, .val (.double d2), .second, .val (.double d3), .second, .val (.double d4), .second] [(.double d4), (.ref a0)])) _
    refine st18 _ ?_
    show Steps p.tables e below (T18.setTop (mkF m 90 #[.val (.ref a0), .val (.double d1), .second, .val (.double d2), .second, .val (.double d3), .second, .val (.double d4), .second] [])) _
    exact X18.returnOut hx Bd.returns (hb hby d3_90) hr
  · show Q3 Z a0 d1 d2 d3 d4 u_minLatitude_a0 u_minLongitude_a0 u_maxLatitude_a0 u_maxLongitude_a0 h0 n0 _ T18.heap _
    rw [e18]
    have hF_a0_minLatitude : d1 = f3_a0_minLatitude d1 d2 d3 d4 := (by rfl)
    have hF_a0_minLongitude : d2 = f3_a0_minLongitude d1 d2 d3 d4 := (by rfl)
    have hF_a0_maxLatitude : d3 = f3_a0_maxLatitude d1 d2 d3 d4 := (by rfl)
    have hF_a0_maxLongitude : d4 = f3_a0_maxLongitude d1 d2 d3 d4 := (by rfl)
    exact ⟨rfl, N18, K18, E_a0_18, (hF_a0_minLatitude ▸ F_minLatitude_a0_18), (hF_a0_minLongitude ▸ F_minLongitude_a0_18), (hF_a0_maxLatitude ▸ F_maxLatitude_a0_18), (hF_a0_maxLongitude ▸ F_maxLongitude_a0_18)⟩
theorem d8_0 : decode prog_9_method_2_code 0 = .ok (.dload_n 1, 1) := by decide +kernel
theorem d8_1 : decode prog_9_method_2_code 1 = .ok (.aload_n 0, 1) := by decide +kernel
theorem d8_2 : decode prog_9_method_2_code 2 = .ok (.getfield 26, 3) := by decide +kernel
theorem d8_5 : decode prog_9_method_2_code 5 = .ok (.dcmp .l, 1) := by decide +kernel
theorem d8_6 : decode prog_9_method_2_code 6 = .ok (.ifCond .lt 34, 3) := by decide +kernel
theorem d8_40 : decode prog_9_method_2_code 40 = .ok (.iconst 0, 1) := by decide +kernel
theorem d8_9 : decode prog_9_method_2_code 9 = .ok (.dload_n 1, 1) := by decide +kernel
theorem d8_10 : decode prog_9_method_2_code 10 = .ok (.aload_n 0, 1) := by decide +kernel
theorem d8_11 : decode prog_9_method_2_code 11 = .ok (.getfield 35, 3) := by decide +kernel
theorem d8_14 : decode prog_9_method_2_code 14 = .ok (.dcmp .g, 1) := by decide +kernel
theorem d8_15 : decode prog_9_method_2_code 15 = .ok (.ifCond .gt 25, 3) := by decide +kernel
theorem d8_18 : decode prog_9_method_2_code 18 = .ok (.dload_n 3, 1) := by decide +kernel
theorem d8_19 : decode prog_9_method_2_code 19 = .ok (.aload_n 0, 1) := by decide +kernel
theorem d8_20 : decode prog_9_method_2_code 20 = .ok (.getfield 32, 3) := by decide +kernel
theorem d8_23 : decode prog_9_method_2_code 23 = .ok (.dcmp .l, 1) := by decide +kernel
theorem d8_24 : decode prog_9_method_2_code 24 = .ok (.ifCond .lt 16, 3) := by decide +kernel
theorem d8_27 : decode prog_9_method_2_code 27 = .ok (.dload_n 3, 1) := by decide +kernel
theorem d8_28 : decode prog_9_method_2_code 28 = .ok (.aload_n 0, 1) := by decide +kernel
theorem d8_29 : decode prog_9_method_2_code 29 = .ok (.getfield 38, 3) := by decide +kernel
theorem d8_32 : decode prog_9_method_2_code 32 = .ok (.dcmp .g, 1) := by decide +kernel
theorem d8_33 : decode prog_9_method_2_code 33 = .ok (.ifCond .gt 7, 3) := by decide +kernel
theorem d8_36 : decode prog_9_method_2_code 36 = .ok (.iconst 1, 1) := by decide +kernel
theorem d8_37 : decode prog_9_method_2_code 37 = .ok (.goto 4, 3) := by decide +kernel
theorem ef_8 (m : MethodId) (x0 : Addr) (x1 : UInt64) (x2 : UInt64) : entryFrame m #[(.ref x0), (.double x1), (.double x2)] 5 = mkF m 0 #[.val (.ref x0), .val (.double x1), .second, .val (.double x2), .second] [] := by first | (simp [entryFrame, mkF, argsToLocals, Value.category]; done) | rfl
def f8 (d1 : UInt64) (d2 : UInt64) (w_minLatitude_a0 : UInt64) (w_maxLatitude_a0 : UInt64) (w_minLongitude_a0 : UInt64) (w_maxLongitude_a0 : UInt64) : Int32 := (let j17 : Int32 := (if (cmpValue (FP.dcmp d1 w_minLatitude_a0) .l) < (0 : Int32) then (0 : Int32) else (if (0 : Int32) < (cmpValue (FP.dcmp d1 w_maxLatitude_a0) .g) then (0 : Int32) else (if (cmpValue (FP.dcmp d2 w_minLongitude_a0) .l) < (0 : Int32) then (0 : Int32) else (if (0 : Int32) < (cmpValue (FP.dcmp d2 w_maxLongitude_a0) .g) then (0 : Int32) else (1 : Int32))))); (nar .boolean j17))
def Q8 (Z : State) (a0 : Addr) (d1 : UInt64) (d2 : UInt64) (w_minLatitude_a0 : UInt64) (w_maxLatitude_a0 : UInt64) (w_minLongitude_a0 : UInt64) (w_maxLongitude_a0 : UInt64) (h0 : Heap) (n0 : Nat) (v : Option Value) (h : Heap) (L : List Loc) : Prop := v = some (.int (f8 d1 d2 w_minLatitude_a0 w_maxLatitude_a0 w_minLongitude_a0 w_maxLongitude_a0)) ∧ Fr n0 L ∧ h = h0
theorem d8_41 : decode prog_9_method_2_code 41 = .ok (.ireturn, 1) := by decide +kernel
set_option maxRecDepth 65536 in
set_option maxHeartbeats 40000000 in
theorem rm8 (l : Launch) (Z : State) (aw : Array Value) (hw : ∀ d ∈ tables_1, d.before aw Z = true) (ws : List Jvm.Cond) (a0 : Addr) (d1 : UInt64) (d2 : UInt64) (w_minLatitude_a0 : UInt64) (w_maxLatitude_a0 : UInt64) (w_minLongitude_a0 : UInt64) (w_maxLongitude_a0 : UInt64) (h0 : Heap) (n0 : Nat) (Z0 : n0 ≤ h0.size) (F_minLatitude_a0 : Fld Z h0 a0 "com/example/adjacent_moments/adjacentmoments/query/Box" "minLatitude" "D" (.double w_minLatitude_a0)) (F_maxLatitude_a0 : Fld Z h0 a0 "com/example/adjacent_moments/adjacentmoments/query/Box" "maxLatitude" "D" (.double w_maxLatitude_a0)) (F_minLongitude_a0 : Fld Z h0 a0 "com/example/adjacent_moments/adjacentmoments/query/Box" "minLongitude" "D" (.double w_minLongitude_a0)) (F_maxLongitude_a0 : Fld Z h0 a0 "com/example/adjacent_moments/adjacentmoments/query/Box" "maxLongitude" "D" (.double w_maxLongitude_a0)) :
    MetFree l (⟨"com/example/adjacent_moments/adjacentmoments/query/Box", "contains", "(DD)Z"⟩ : MethodName) (head1 (Jvm.Cond.code (⟨"com/example/adjacent_moments/adjacentmoments/query/Box", "contains", "(DD)Z"⟩ : MethodName) prog_9_method_2_code 5 (some .boolean) :: ws) ({ frames := 0, cells := 0, slots := 0, locals := 0 } : Room)) (fun a U => a = #[(.ref a0), (.double d1), (.double d2)] ∧ Z.Warmed39 U.vm ∧ U.heap = h0) (fun _ _ _ _ _ => True) (fun _ U o U' => ∃ v L, o = .returned v ∧ Q8 Z a0 d1 d2 w_minLatitude_a0 w_maxLatitude_a0 w_minLongitude_a0 w_maxLongitude_a0 h0 n0 v U'.heap L ∧ FrameEnd U o U' L ({ frames := 0, cells := 0, slots := 0, locals := 0 } : Room).cells ({ frames := 0, cells := 0, slots := 0, locals := 0 } : Room).slots) := by
  refine MetFree.of_bodySF (plainFor_of_name pn_1) hisR ?_
  intro p e s m args below meth c s₁ Bd hml0 hP hK
  obtain ⟨rfl, hZ, hh⟩ := hP
  have hx := Bd.exec
  have hby := Bd.bytes
  have hml : c.maxLocals = 5 := hml0
  have hown : s.vm.findClass "com/example/adjacent_moments/adjacentmoments/query/Box" = some m.cls := findClass_of_methodNamed Bd.named
  have hnm := (name_of_methodNamed Bd.named Bd.method).1
  have X0 : Stand p l e ({ frames := 0, cells := 0, slots := 0, locals := 0 } : Room) s m #[(.ref a0), (.double d1), (.double d2)] below meth c s₁ [] 0 0 := Stand.of_body Bd
  have e0 : s₁.heap = h0 := by rw [← hh, Bd.state]; rfl
  have N0 := Fr.nil n0
  have pre0 : ∀ t, Steps p.tables e below (s₁.setTop (mkF m 0 #[.val (.ref a0), .val (.double d1), .second, .val (.double d2), .second] [])) t → Steps p.tables e below (s₁.setTop (entryFrame m #[(.ref a0), (.double d1), (.double d2)] 5)) t := fun t k => castTop (ef_8 m a0 d1 d2) k
  have pre1 : ∀ t, Steps p.tables e below (s₁.setTop (mkF m 2 #[.val (.ref a0), .val (.double d1), .second, .val (.double d2), .second] [(.ref a0), (.double d1)])) t → Steps p.tables e below (s₁.setTop (entryFrame m #[(.ref a0), (.double d1), (.double d2)] 5)) t := fun t k => pre0 t (by
    show Steps p.tables e below (s₁.setTop (mkF m 0 #[.val (.ref a0), .val (.double d1), .second, .val (.double d2), .second] [])) _
    refine XS.dloadN X0.here hx rfl (hb hby d8_0) rfl ?_
    show Steps p.tables e below (s₁.setTop (mkF m 1 #[.val (.ref a0), .val (.double d1), .second, .val (.double d2), .second] [(.double d1)])) _
    refine XS.aloadN X0.here hx rfl (hb hby d8_1) rfl rfl ?_
    exact k)
  obtain ⟨T2, X2, e2, st2⟩ := getF X0 hx hZ hown (host := "") (Or.inl (hw _ (List.mem_of_getElem? (i := 34) rfl))) Via.refl e0 F_minLatitude_a0 (g := (mkF m 2 #[.val (.ref a0), .val (.double d1), .second, .val (.double d2), .second] [(.ref a0), (.double d1)])) rfl rfl (hb hby d8_2)
  have pre3 : ∀ t, Steps p.tables e below (T2.setTop (mkF m 6 #[.val (.ref a0), .val (.double d1), .second, .val (.double d2), .second] [(.int (cmpValue (FP.dcmp d1 w_minLatitude_a0) .l))])) t → Steps p.tables e below (s₁.setTop (entryFrame m #[(.ref a0), (.double d1), (.double d2)] 5)) t := fun t k => pre1 t (by
    show Steps p.tables e below (s₁.setTop (mkF m 2 #[.val (.ref a0), .val (.double d1), .second, .val (.double d2), .second] [(.ref a0), (.double d1)])) _
    refine st2 _ ?_
    show Steps p.tables e below (T2.setTop (mkF m 5 #[.val (.ref a0), .val (.double d1), .second, .val (.double d2), .second] [(.double w_minLatitude_a0), (.double d1)])) _
    refine XS.dcmpS X2.here hx rfl (hb hby d8_5) rfl rfl ?_
    exact k)
  obtain ⟨T19, LjT19, j17, X19, N19, e19, hj17, pre18⟩ : ∃ (T19 : State) (LjT19 : List Loc) (j17 : Int32), Stand p l e ({ frames := 0, cells := 0, slots := 0, locals := 0 } : Room) s m #[(.ref a0), (.double d1), (.double d2)] below meth c T19 LjT19 0 0 ∧ Fr n0 LjT19 ∧ T19.heap = h0 ∧ j17 = (if (cmpValue (FP.dcmp d1 w_minLatitude_a0) .l) < (0 : Int32) then (0 : Int32) else (if (0 : Int32) < (cmpValue (FP.dcmp d1 w_maxLatitude_a0) .g) then (0 : Int32) else (if (cmpValue (FP.dcmp d2 w_minLongitude_a0) .l) < (0 : Int32) then (0 : Int32) else (if (0 : Int32) < (cmpValue (FP.dcmp d2 w_maxLongitude_a0) .g) then (0 : Int32) else (1 : Int32))))) ∧ ∀ t, Steps p.tables e below (T19.setTop (mkF m 41 #[.val (.ref a0), .val (.double d1), .second, .val (.double d2), .second] [(.int j17)])) t → Steps p.tables e below (s₁.setTop (entryFrame m #[(.ref a0), (.double d1), (.double d2)] 5)) t := by
    by_cases hc4 : (cmpValue (FP.dcmp d1 w_minLatitude_a0) .l) < (0 : Int32)
    · exact ⟨_, _, (0 : Int32), X2, N0, e2, (by rw [if_pos hc4]), fun t k => pre3 t (by
        show Steps p.tables e below (T2.setTop (mkF m 6 #[.val (.ref a0), .val (.double d1), .second, .val (.double d2), .second] [(.int (cmpValue (FP.dcmp d1 w_minLatitude_a0) .l))])) _
        refine XS.ifYes X2.here hx rfl (pc0 := 6) (pc' := 40) rfl (hb hby d8_6) rfl ((if0 _ _).trans (tlt hc4).1) (by decide) (by decide) ?_
        show Steps p.tables e below (T2.setTop (mkF m 40 #[.val (.ref a0), .val (.double d1), .second, .val (.double d2), .second] [])) _
        refine XS.iconst X2.here hx rfl (hb hby d8_40) ?_
        exact k)⟩
    · have pre5 : ∀ t, Steps p.tables e below (T2.setTop (mkF m 11 #[.val (.ref a0), .val (.double d1), .second, .val (.double d2), .second] [(.ref a0), (.double d1)])) t → Steps p.tables e below (s₁.setTop (entryFrame m #[(.ref a0), (.double d1), (.double d2)] 5)) t := fun t k => pre3 t (by
        show Steps p.tables e below (T2.setTop (mkF m 6 #[.val (.ref a0), .val (.double d1), .second, .val (.double d2), .second] [(.int (cmpValue (FP.dcmp d1 w_minLatitude_a0) .l))])) _
        refine XS.ifNo X2.here hx rfl (hb hby d8_6) rfl ((if0 _ _).trans (flt hc4).1) ?_
        show Steps p.tables e below (T2.setTop (mkF m 9 #[.val (.ref a0), .val (.double d1), .second, .val (.double d2), .second] [])) _
        refine XS.dloadN X2.here hx rfl (hb hby d8_9) rfl ?_
        show Steps p.tables e below (T2.setTop (mkF m 10 #[.val (.ref a0), .val (.double d1), .second, .val (.double d2), .second] [(.double d1)])) _
        refine XS.aloadN X2.here hx rfl (hb hby d8_10) rfl rfl ?_
        exact k)
      obtain ⟨T6, X6, e6, st6⟩ := getF X2 hx hZ hown (host := "") (Or.inl (hw _ (List.mem_of_getElem? (i := 38) rfl))) Via.refl e2 F_maxLatitude_a0 (g := (mkF m 11 #[.val (.ref a0), .val (.double d1), .second, .val (.double d2), .second] [(.ref a0), (.double d1)])) rfl rfl (hb hby d8_11)
      have pre7 : ∀ t, Steps p.tables e below (T6.setTop (mkF m 15 #[.val (.ref a0), .val (.double d1), .second, .val (.double d2), .second] [(.int (cmpValue (FP.dcmp d1 w_maxLatitude_a0) .g))])) t → Steps p.tables e below (s₁.setTop (entryFrame m #[(.ref a0), (.double d1), (.double d2)] 5)) t := fun t k => pre5 t (by
        show Steps p.tables e below (T2.setTop (mkF m 11 #[.val (.ref a0), .val (.double d1), .second, .val (.double d2), .second] [(.ref a0), (.double d1)])) _
        refine st6 _ ?_
        show Steps p.tables e below (T6.setTop (mkF m 14 #[.val (.ref a0), .val (.double d1), .second, .val (.double d2), .second] [(.double w_maxLatitude_a0), (.double d1)])) _
        refine XS.dcmpS X6.here hx rfl (hb hby d8_14) rfl rfl ?_
        exact k)
      by_cases hc8 : (0 : Int32) < (cmpValue (FP.dcmp d1 w_maxLatitude_a0) .g)
      · exact ⟨_, _, (0 : Int32), X6, N0, e6, (by rw [if_neg hc4, if_pos hc8]), fun t k => pre7 t (by
          show Steps p.tables e below (T6.setTop (mkF m 15 #[.val (.ref a0), .val (.double d1), .second, .val (.double d2), .second] [(.int (cmpValue (FP.dcmp d1 w_maxLatitude_a0) .g))])) _
          refine XS.ifYes X6.here hx rfl (pc0 := 15) (pc' := 40) rfl (hb hby d8_15) rfl ((if0 _ _).trans (tlt hc8).2.2.1) (by decide) (by decide) ?_
          show Steps p.tables e below (T6.setTop (mkF m 40 #[.val (.ref a0), .val (.double d1), .second, .val (.double d2), .second] [])) _
          refine XS.iconst X6.here hx rfl (hb hby d8_40) ?_
          exact k)⟩
      · have pre9 : ∀ t, Steps p.tables e below (T6.setTop (mkF m 20 #[.val (.ref a0), .val (.double d1), .second, .val (.double d2), .second] [(.ref a0), (.double d2)])) t → Steps p.tables e below (s₁.setTop (entryFrame m #[(.ref a0), (.double d1), (.double d2)] 5)) t := fun t k => pre7 t (by
          show Steps p.tables e below (T6.setTop (mkF m 15 #[.val (.ref a0), .val (.double d1), .second, .val (.double d2), .second] [(.int (cmpValue (FP.dcmp d1 w_maxLatitude_a0) .g))])) _
          refine XS.ifNo X6.here hx rfl (hb hby d8_15) rfl ((if0 _ _).trans (flt hc8).2.2.1) ?_
          show Steps p.tables e below (T6.setTop (mkF m 18 #[.val (.ref a0), .val (.double d1), .second, .val (.double d2), .second] [])) _
          refine XS.dloadN X6.here hx rfl (hb hby d8_18) rfl ?_
          show Steps p.tables e below (T6.setTop (mkF m 19 #[.val (.ref a0), .val (.double d1), .second, .val (.double d2), .second] [(.double d2)])) _
          refine XS.aloadN X6.here hx rfl (hb hby d8_19) rfl rfl ?_
          exact k)
        obtain ⟨T10, X10, e10, st10⟩ := getF X6 hx hZ hown (host := "") (Or.inl (hw _ (List.mem_of_getElem? (i := 36) rfl))) Via.refl e6 F_minLongitude_a0 (g := (mkF m 20 #[.val (.ref a0), .val (.double d1), .second, .val (.double d2), .second] [(.ref a0), (.double d2)])) rfl rfl (hb hby d8_20)
        have pre11 : ∀ t, Steps p.tables e below (T10.setTop (mkF m 24 #[.val (.ref a0), .val (.double d1), .second, .val (.double d2), .second] [(.int (cmpValue (FP.dcmp d2 w_minLongitude_a0) .l))])) t → Steps p.tables e below (s₁.setTop (entryFrame m #[(.ref a0), (.double d1), (.double d2)] 5)) t := fun t k => pre9 t (by
          show Steps p.tables e below (T6.setTop (mkF m 20 #[.val (.ref a0), .val (.double d1), .second, .val (.double d2), .second] [(.ref a0), (.double d2)])) _
          refine st10 _ ?_
          show Steps p.tables e below (T10.setTop (mkF m 23 #[.val (.ref a0), .val (.double d1), .second, .val (.double d2), .second] [(.double w_minLongitude_a0), (.double d2)])) _
          refine XS.dcmpS X10.here hx rfl (hb hby d8_23) rfl rfl ?_
          exact k)
        by_cases hc12 : (cmpValue (FP.dcmp d2 w_minLongitude_a0) .l) < (0 : Int32)
        · exact ⟨_, _, (0 : Int32), X10, N0, e10, (by rw [if_neg hc4, if_neg hc8, if_pos hc12]), fun t k => pre11 t (by
            show Steps p.tables e below (T10.setTop (mkF m 24 #[.val (.ref a0), .val (.double d1), .second, .val (.double d2), .second] [(.int (cmpValue (FP.dcmp d2 w_minLongitude_a0) .l))])) _
            refine XS.ifYes X10.here hx rfl (pc0 := 24) (pc' := 40) rfl (hb hby d8_24) rfl ((if0 _ _).trans (tlt hc12).1) (by decide) (by decide) ?_
            show Steps p.tables e below (T10.setTop (mkF m 40 #[.val (.ref a0), .val (.double d1), .second, .val (.double d2), .second] [])) _
            refine XS.iconst X10.here hx rfl (hb hby d8_40) ?_
            exact k)⟩
        · have pre13 : ∀ t, Steps p.tables e below (T10.setTop (mkF m 29 #[.val (.ref a0), .val (.double d1), .second, .val (.double d2), .second] [(.ref a0), (.double d2)])) t → Steps p.tables e below (s₁.setTop (entryFrame m #[(.ref a0), (.double d1), (.double d2)] 5)) t := fun t k => pre11 t (by
            show Steps p.tables e below (T10.setTop (mkF m 24 #[.val (.ref a0), .val (.double d1), .second, .val (.double d2), .second] [(.int (cmpValue (FP.dcmp d2 w_minLongitude_a0) .l))])) _
            refine XS.ifNo X10.here hx rfl (hb hby d8_24) rfl ((if0 _ _).trans (flt hc12).1) ?_
            show Steps p.tables e below (T10.setTop (mkF m 27 #[.val (.ref a0), .val (.double d1), .second, .val (.double d2), .second] [])) _
            refine XS.dloadN X10.here hx rfl (hb hby d8_27) rfl ?_
            show Steps p.tables e below (T10.setTop (mkF m 28 #[.val (.ref a0), .val (.double d1), .second, .val (.double d2), .second] [(.double d2)])) _
            refine XS.aloadN X10.here hx rfl (hb hby d8_28) rfl rfl ?_
            exact k)
          obtain ⟨T14, X14, e14, st14⟩ := getF X10 hx hZ hown (host := "") (Or.inl (hw _ (List.mem_of_getElem? (i := 40) rfl))) Via.refl e10 F_maxLongitude_a0 (g := (mkF m 29 #[.val (.ref a0), .val (.double d1), .second, .val (.double d2), .second] [(.ref a0), (.double d2)])) rfl rfl (hb hby d8_29)
          have pre15 : ∀ t, Steps p.tables e below (T14.setTop (mkF m 33 #[.val (.ref a0), .val (.double d1), .second, .val (.double d2), .second] [(.int (cmpValue (FP.dcmp d2 w_maxLongitude_a0) .g))])) t → Steps p.tables e below (s₁.setTop (entryFrame m #[(.ref a0), (.double d1), (.double d2)] 5)) t := fun t k => pre13 t (by
            show Steps p.tables e below (T10.setTop (mkF m 29 #[.val (.ref a0), .val (.double d1), .second, .val (.double d2), .second] [(.ref a0), (.double d2)])) _
            refine st14 _ ?_
            show Steps p.tables e below (T14.setTop (mkF m 32 #[.val (.ref a0), .val (.double d1), .second, .val (.double d2), .second] [(.double w_maxLongitude_a0), (.double d2)])) _
            refine XS.dcmpS X14.here hx rfl (hb hby d8_32) rfl rfl ?_
            exact k)
          by_cases hc16 : (0 : Int32) < (cmpValue (FP.dcmp d2 w_maxLongitude_a0) .g)
          · exact ⟨_, _, (0 : Int32), X14, N0, e14, (by rw [if_neg hc4, if_neg hc8, if_neg hc12, if_pos hc16]), fun t k => pre15 t (by
              show Steps p.tables e below (T14.setTop (mkF m 33 #[.val (.ref a0), .val (.double d1), .second, .val (.double d2), .second] [(.int (cmpValue (FP.dcmp d2 w_maxLongitude_a0) .g))])) _
              refine XS.ifYes X14.here hx rfl (pc0 := 33) (pc' := 40) rfl (hb hby d8_33) rfl ((if0 _ _).trans (tlt hc16).2.2.1) (by decide) (by decide) ?_
              show Steps p.tables e below (T14.setTop (mkF m 40 #[.val (.ref a0), .val (.double d1), .second, .val (.double d2), .second] [])) _
              refine XS.iconst X14.here hx rfl (hb hby d8_40) ?_
              exact k)⟩
          · exact ⟨_, _, (1 : Int32), X14, N0, e14, (by rw [if_neg hc4, if_neg hc8, if_neg hc12, if_neg hc16]), fun t k => pre15 t (by
              show Steps p.tables e below (T14.setTop (mkF m 33 #[.val (.ref a0), .val (.double d1), .second, .val (.double d2), .second] [(.int (cmpValue (FP.dcmp d2 w_maxLongitude_a0) .g))])) _
              refine XS.ifNo X14.here hx rfl (hb hby d8_33) rfl ((if0 _ _).trans (flt hc16).2.2.1) ?_
              show Steps p.tables e below (T14.setTop (mkF m 36 #[.val (.ref a0), .val (.double d1), .second, .val (.double d2), .second] [])) _
              refine XS.iconst X14.here hx rfl (hb hby d8_36) ?_
              show Steps p.tables e below (T14.setTop (mkF m 37 #[.val (.ref a0), .val (.double d1), .second, .val (.double d2), .second] [(.int (1 : Int32))])) _
              refine XS.goto X14.here hx rfl (pc0 := 37) (pc' := 41) rfl (hb hby d8_37) (by decide) (by decide) ?_
              exact k)⟩
  obtain ⟨fs, hr, hrun, hended, hW, hsame⟩ := X19.leave (v := some (.int (nar .boolean j17))) (fun h => by rw [Bd.returns] at h; cases h)
  refine ⟨_, _, pre18 _ ?_, hrun, hended, _, _, rfl, ?_, ⟨_, rfl⟩, hW, hsame.mono (by decide) (by decide)⟩
  · show Steps p.tables e below (T19.setTop (mkF m 41 #[.val (.ref a0), .val (.double d1), .second, .val (.double d2), .second] [(.int j17)])) _
    exact retN X19 hx (t := .boolean) Bd.returns (by simp) (hb hby d8_41) hr
  · show Q8 Z a0 d1 d2 w_minLatitude_a0 w_maxLatitude_a0 w_minLongitude_a0 w_maxLongitude_a0 h0 n0 _ T19.heap _
    rw [e19]
    exact ⟨congrArg (fun z => some (Value.int z)) (by subst hj17; rfl), N19, rfl⟩
theorem own_r (p m h : Int32) (M H : Int) (hm : m.toInt = M) (hh : h.toInt = H) (h1 : 0 < M) (h2 : M ≤ 5000) (h3 : 0 ≤ H) (h4 : H ≤ 5000) : -H ≤ (((p &&& (2147483647 : Int32)) % m) - h).toInt ∧ (((p &&& (2147483647 : Int32)) % m) - h).toInt ≤ M - 1 - H := by
  have m0 := c_mask p 2147483647 31 (by decide) (by decide)
  have k : ((2 ^ 31 : Nat) : Int) = 2147483648 := by decide
  rw [k] at m0
  have x0 : 0 ≤ (p &&& (2147483647 : Int32)).toInt := by omega
  clear m0 k
  generalize (p &&& (2147483647 : Int32)) = x at *
  obtain ⟨u1, u2, -⟩ := (c_iremV x m).1 x0 (by omega)
  generalize x % m = y at *
  have s := c_isub y h
  have r := rng32 (y - h)
  omega
theorem own_mm (a b : Int32) (L U : Int) (a1 : L ≤ a.toInt) (a2 : a.toInt ≤ U) (b1 : L ≤ b.toInt) (b2 : b.toInt ≤ U) : L ≤ (f1 a b).toInt ∧ (f1 a b).toInt ≤ (f2 a b).toInt ∧ (f2 a b).toInt ≤ U := by
  show L ≤ (if b < a then b else a).toInt ∧ (if b < a then b else a).toInt ≤ (if a < b then b else a).toInt ∧ (if a < b then b else a).toInt ≤ U
  simp only [Int32.lt_iff_toInt_lt]
  repeat' split
  all_goals omega
theorem own_bnd (p0 p1 p2 p3 p4 p5 : Int32) (v2 : Int32) (hv2 : v2 = (((p0 &&& (2147483647 : Int32)) % (721 : Int32)) - (360 : Int32))) (v5 : Int32) (hv5 : v5 = (((p1 &&& (2147483647 : Int32)) % (721 : Int32)) - (360 : Int32))) (v8 : Int32) (hv8 : v8 = (((p2 &&& (2147483647 : Int32)) % (1441 : Int32)) - (720 : Int32))) (v11 : Int32) (hv11 : v11 = (((p3 &&& (2147483647 : Int32)) % (1441 : Int32)) - (720 : Int32))) (v14 : Int32) (hv14 : v14 = (((p4 &&& (2147483647 : Int32)) % (801 : Int32)) - (400 : Int32))) (v17 : Int32) (hv17 : v17 = (((p5 &&& (2147483647 : Int32)) % (1601 : Int32)) - (800 : Int32))) (v22 : Int32) (hv22 : v22 = (f1 v2 v5)) (v27 : Int32) (hv27 : v27 = (f2 v2 v5)) (v32 : Int32) (hv32 : v32 = (f1 v8 v11)) (v37 : Int32) (hv37 : v37 = (f2 v8 v11)) :
    (-360 ≤ v22.toInt ∧ v22.toInt ≤ v27.toInt ∧ v27.toInt ≤ 360) ∧ (-720 ≤ v32.toInt ∧ v32.toInt ≤ v37.toInt ∧ v37.toInt ≤ 720) ∧ (-400 ≤ v14.toInt ∧ v14.toInt ≤ 400) ∧ (-800 ≤ v17.toInt ∧ v17.toInt ≤ 800) := by
  have c2 := own_r p0 721 360 721 360 (by decide) (by decide) (by decide) (by decide) (by decide) (by decide)
  have c5 := own_r p1 721 360 721 360 (by decide) (by decide) (by decide) (by decide) (by decide) (by decide)
  have c8 := own_r p2 1441 720 1441 720 (by decide) (by decide) (by decide) (by decide) (by decide) (by decide)
  have c11 := own_r p3 1441 720 1441 720 (by decide) (by decide) (by decide) (by decide) (by decide) (by decide)
  have c14 := own_r p4 801 400 801 400 (by decide) (by decide) (by decide) (by decide) (by decide) (by decide)
  have c17 := own_r p5 1601 800 1601 800 (by decide) (by decide) (by decide) (by decide) (by decide) (by decide)
  rw [← hv2] at c2
  rw [← hv5] at c5
  rw [← hv8] at c8
  rw [← hv11] at c11
  rw [← hv14] at c14
  rw [← hv17] at c17
  have d1 := own_mm v2 v5 (-360) 360 (by omega) (by omega) (by omega) (by omega)
  have d2 := own_mm v8 v11 (-720) 720 (by omega) (by omega) (by omega) (by omega)
  rw [← hv22, ← hv27] at d1
  rw [← hv32, ← hv37] at d2
  exact ⟨d1, d2, ⟨by omega, by omega⟩, ⟨by omega, by omega⟩⟩
theorem pn_2 : plainName "com/example/adjacent_moments/adjacentmoments/query/BoxContainsPinLaw" = true := by first | (simp [plainName, overriddenIn]; done) | decide +kernel
theorem pd_0 : parseMethodDescriptor "(II)I" = some ⟨[.int, .int], some .int⟩ := by decide +kernel
theorem pd_1 : parseMethodDescriptor "(DDDD)V" = some ⟨[.double, .double, .double, .double], none⟩ := by decide +kernel
theorem pd_4 : parseMethodDescriptor "(DD)Z" = some ⟨[.double, .double], some .boolean⟩ := by decide +kernel
theorem ef_0 (m : MethodId) (x0 : Int32) (x1 : Int32) (x2 : Int32) (x3 : Int32) (x4 : Int32) (x5 : Int32) : entryFrame m #[(.int x0), (.int x1), (.int x2), (.int x3), (.int x4), (.int x5)] maxLocals = mkF m 0 #[.val (.int x0), .val (.int x1), .val (.int x2), .val (.int x3), .val (.int x4), .val (.int x5), .unset, .unset, .unset, .unset, .unset, .unset, .unset, .unset, .unset, .unset, .unset, .unset, .unset, .unset, .unset] [] := by first | (simp [entryFrame, mkF, argsToLocals, Value.category, maxLocals]; done) | rfl
def f0 (p0 : Int32) (p1 : Int32) (p2 : Int32) (p3 : Int32) (p4 : Int32) (p5 : Int32) : Int32 := (let v2 : Int32 := (((p0 &&& (2147483647 : Int32)) % (721 : Int32)) - (360 : Int32)); (let v5 : Int32 := (((p1 &&& (2147483647 : Int32)) % (721 : Int32)) - (360 : Int32)); (let v8 : Int32 := (((p2 &&& (2147483647 : Int32)) % (1441 : Int32)) - (720 : Int32)); (let v11 : Int32 := (((p3 &&& (2147483647 : Int32)) % (1441 : Int32)) - (720 : Int32)); (let v14 : Int32 := (((p4 &&& (2147483647 : Int32)) % (801 : Int32)) - (400 : Int32)); (let v17 : Int32 := (((p5 &&& (2147483647 : Int32)) % (1601 : Int32)) - (800 : Int32)); (let v22 : Int32 := (f1 v2 v5); (let v27 : Int32 := (f2 v2 v5); (let v32 : Int32 := (f1 v8 v11); (let v37 : Int32 := (f2 v8 v11); (let v46 : Int32 := (f8 (FP.ddiv (FP.i2d v14) (4616189618054758400 : UInt64)) (FP.ddiv (FP.i2d v17) (4616189618054758400 : UInt64)) (FP.ddiv (FP.i2d v22) (4616189618054758400 : UInt64)) (FP.ddiv (FP.i2d v27) (4616189618054758400 : UInt64)) (FP.ddiv (FP.i2d v32) (4616189618054758400 : UInt64)) (FP.ddiv (FP.i2d v37) (4616189618054758400 : UInt64))); (let j52 : Int32 := (if v14 < v22 then (0 : Int32) else (if v27 < v14 then (0 : Int32) else (1 : Int32))); (let j58 : Int32 := (if v17 < v32 then (0 : Int32) else (if v37 < v17 then (0 : Int32) else (1 : Int32))); (let j64 : Int32 := (if j52 = (0 : Int32) then (0 : Int32) else (if j58 = (0 : Int32) then (0 : Int32) else (1 : Int32))); (let j68 : Int32 := (if v46 = j64 then (1 : Int32) else (0 : Int32)); (nar .boolean j68))))))))))))))))
def Q0 (Z : State) (p0 : Int32) (p1 : Int32) (p2 : Int32) (p3 : Int32) (p4 : Int32) (p5 : Int32) (h0 : Heap) (n0 : Nat) (v : Option Value) (h : Heap) (L : List Loc) : Prop := v = some (.int (1 : Int32)) ∧ Fr n0 L
theorem own_nn0_132 (p0 : Int32) (p1 : Int32) (p2 : Int32) (p3 : Int32) (p4 : Int32) (p5 : Int32) (v2 : Int32) (hv2 : v2 = (((p0 &&& (2147483647 : Int32)) % (721 : Int32)) - (360 : Int32))) (v5 : Int32) (hv5 : v5 = (((p1 &&& (2147483647 : Int32)) % (721 : Int32)) - (360 : Int32))) (v8 : Int32) (hv8 : v8 = (((p2 &&& (2147483647 : Int32)) % (1441 : Int32)) - (720 : Int32))) (v11 : Int32) (hv11 : v11 = (((p3 &&& (2147483647 : Int32)) % (1441 : Int32)) - (720 : Int32))) (v14 : Int32) (hv14 : v14 = (((p4 &&& (2147483647 : Int32)) % (801 : Int32)) - (400 : Int32))) (v17 : Int32) (hv17 : v17 = (((p5 &&& (2147483647 : Int32)) % (1601 : Int32)) - (800 : Int32))) (v22 : Int32) (hv22 : v22 = (f1 v2 v5)) (v27 : Int32) (hv27 : v27 = (f2 v2 v5)) (v32 : Int32) (hv32 : v32 = (f1 v8 v11)) (v37 : Int32) (hv37 : v37 = (f2 v8 v11)) : Jvm.Free.Fl.NoNaN64 (FP.ddiv (FP.i2d v22) (4616189618054758400 : UInt64)) := by
  obtain ⟨⟨a1, a2, a3⟩, ⟨b1, b2, b3⟩, ⟨c1, c2⟩, ⟨d1, d2⟩⟩ := own_bnd p0 p1 p2 p3 p4 p5 v2 hv2 v5 hv5 v8 hv8 v11 hv11 v14 hv14 v17 hv17 v22 hv22 v27 hv27 v32 hv32 v37 hv37
  exact own_nn v22.toInt (by omega) (by omega)
theorem own_nn0_139 (p0 : Int32) (p1 : Int32) (p2 : Int32) (p3 : Int32) (p4 : Int32) (p5 : Int32) (v2 : Int32) (hv2 : v2 = (((p0 &&& (2147483647 : Int32)) % (721 : Int32)) - (360 : Int32))) (v5 : Int32) (hv5 : v5 = (((p1 &&& (2147483647 : Int32)) % (721 : Int32)) - (360 : Int32))) (v8 : Int32) (hv8 : v8 = (((p2 &&& (2147483647 : Int32)) % (1441 : Int32)) - (720 : Int32))) (v11 : Int32) (hv11 : v11 = (((p3 &&& (2147483647 : Int32)) % (1441 : Int32)) - (720 : Int32))) (v14 : Int32) (hv14 : v14 = (((p4 &&& (2147483647 : Int32)) % (801 : Int32)) - (400 : Int32))) (v17 : Int32) (hv17 : v17 = (((p5 &&& (2147483647 : Int32)) % (1601 : Int32)) - (800 : Int32))) (v22 : Int32) (hv22 : v22 = (f1 v2 v5)) (v27 : Int32) (hv27 : v27 = (f2 v2 v5)) (v32 : Int32) (hv32 : v32 = (f1 v8 v11)) (v37 : Int32) (hv37 : v37 = (f2 v8 v11)) : Jvm.Free.Fl.NoNaN64 (FP.ddiv (FP.i2d v32) (4616189618054758400 : UInt64)) := by
  obtain ⟨⟨a1, a2, a3⟩, ⟨b1, b2, b3⟩, ⟨c1, c2⟩, ⟨d1, d2⟩⟩ := own_bnd p0 p1 p2 p3 p4 p5 v2 hv2 v5 hv5 v8 hv8 v11 hv11 v14 hv14 v17 hv17 v22 hv22 v27 hv27 v32 hv32 v37 hv37
  exact own_nn v32.toInt (by omega) (by omega)
theorem own_nn0_146 (p0 : Int32) (p1 : Int32) (p2 : Int32) (p3 : Int32) (p4 : Int32) (p5 : Int32) (v2 : Int32) (hv2 : v2 = (((p0 &&& (2147483647 : Int32)) % (721 : Int32)) - (360 : Int32))) (v5 : Int32) (hv5 : v5 = (((p1 &&& (2147483647 : Int32)) % (721 : Int32)) - (360 : Int32))) (v8 : Int32) (hv8 : v8 = (((p2 &&& (2147483647 : Int32)) % (1441 : Int32)) - (720 : Int32))) (v11 : Int32) (hv11 : v11 = (((p3 &&& (2147483647 : Int32)) % (1441 : Int32)) - (720 : Int32))) (v14 : Int32) (hv14 : v14 = (((p4 &&& (2147483647 : Int32)) % (801 : Int32)) - (400 : Int32))) (v17 : Int32) (hv17 : v17 = (((p5 &&& (2147483647 : Int32)) % (1601 : Int32)) - (800 : Int32))) (v22 : Int32) (hv22 : v22 = (f1 v2 v5)) (v27 : Int32) (hv27 : v27 = (f2 v2 v5)) (v32 : Int32) (hv32 : v32 = (f1 v8 v11)) (v37 : Int32) (hv37 : v37 = (f2 v8 v11)) : Jvm.Free.Fl.NoNaN64 (FP.ddiv (FP.i2d v27) (4616189618054758400 : UInt64)) := by
  obtain ⟨⟨a1, a2, a3⟩, ⟨b1, b2, b3⟩, ⟨c1, c2⟩, ⟨d1, d2⟩⟩ := own_bnd p0 p1 p2 p3 p4 p5 v2 hv2 v5 hv5 v8 hv8 v11 hv11 v14 hv14 v17 hv17 v22 hv22 v27 hv27 v32 hv32 v37 hv37
  exact own_nn v27.toInt (by omega) (by omega)
theorem own_nn0_153 (p0 : Int32) (p1 : Int32) (p2 : Int32) (p3 : Int32) (p4 : Int32) (p5 : Int32) (v2 : Int32) (hv2 : v2 = (((p0 &&& (2147483647 : Int32)) % (721 : Int32)) - (360 : Int32))) (v5 : Int32) (hv5 : v5 = (((p1 &&& (2147483647 : Int32)) % (721 : Int32)) - (360 : Int32))) (v8 : Int32) (hv8 : v8 = (((p2 &&& (2147483647 : Int32)) % (1441 : Int32)) - (720 : Int32))) (v11 : Int32) (hv11 : v11 = (((p3 &&& (2147483647 : Int32)) % (1441 : Int32)) - (720 : Int32))) (v14 : Int32) (hv14 : v14 = (((p4 &&& (2147483647 : Int32)) % (801 : Int32)) - (400 : Int32))) (v17 : Int32) (hv17 : v17 = (((p5 &&& (2147483647 : Int32)) % (1601 : Int32)) - (800 : Int32))) (v22 : Int32) (hv22 : v22 = (f1 v2 v5)) (v27 : Int32) (hv27 : v27 = (f2 v2 v5)) (v32 : Int32) (hv32 : v32 = (f1 v8 v11)) (v37 : Int32) (hv37 : v37 = (f2 v8 v11)) : Jvm.Free.Fl.NoNaN64 (FP.ddiv (FP.i2d v37) (4616189618054758400 : UInt64)) := by
  obtain ⟨⟨a1, a2, a3⟩, ⟨b1, b2, b3⟩, ⟨c1, c2⟩, ⟨d1, d2⟩⟩ := own_bnd p0 p1 p2 p3 p4 p5 v2 hv2 v5 hv5 v8 hv8 v11 hv11 v14 hv14 v17 hv17 v22 hv22 v27 hv27 v32 hv32 v37 hv37
  exact own_nn v37.toInt (by omega) (by omega)
theorem own_box1_1 (p0 : Int32) (p1 : Int32) (p2 : Int32) (p3 : Int32) (p4 : Int32) (p5 : Int32) (v2 : Int32) (hv2 : v2 = (((p0 &&& (2147483647 : Int32)) % (721 : Int32)) - (360 : Int32))) (v5 : Int32) (hv5 : v5 = (((p1 &&& (2147483647 : Int32)) % (721 : Int32)) - (360 : Int32))) (v8 : Int32) (hv8 : v8 = (((p2 &&& (2147483647 : Int32)) % (1441 : Int32)) - (720 : Int32))) (v11 : Int32) (hv11 : v11 = (((p3 &&& (2147483647 : Int32)) % (1441 : Int32)) - (720 : Int32))) (v14 : Int32) (hv14 : v14 = (((p4 &&& (2147483647 : Int32)) % (801 : Int32)) - (400 : Int32))) (v17 : Int32) (hv17 : v17 = (((p5 &&& (2147483647 : Int32)) % (1601 : Int32)) - (800 : Int32))) (v22 : Int32) (hv22 : v22 = (f1 v2 v5)) (v27 : Int32) (hv27 : v27 = (f2 v2 v5)) (v32 : Int32) (hv32 : v32 = (f1 v8 v11)) (v37 : Int32) (hv37 : v37 = (f2 v8 v11)) : ¬ ((cmpValue (FP.dcmp (FP.ddiv (FP.i2d v22) (4616189618054758400 : UInt64)) (13859405640767635456 : UInt64)) .l) < (0 : Int32)) := by
  obtain ⟨⟨a1, a2, a3⟩, ⟨b1, b2, b3⟩, ⟨c1, c2⟩, ⟨d1, d2⟩⟩ := own_bnd p0 p1 p2 p3 p4 p5 v2 hv2 v5 hv5 v8 hv8 v11 hv11 v14 hv14 v17 hv17 v22 hv22 v27 hv27 v32 hv32 v37 hv37
  show ¬ ((cmpValue (FP.dcmp (own_Di v22.toInt) (13859405640767635456 : UInt64)) .l) < (0 : Int32))
  rw [← own_c1.1, own_lt0 _ _ (by omega) (by omega) (by omega) (by omega)]
  omega
theorem own_box2_1 (p0 : Int32) (p1 : Int32) (p2 : Int32) (p3 : Int32) (p4 : Int32) (p5 : Int32) (v2 : Int32) (hv2 : v2 = (((p0 &&& (2147483647 : Int32)) % (721 : Int32)) - (360 : Int32))) (v5 : Int32) (hv5 : v5 = (((p1 &&& (2147483647 : Int32)) % (721 : Int32)) - (360 : Int32))) (v8 : Int32) (hv8 : v8 = (((p2 &&& (2147483647 : Int32)) % (1441 : Int32)) - (720 : Int32))) (v11 : Int32) (hv11 : v11 = (((p3 &&& (2147483647 : Int32)) % (1441 : Int32)) - (720 : Int32))) (v14 : Int32) (hv14 : v14 = (((p4 &&& (2147483647 : Int32)) % (801 : Int32)) - (400 : Int32))) (v17 : Int32) (hv17 : v17 = (((p5 &&& (2147483647 : Int32)) % (1601 : Int32)) - (800 : Int32))) (v22 : Int32) (hv22 : v22 = (f1 v2 v5)) (v27 : Int32) (hv27 : v27 = (f2 v2 v5)) (v32 : Int32) (hv32 : v32 = (f1 v8 v11)) (v37 : Int32) (hv37 : v37 = (f2 v8 v11)) : ¬ ((0 : Int32) < (cmpValue (FP.dcmp (FP.ddiv (FP.i2d v22) (4616189618054758400 : UInt64)) (4636033603912859648 : UInt64)) .g)) := by
  obtain ⟨⟨a1, a2, a3⟩, ⟨b1, b2, b3⟩, ⟨c1, c2⟩, ⟨d1, d2⟩⟩ := own_bnd p0 p1 p2 p3 p4 p5 v2 hv2 v5 hv5 v8 hv8 v11 hv11 v14 hv14 v17 hv17 v22 hv22 v27 hv27 v32 hv32 v37 hv37
  show ¬ ((0 : Int32) < (cmpValue (FP.dcmp (own_Di v22.toInt) (4636033603912859648 : UInt64)) .g))
  rw [← own_c1.2.1, own_gt0 _ _ (by omega) (by omega) (by omega) (by omega)]
  omega
theorem own_box3_1 (p0 : Int32) (p1 : Int32) (p2 : Int32) (p3 : Int32) (p4 : Int32) (p5 : Int32) (v2 : Int32) (hv2 : v2 = (((p0 &&& (2147483647 : Int32)) % (721 : Int32)) - (360 : Int32))) (v5 : Int32) (hv5 : v5 = (((p1 &&& (2147483647 : Int32)) % (721 : Int32)) - (360 : Int32))) (v8 : Int32) (hv8 : v8 = (((p2 &&& (2147483647 : Int32)) % (1441 : Int32)) - (720 : Int32))) (v11 : Int32) (hv11 : v11 = (((p3 &&& (2147483647 : Int32)) % (1441 : Int32)) - (720 : Int32))) (v14 : Int32) (hv14 : v14 = (((p4 &&& (2147483647 : Int32)) % (801 : Int32)) - (400 : Int32))) (v17 : Int32) (hv17 : v17 = (((p5 &&& (2147483647 : Int32)) % (1601 : Int32)) - (800 : Int32))) (v22 : Int32) (hv22 : v22 = (f1 v2 v5)) (v27 : Int32) (hv27 : v27 = (f2 v2 v5)) (v32 : Int32) (hv32 : v32 = (f1 v8 v11)) (v37 : Int32) (hv37 : v37 = (f2 v8 v11)) : ¬ ((cmpValue (FP.dcmp (FP.ddiv (FP.i2d v32) (4616189618054758400 : UInt64)) (13863909240395005952 : UInt64)) .l) < (0 : Int32)) := by
  obtain ⟨⟨a1, a2, a3⟩, ⟨b1, b2, b3⟩, ⟨c1, c2⟩, ⟨d1, d2⟩⟩ := own_bnd p0 p1 p2 p3 p4 p5 v2 hv2 v5 hv5 v8 hv8 v11 hv11 v14 hv14 v17 hv17 v22 hv22 v27 hv27 v32 hv32 v37 hv37
  show ¬ ((cmpValue (FP.dcmp (own_Di v32.toInt) (13863909240395005952 : UInt64)) .l) < (0 : Int32))
  rw [← own_c1.2.2.1, own_lt0 _ _ (by omega) (by omega) (by omega) (by omega)]
  omega
theorem own_box4_1 (p0 : Int32) (p1 : Int32) (p2 : Int32) (p3 : Int32) (p4 : Int32) (p5 : Int32) (v2 : Int32) (hv2 : v2 = (((p0 &&& (2147483647 : Int32)) % (721 : Int32)) - (360 : Int32))) (v5 : Int32) (hv5 : v5 = (((p1 &&& (2147483647 : Int32)) % (721 : Int32)) - (360 : Int32))) (v8 : Int32) (hv8 : v8 = (((p2 &&& (2147483647 : Int32)) % (1441 : Int32)) - (720 : Int32))) (v11 : Int32) (hv11 : v11 = (((p3 &&& (2147483647 : Int32)) % (1441 : Int32)) - (720 : Int32))) (v14 : Int32) (hv14 : v14 = (((p4 &&& (2147483647 : Int32)) % (801 : Int32)) - (400 : Int32))) (v17 : Int32) (hv17 : v17 = (((p5 &&& (2147483647 : Int32)) % (1601 : Int32)) - (800 : Int32))) (v22 : Int32) (hv22 : v22 = (f1 v2 v5)) (v27 : Int32) (hv27 : v27 = (f2 v2 v5)) (v32 : Int32) (hv32 : v32 = (f1 v8 v11)) (v37 : Int32) (hv37 : v37 = (f2 v8 v11)) : ¬ ((0 : Int32) < (cmpValue (FP.dcmp (FP.ddiv (FP.i2d v32) (4616189618054758400 : UInt64)) (4640537203540230144 : UInt64)) .g)) := by
  obtain ⟨⟨a1, a2, a3⟩, ⟨b1, b2, b3⟩, ⟨c1, c2⟩, ⟨d1, d2⟩⟩ := own_bnd p0 p1 p2 p3 p4 p5 v2 hv2 v5 hv5 v8 hv8 v11 hv11 v14 hv14 v17 hv17 v22 hv22 v27 hv27 v32 hv32 v37 hv37
  show ¬ ((0 : Int32) < (cmpValue (FP.dcmp (own_Di v32.toInt) (4640537203540230144 : UInt64)) .g))
  rw [← own_c1.2.2.2, own_gt0 _ _ (by omega) (by omega) (by omega) (by omega)]
  omega
theorem own_box5_1 (p0 : Int32) (p1 : Int32) (p2 : Int32) (p3 : Int32) (p4 : Int32) (p5 : Int32) (v2 : Int32) (hv2 : v2 = (((p0 &&& (2147483647 : Int32)) % (721 : Int32)) - (360 : Int32))) (v5 : Int32) (hv5 : v5 = (((p1 &&& (2147483647 : Int32)) % (721 : Int32)) - (360 : Int32))) (v8 : Int32) (hv8 : v8 = (((p2 &&& (2147483647 : Int32)) % (1441 : Int32)) - (720 : Int32))) (v11 : Int32) (hv11 : v11 = (((p3 &&& (2147483647 : Int32)) % (1441 : Int32)) - (720 : Int32))) (v14 : Int32) (hv14 : v14 = (((p4 &&& (2147483647 : Int32)) % (801 : Int32)) - (400 : Int32))) (v17 : Int32) (hv17 : v17 = (((p5 &&& (2147483647 : Int32)) % (1601 : Int32)) - (800 : Int32))) (v22 : Int32) (hv22 : v22 = (f1 v2 v5)) (v27 : Int32) (hv27 : v27 = (f2 v2 v5)) (v32 : Int32) (hv32 : v32 = (f1 v8 v11)) (v37 : Int32) (hv37 : v37 = (f2 v8 v11)) : ¬ ((cmpValue (FP.dcmp (FP.ddiv (FP.i2d v27) (4616189618054758400 : UInt64)) (13859405640767635456 : UInt64)) .l) < (0 : Int32)) := by
  obtain ⟨⟨a1, a2, a3⟩, ⟨b1, b2, b3⟩, ⟨c1, c2⟩, ⟨d1, d2⟩⟩ := own_bnd p0 p1 p2 p3 p4 p5 v2 hv2 v5 hv5 v8 hv8 v11 hv11 v14 hv14 v17 hv17 v22 hv22 v27 hv27 v32 hv32 v37 hv37
  show ¬ ((cmpValue (FP.dcmp (own_Di v27.toInt) (13859405640767635456 : UInt64)) .l) < (0 : Int32))
  rw [← own_c1.1, own_lt0 _ _ (by omega) (by omega) (by omega) (by omega)]
  omega
theorem own_box6_1 (p0 : Int32) (p1 : Int32) (p2 : Int32) (p3 : Int32) (p4 : Int32) (p5 : Int32) (v2 : Int32) (hv2 : v2 = (((p0 &&& (2147483647 : Int32)) % (721 : Int32)) - (360 : Int32))) (v5 : Int32) (hv5 : v5 = (((p1 &&& (2147483647 : Int32)) % (721 : Int32)) - (360 : Int32))) (v8 : Int32) (hv8 : v8 = (((p2 &&& (2147483647 : Int32)) % (1441 : Int32)) - (720 : Int32))) (v11 : Int32) (hv11 : v11 = (((p3 &&& (2147483647 : Int32)) % (1441 : Int32)) - (720 : Int32))) (v14 : Int32) (hv14 : v14 = (((p4 &&& (2147483647 : Int32)) % (801 : Int32)) - (400 : Int32))) (v17 : Int32) (hv17 : v17 = (((p5 &&& (2147483647 : Int32)) % (1601 : Int32)) - (800 : Int32))) (v22 : Int32) (hv22 : v22 = (f1 v2 v5)) (v27 : Int32) (hv27 : v27 = (f2 v2 v5)) (v32 : Int32) (hv32 : v32 = (f1 v8 v11)) (v37 : Int32) (hv37 : v37 = (f2 v8 v11)) : ¬ ((0 : Int32) < (cmpValue (FP.dcmp (FP.ddiv (FP.i2d v27) (4616189618054758400 : UInt64)) (4636033603912859648 : UInt64)) .g)) := by
  obtain ⟨⟨a1, a2, a3⟩, ⟨b1, b2, b3⟩, ⟨c1, c2⟩, ⟨d1, d2⟩⟩ := own_bnd p0 p1 p2 p3 p4 p5 v2 hv2 v5 hv5 v8 hv8 v11 hv11 v14 hv14 v17 hv17 v22 hv22 v27 hv27 v32 hv32 v37 hv37
  show ¬ ((0 : Int32) < (cmpValue (FP.dcmp (own_Di v27.toInt) (4636033603912859648 : UInt64)) .g))
  rw [← own_c1.2.1, own_gt0 _ _ (by omega) (by omega) (by omega) (by omega)]
  omega
theorem own_box7_1 (p0 : Int32) (p1 : Int32) (p2 : Int32) (p3 : Int32) (p4 : Int32) (p5 : Int32) (v2 : Int32) (hv2 : v2 = (((p0 &&& (2147483647 : Int32)) % (721 : Int32)) - (360 : Int32))) (v5 : Int32) (hv5 : v5 = (((p1 &&& (2147483647 : Int32)) % (721 : Int32)) - (360 : Int32))) (v8 : Int32) (hv8 : v8 = (((p2 &&& (2147483647 : Int32)) % (1441 : Int32)) - (720 : Int32))) (v11 : Int32) (hv11 : v11 = (((p3 &&& (2147483647 : Int32)) % (1441 : Int32)) - (720 : Int32))) (v14 : Int32) (hv14 : v14 = (((p4 &&& (2147483647 : Int32)) % (801 : Int32)) - (400 : Int32))) (v17 : Int32) (hv17 : v17 = (((p5 &&& (2147483647 : Int32)) % (1601 : Int32)) - (800 : Int32))) (v22 : Int32) (hv22 : v22 = (f1 v2 v5)) (v27 : Int32) (hv27 : v27 = (f2 v2 v5)) (v32 : Int32) (hv32 : v32 = (f1 v8 v11)) (v37 : Int32) (hv37 : v37 = (f2 v8 v11)) : ¬ ((cmpValue (FP.dcmp (FP.ddiv (FP.i2d v37) (4616189618054758400 : UInt64)) (13863909240395005952 : UInt64)) .l) < (0 : Int32)) := by
  obtain ⟨⟨a1, a2, a3⟩, ⟨b1, b2, b3⟩, ⟨c1, c2⟩, ⟨d1, d2⟩⟩ := own_bnd p0 p1 p2 p3 p4 p5 v2 hv2 v5 hv5 v8 hv8 v11 hv11 v14 hv14 v17 hv17 v22 hv22 v27 hv27 v32 hv32 v37 hv37
  show ¬ ((cmpValue (FP.dcmp (own_Di v37.toInt) (13863909240395005952 : UInt64)) .l) < (0 : Int32))
  rw [← own_c1.2.2.1, own_lt0 _ _ (by omega) (by omega) (by omega) (by omega)]
  omega
theorem own_box8_1 (p0 : Int32) (p1 : Int32) (p2 : Int32) (p3 : Int32) (p4 : Int32) (p5 : Int32) (v2 : Int32) (hv2 : v2 = (((p0 &&& (2147483647 : Int32)) % (721 : Int32)) - (360 : Int32))) (v5 : Int32) (hv5 : v5 = (((p1 &&& (2147483647 : Int32)) % (721 : Int32)) - (360 : Int32))) (v8 : Int32) (hv8 : v8 = (((p2 &&& (2147483647 : Int32)) % (1441 : Int32)) - (720 : Int32))) (v11 : Int32) (hv11 : v11 = (((p3 &&& (2147483647 : Int32)) % (1441 : Int32)) - (720 : Int32))) (v14 : Int32) (hv14 : v14 = (((p4 &&& (2147483647 : Int32)) % (801 : Int32)) - (400 : Int32))) (v17 : Int32) (hv17 : v17 = (((p5 &&& (2147483647 : Int32)) % (1601 : Int32)) - (800 : Int32))) (v22 : Int32) (hv22 : v22 = (f1 v2 v5)) (v27 : Int32) (hv27 : v27 = (f2 v2 v5)) (v32 : Int32) (hv32 : v32 = (f1 v8 v11)) (v37 : Int32) (hv37 : v37 = (f2 v8 v11)) : ¬ ((0 : Int32) < (cmpValue (FP.dcmp (FP.ddiv (FP.i2d v37) (4616189618054758400 : UInt64)) (4640537203540230144 : UInt64)) .g)) := by
  obtain ⟨⟨a1, a2, a3⟩, ⟨b1, b2, b3⟩, ⟨c1, c2⟩, ⟨d1, d2⟩⟩ := own_bnd p0 p1 p2 p3 p4 p5 v2 hv2 v5 hv5 v8 hv8 v11 hv11 v14 hv14 v17 hv17 v22 hv22 v27 hv27 v32 hv32 v37 hv37
  show ¬ ((0 : Int32) < (cmpValue (FP.dcmp (own_Di v37.toInt) (4640537203540230144 : UInt64)) .g))
  rw [← own_c1.2.2.2, own_gt0 _ _ (by omega) (by omega) (by omega) (by omega)]
  omega
theorem own_box9_1 (p0 : Int32) (p1 : Int32) (p2 : Int32) (p3 : Int32) (p4 : Int32) (p5 : Int32) (v2 : Int32) (hv2 : v2 = (((p0 &&& (2147483647 : Int32)) % (721 : Int32)) - (360 : Int32))) (v5 : Int32) (hv5 : v5 = (((p1 &&& (2147483647 : Int32)) % (721 : Int32)) - (360 : Int32))) (v8 : Int32) (hv8 : v8 = (((p2 &&& (2147483647 : Int32)) % (1441 : Int32)) - (720 : Int32))) (v11 : Int32) (hv11 : v11 = (((p3 &&& (2147483647 : Int32)) % (1441 : Int32)) - (720 : Int32))) (v14 : Int32) (hv14 : v14 = (((p4 &&& (2147483647 : Int32)) % (801 : Int32)) - (400 : Int32))) (v17 : Int32) (hv17 : v17 = (((p5 &&& (2147483647 : Int32)) % (1601 : Int32)) - (800 : Int32))) (v22 : Int32) (hv22 : v22 = (f1 v2 v5)) (v27 : Int32) (hv27 : v27 = (f2 v2 v5)) (v32 : Int32) (hv32 : v32 = (f1 v8 v11)) (v37 : Int32) (hv37 : v37 = (f2 v8 v11)) : ¬ ((0 : Int32) < (cmpValue (FP.dcmp (FP.ddiv (FP.i2d v22) (4616189618054758400 : UInt64)) (FP.ddiv (FP.i2d v27) (4616189618054758400 : UInt64))) .l)) := by
  obtain ⟨⟨a1, a2, a3⟩, ⟨b1, b2, b3⟩, ⟨c1, c2⟩, ⟨d1, d2⟩⟩ := own_bnd p0 p1 p2 p3 p4 p5 v2 hv2 v5 hv5 v8 hv8 v11 hv11 v14 hv14 v17 hv17 v22 hv22 v27 hv27 v32 hv32 v37 hv37
  show ¬ ((0 : Int32) < (cmpValue (FP.dcmp (own_Di v22.toInt) (own_Di v27.toInt)) .l))
  rw [own_gt0 _ _ (by omega) (by omega) (by omega) (by omega)]
  omega
theorem own_box10_1 (p0 : Int32) (p1 : Int32) (p2 : Int32) (p3 : Int32) (p4 : Int32) (p5 : Int32) (v2 : Int32) (hv2 : v2 = (((p0 &&& (2147483647 : Int32)) % (721 : Int32)) - (360 : Int32))) (v5 : Int32) (hv5 : v5 = (((p1 &&& (2147483647 : Int32)) % (721 : Int32)) - (360 : Int32))) (v8 : Int32) (hv8 : v8 = (((p2 &&& (2147483647 : Int32)) % (1441 : Int32)) - (720 : Int32))) (v11 : Int32) (hv11 : v11 = (((p3 &&& (2147483647 : Int32)) % (1441 : Int32)) - (720 : Int32))) (v14 : Int32) (hv14 : v14 = (((p4 &&& (2147483647 : Int32)) % (801 : Int32)) - (400 : Int32))) (v17 : Int32) (hv17 : v17 = (((p5 &&& (2147483647 : Int32)) % (1601 : Int32)) - (800 : Int32))) (v22 : Int32) (hv22 : v22 = (f1 v2 v5)) (v27 : Int32) (hv27 : v27 = (f2 v2 v5)) (v32 : Int32) (hv32 : v32 = (f1 v8 v11)) (v37 : Int32) (hv37 : v37 = (f2 v8 v11)) : ¬ ((0 : Int32) < (cmpValue (FP.dcmp (FP.ddiv (FP.i2d v32) (4616189618054758400 : UInt64)) (FP.ddiv (FP.i2d v37) (4616189618054758400 : UInt64))) .l)) := by
  obtain ⟨⟨a1, a2, a3⟩, ⟨b1, b2, b3⟩, ⟨c1, c2⟩, ⟨d1, d2⟩⟩ := own_bnd p0 p1 p2 p3 p4 p5 v2 hv2 v5 hv5 v8 hv8 v11 hv11 v14 hv14 v17 hv17 v22 hv22 v27 hv27 v32 hv32 v37 hv37
  show ¬ ((0 : Int32) < (cmpValue (FP.dcmp (own_Di v32.toInt) (own_Di v37.toInt)) .l))
  rw [own_gt0 _ _ (by omega) (by omega) (by omega) (by omega)]
  omega
theorem own_nn0_167 (p0 : Int32) (p1 : Int32) (p2 : Int32) (p3 : Int32) (p4 : Int32) (p5 : Int32) (v2 : Int32) (hv2 : v2 = (((p0 &&& (2147483647 : Int32)) % (721 : Int32)) - (360 : Int32))) (v5 : Int32) (hv5 : v5 = (((p1 &&& (2147483647 : Int32)) % (721 : Int32)) - (360 : Int32))) (v8 : Int32) (hv8 : v8 = (((p2 &&& (2147483647 : Int32)) % (1441 : Int32)) - (720 : Int32))) (v11 : Int32) (hv11 : v11 = (((p3 &&& (2147483647 : Int32)) % (1441 : Int32)) - (720 : Int32))) (v14 : Int32) (hv14 : v14 = (((p4 &&& (2147483647 : Int32)) % (801 : Int32)) - (400 : Int32))) (v17 : Int32) (hv17 : v17 = (((p5 &&& (2147483647 : Int32)) % (1601 : Int32)) - (800 : Int32))) (v22 : Int32) (hv22 : v22 = (f1 v2 v5)) (v27 : Int32) (hv27 : v27 = (f2 v2 v5)) (v32 : Int32) (hv32 : v32 = (f1 v8 v11)) (v37 : Int32) (hv37 : v37 = (f2 v8 v11)) : Jvm.Free.Fl.NoNaN64 (FP.ddiv (FP.i2d v14) (4616189618054758400 : UInt64)) := by
  obtain ⟨⟨a1, a2, a3⟩, ⟨b1, b2, b3⟩, ⟨c1, c2⟩, ⟨d1, d2⟩⟩ := own_bnd p0 p1 p2 p3 p4 p5 v2 hv2 v5 hv5 v8 hv8 v11 hv11 v14 hv14 v17 hv17 v22 hv22 v27 hv27 v32 hv32 v37 hv37
  exact own_nn v14.toInt (by omega) (by omega)
theorem own_nn0_174 (p0 : Int32) (p1 : Int32) (p2 : Int32) (p3 : Int32) (p4 : Int32) (p5 : Int32) (v2 : Int32) (hv2 : v2 = (((p0 &&& (2147483647 : Int32)) % (721 : Int32)) - (360 : Int32))) (v5 : Int32) (hv5 : v5 = (((p1 &&& (2147483647 : Int32)) % (721 : Int32)) - (360 : Int32))) (v8 : Int32) (hv8 : v8 = (((p2 &&& (2147483647 : Int32)) % (1441 : Int32)) - (720 : Int32))) (v11 : Int32) (hv11 : v11 = (((p3 &&& (2147483647 : Int32)) % (1441 : Int32)) - (720 : Int32))) (v14 : Int32) (hv14 : v14 = (((p4 &&& (2147483647 : Int32)) % (801 : Int32)) - (400 : Int32))) (v17 : Int32) (hv17 : v17 = (((p5 &&& (2147483647 : Int32)) % (1601 : Int32)) - (800 : Int32))) (v22 : Int32) (hv22 : v22 = (f1 v2 v5)) (v27 : Int32) (hv27 : v27 = (f2 v2 v5)) (v32 : Int32) (hv32 : v32 = (f1 v8 v11)) (v37 : Int32) (hv37 : v37 = (f2 v8 v11)) : Jvm.Free.Fl.NoNaN64 (FP.ddiv (FP.i2d v17) (4616189618054758400 : UInt64)) := by
  obtain ⟨⟨a1, a2, a3⟩, ⟨b1, b2, b3⟩, ⟨c1, c2⟩, ⟨d1, d2⟩⟩ := own_bnd p0 p1 p2 p3 p4 p5 v2 hv2 v5 hv5 v8 hv8 v11 hv11 v14 hv14 v17 hv17 v22 hv22 v27 hv27 v32 hv32 v37 hv37
  exact own_nn v17.toInt (by omega) (by omega)
set_option maxRecDepth 65536 in
set_option maxHeartbeats 40000000 in
theorem rm0 (l : Launch) (Z : State) (aw : Array Value) (hw : ∀ d ∈ tables_1, d.before aw Z = true) (ws : List Jvm.Cond) (p0 : Int32) (p1 : Int32) (p2 : Int32) (p3 : Int32) (p4 : Int32) (p5 : Int32) (h0 : Heap) (n0 : Nat) (Z0 : n0 ≤ h0.size) (hlaw : f0 p0 p1 p2 p3 p4 p5 = 1) :
    MetFree l x (head1 (Jvm.Cond.code x code maxLocals ret :: ws) room_1) (fun a U => a = #[(.int p0), (.int p1), (.int p2), (.int p3), (.int p4), (.int p5)] ∧ Z.Warmed39 U.vm ∧ U.heap = h0) (fun _ _ _ _ _ => True) (fun _ U o U' => ∃ v L, o = .returned v ∧ Q0 Z p0 p1 p2 p3 p4 p5 h0 n0 v U'.heap L ∧ FrameEnd U o U' L room_1.cells room_1.slots) := by
  refine MetFree.of_bodySF (plainFor_of_name pn_2) hisR ?_
  intro p e s m args below meth c s₁ Bd hml0 hP hK
  obtain ⟨rfl, hZ, hh⟩ := hP
  have hx := Bd.exec
  have hby := Bd.bytes
  have hml : c.maxLocals = 21 := hml0
  have hown : s.vm.findClass "com/example/adjacent_moments/adjacentmoments/query/BoxContainsPinLaw" = some m.cls := findClass_of_methodNamed Bd.named
  have hnm := (name_of_methodNamed Bd.named Bd.method).1
  have X0 : Stand p l e room_1 s m #[(.int p0), (.int p1), (.int p2), (.int p3), (.int p4), (.int p5)] below meth c s₁ [] 0 0 := Stand.of_body Bd
  have e0 : s₁.heap = h0 := by rw [← hh, Bd.state]; rfl
  have N0 := Fr.nil n0
  have pre0 : ∀ t, Steps p.tables e below (s₁.setTop (mkF m 0 #[.val (.int p0), .val (.int p1), .val (.int p2), .val (.int p3), .val (.int p4), .val (.int p5), .unset, .unset, .unset, .unset, .unset, .unset, .unset, .unset, .unset, .unset, .unset, .unset, .unset, .unset, .unset] [])) t → Steps p.tables e below (s₁.setTop (entryFrame m #[(.int p0), (.int p1), (.int p2), (.int p3), (.int p4), (.int p5)] maxLocals)) t := fun t k => castTop (ef_0 m p0 p1 p2 p3 p4 p5) k
  have pre1 : ∀ t, Steps p.tables e below (s₁.setTop (mkF m 12 #[.val (.int p0), .val (.int p1), .val (.int p2), .val (.int p3), .val (.int p4), .val (.int p5), .unset, .unset, .unset, .unset, .unset, .unset, .unset, .unset, .unset, .unset, .unset, .unset, .unset, .unset, .unset] [(.int (((p0 &&& (2147483647 : Int32)) % (721 : Int32)) - (360 : Int32)))])) t → Steps p.tables e below (s₁.setTop (entryFrame m #[(.int p0), (.int p1), (.int p2), (.int p3), (.int p4), (.int p5)] maxLocals)) t := fun t k => pre0 t (by
    show Steps p.tables e below (s₁.setTop (mkF m 0 #[.val (.int p0), .val (.int p1), .val (.int p2), .val (.int p3), .val (.int p4), .val (.int p5), .unset, .unset, .unset, .unset, .unset, .unset, .unset, .unset, .unset, .unset, .unset, .unset, .unset, .unset, .unset] [])) _
    refine XS.iloadN X0.here hx rfl (hb hby at_0) rfl ?_
    show Steps p.tables e below (s₁.setTop (mkF m 1 #[.val (.int p0), .val (.int p1), .val (.int p2), .val (.int p3), .val (.int p4), .val (.int p5), .unset, .unset, .unset, .unset, .unset, .unset, .unset, .unset, .unset, .unset, .unset, .unset, .unset, .unset, .unset] [(.int p0)])) _
    refine X0.ldcInt hx hown (mvT hZ (hw _ (List.mem_of_getElem? (i := 0) rfl))) (g := (mkF m 1 #[.val (.int p0), .val (.int p1), .val (.int p2), .val (.int p3), .val (.int p4), .val (.int p5), .unset, .unset, .unset, .unset, .unset, .unset, .unset, .unset, .unset, .unset, .unset, .unset, .unset, .unset, .unset] [(.int p0)])) rfl (hb hby at_1) _ ?_
    show Steps p.tables e below (s₁.setTop (mkF m 3 #[.val (.int p0), .val (.int p1), .val (.int p2), .val (.int p3), .val (.int p4), .val (.int p5), .unset, .unset, .unset, .unset, .unset, .unset, .unset, .unset, .unset, .unset, .unset, .unset, .unset, .unset, .unset] [(.int (2147483647 : Int32)), (.int p0)])) _
    refine XS.iand X0.here hx rfl (hb hby at_3) rfl ?_
    show Steps p.tables e below (s₁.setTop (mkF m 4 #[.val (.int p0), .val (.int p1), .val (.int p2), .val (.int p3), .val (.int p4), .val (.int p5), .unset, .unset, .unset, .unset, .unset, .unset, .unset, .unset, .unset, .unset, .unset, .unset, .unset, .unset, .unset] [(.int (p0 &&& (2147483647 : Int32)))])) _
    refine XS.sipush X0.here hx rfl (hb hby at_4) ?_
    show Steps p.tables e below (s₁.setTop (mkF m 7 #[.val (.int p0), .val (.int p1), .val (.int p2), .val (.int p3), .val (.int p4), .val (.int p5), .unset, .unset, .unset, .unset, .unset, .unset, .unset, .unset, .unset, .unset, .unset, .unset, .unset, .unset, .unset] [(.int (721 : Int32)), (.int (p0 &&& (2147483647 : Int32)))])) _
    refine iremM X0 hx rfl (hb hby at_7) rfl (by decide) ?_
    show Steps p.tables e below (s₁.setTop (mkF m 8 #[.val (.int p0), .val (.int p1), .val (.int p2), .val (.int p3), .val (.int p4), .val (.int p5), .unset, .unset, .unset, .unset, .unset, .unset, .unset, .unset, .unset, .unset, .unset, .unset, .unset, .unset, .unset] [(.int ((p0 &&& (2147483647 : Int32)) % (721 : Int32)))])) _
    refine XS.sipush X0.here hx rfl (hb hby at_8) ?_
    show Steps p.tables e below (s₁.setTop (mkF m 11 #[.val (.int p0), .val (.int p1), .val (.int p2), .val (.int p3), .val (.int p4), .val (.int p5), .unset, .unset, .unset, .unset, .unset, .unset, .unset, .unset, .unset, .unset, .unset, .unset, .unset, .unset, .unset] [(.int (360 : Int32)), (.int ((p0 &&& (2147483647 : Int32)) % (721 : Int32)))])) _
    refine XS.isub X0.here hx rfl (hb hby at_11) rfl ?_
    exact k)
  obtain ⟨v2, hv2⟩ : ∃ z : Int32, z = (((p0 &&& (2147483647 : Int32)) % (721 : Int32)) - (360 : Int32)) := ⟨_, rfl⟩
  have pre3 : ∀ t, Steps p.tables e below (s₁.setTop (mkF m 12 #[.val (.int p0), .val (.int p1), .val (.int p2), .val (.int p3), .val (.int p4), .val (.int p5), .unset, .unset, .unset, .unset, .unset, .unset, .unset, .unset, .unset, .unset, .unset, .unset, .unset, .unset, .unset] [(.int v2)])) t → Steps p.tables e below (s₁.setTop (entryFrame m #[(.int p0), (.int p1), (.int p2), (.int p3), (.int p4), (.int p5)] maxLocals)) t := fun t k => pre1 t (by rw [hv2] at k; exact k)
  have pre4 : ∀ t, Steps p.tables e below (s₁.setTop (mkF m 26 #[.val (.int p0), .val (.int p1), .val (.int p2), .val (.int p3), .val (.int p4), .val (.int p5), .val (.int v2), .unset, .unset, .unset, .unset, .unset, .unset, .unset, .unset, .unset, .unset, .unset, .unset, .unset, .unset] [(.int (((p1 &&& (2147483647 : Int32)) % (721 : Int32)) - (360 : Int32)))])) t → Steps p.tables e below (s₁.setTop (entryFrame m #[(.int p0), (.int p1), (.int p2), (.int p3), (.int p4), (.int p5)] maxLocals)) t := fun t k => pre3 t (by
    show Steps p.tables e below (s₁.setTop (mkF m 12 #[.val (.int p0), .val (.int p1), .val (.int p2), .val (.int p3), .val (.int p4), .val (.int p5), .unset, .unset, .unset, .unset, .unset, .unset, .unset, .unset, .unset, .unset, .unset, .unset, .unset, .unset, .unset] [(.int v2)])) _
    refine XS.istore X0.here hx rfl (hb hby at_12) rfl (l' := #[.val (.int p0), .val (.int p1), .val (.int p2), .val (.int p3), .val (.int p4), .val (.int p5), .val (.int v2), .unset, .unset, .unset, .unset, .unset, .unset, .unset, .unset, .unset, .unset, .unset, .unset, .unset, .unset]) rfl ?_
    show Steps p.tables e below (s₁.setTop (mkF m 14 #[.val (.int p0), .val (.int p1), .val (.int p2), .val (.int p3), .val (.int p4), .val (.int p5), .val (.int v2), .unset, .unset, .unset, .unset, .unset, .unset, .unset, .unset, .unset, .unset, .unset, .unset, .unset, .unset] [])) _
    refine XS.iloadN X0.here hx rfl (hb hby at_14) rfl ?_
    show Steps p.tables e below (s₁.setTop (mkF m 15 #[.val (.int p0), .val (.int p1), .val (.int p2), .val (.int p3), .val (.int p4), .val (.int p5), .val (.int v2), .unset, .unset, .unset, .unset, .unset, .unset, .unset, .unset, .unset, .unset, .unset, .unset, .unset, .unset] [(.int p1)])) _
    refine X0.ldcInt hx hown (mvT hZ (hw _ (List.mem_of_getElem? (i := 0) rfl))) (g := (mkF m 15 #[.val (.int p0), .val (.int p1), .val (.int p2), .val (.int p3), .val (.int p4), .val (.int p5), .val (.int v2), .unset, .unset, .unset, .unset, .unset, .unset, .unset, .unset, .unset, .unset, .unset, .unset, .unset, .unset] [(.int p1)])) rfl (hb hby at_15) _ ?_
    show Steps p.tables e below (s₁.setTop (mkF m 17 #[.val (.int p0), .val (.int p1), .val (.int p2), .val (.int p3), .val (.int p4), .val (.int p5), .val (.int v2), .unset, .unset, .unset, .unset, .unset, .unset, .unset, .unset, .unset, .unset, .unset, .unset, .unset, .unset] [(.int (2147483647 : Int32)), (.int p1)])) _
    refine XS.iand X0.here hx rfl (hb hby at_17) rfl ?_
    show Steps p.tables e below (s₁.setTop (mkF m 18 #[.val (.int p0), .val (.int p1), .val (.int p2), .val (.int p3), .val (.int p4), .val (.int p5), .val (.int v2), .unset, .unset, .unset, .unset, .unset, .unset, .unset, .unset, .unset, .unset, .unset, .unset, .unset, .unset] [(.int (p1 &&& (2147483647 : Int32)))])) _
    refine XS.sipush X0.here hx rfl (hb hby at_18) ?_
    show Steps p.tables e below (s₁.setTop (mkF m 21 #[.val (.int p0), .val (.int p1), .val (.int p2), .val (.int p3), .val (.int p4), .val (.int p5), .val (.int v2), .unset, .unset, .unset, .unset, .unset, .unset, .unset, .unset, .unset, .unset, .unset, .unset, .unset, .unset] [(.int (721 : Int32)), (.int (p1 &&& (2147483647 : Int32)))])) _
    refine iremM X0 hx rfl (hb hby at_21) rfl (by decide) ?_
    show Steps p.tables e below (s₁.setTop (mkF m 22 #[.val (.int p0), .val (.int p1), .val (.int p2), .val (.int p3), .val (.int p4), .val (.int p5), .val (.int v2), .unset, .unset, .unset, .unset, .unset, .unset, .unset, .unset, .unset, .unset, .unset, .unset, .unset, .unset] [(.int ((p1 &&& (2147483647 : Int32)) % (721 : Int32)))])) _
    refine XS.sipush X0.here hx rfl (hb hby at_22) ?_
    show Steps p.tables e below (s₁.setTop (mkF m 25 #[.val (.int p0), .val (.int p1), .val (.int p2), .val (.int p3), .val (.int p4), .val (.int p5), .val (.int v2), .unset, .unset, .unset, .unset, .unset, .unset, .unset, .unset, .unset, .unset, .unset, .unset, .unset, .unset] [(.int (360 : Int32)), (.int ((p1 &&& (2147483647 : Int32)) % (721 : Int32)))])) _
    refine XS.isub X0.here hx rfl (hb hby at_25) rfl ?_
    exact k)
  obtain ⟨v5, hv5⟩ : ∃ z : Int32, z = (((p1 &&& (2147483647 : Int32)) % (721 : Int32)) - (360 : Int32)) := ⟨_, rfl⟩
  have pre6 : ∀ t, Steps p.tables e below (s₁.setTop (mkF m 26 #[.val (.int p0), .val (.int p1), .val (.int p2), .val (.int p3), .val (.int p4), .val (.int p5), .val (.int v2), .unset, .unset, .unset, .unset, .unset, .unset, .unset, .unset, .unset, .unset, .unset, .unset, .unset, .unset] [(.int v5)])) t → Steps p.tables e below (s₁.setTop (entryFrame m #[(.int p0), (.int p1), (.int p2), (.int p3), (.int p4), (.int p5)] maxLocals)) t := fun t k => pre4 t (by rw [hv5] at k; exact k)
  have pre7 : ∀ t, Steps p.tables e below (s₁.setTop (mkF m 40 #[.val (.int p0), .val (.int p1), .val (.int p2), .val (.int p3), .val (.int p4), .val (.int p5), .val (.int v2), .val (.int v5), .unset, .unset, .unset, .unset, .unset, .unset, .unset, .unset, .unset, .unset, .unset, .unset, .unset] [(.int (((p2 &&& (2147483647 : Int32)) % (1441 : Int32)) - (720 : Int32)))])) t → Steps p.tables e below (s₁.setTop (entryFrame m #[(.int p0), (.int p1), (.int p2), (.int p3), (.int p4), (.int p5)] maxLocals)) t := fun t k => pre6 t (by
    show Steps p.tables e below (s₁.setTop (mkF m 26 #[.val (.int p0), .val (.int p1), .val (.int p2), .val (.int p3), .val (.int p4), .val (.int p5), .val (.int v2), .unset, .unset, .unset, .unset, .unset, .unset, .unset, .unset, .unset, .unset, .unset, .unset, .unset, .unset] [(.int v5)])) _
    refine XS.istore X0.here hx rfl (hb hby at_26) rfl (l' := #[.val (.int p0), .val (.int p1), .val (.int p2), .val (.int p3), .val (.int p4), .val (.int p5), .val (.int v2), .val (.int v5), .unset, .unset, .unset, .unset, .unset, .unset, .unset, .unset, .unset, .unset, .unset, .unset, .unset]) rfl ?_
    show Steps p.tables e below (s₁.setTop (mkF m 28 #[.val (.int p0), .val (.int p1), .val (.int p2), .val (.int p3), .val (.int p4), .val (.int p5), .val (.int v2), .val (.int v5), .unset, .unset, .unset, .unset, .unset, .unset, .unset, .unset, .unset, .unset, .unset, .unset, .unset] [])) _
    refine XS.iloadN X0.here hx rfl (hb hby at_28) rfl ?_
    show Steps p.tables e below (s₁.setTop (mkF m 29 #[.val (.int p0), .val (.int p1), .val (.int p2), .val (.int p3), .val (.int p4), .val (.int p5), .val (.int v2), .val (.int v5), .unset, .unset, .unset, .unset, .unset, .unset, .unset, .unset, .unset, .unset, .unset, .unset, .unset] [(.int p2)])) _
    refine X0.ldcInt hx hown (mvT hZ (hw _ (List.mem_of_getElem? (i := 0) rfl))) (g := (mkF m 29 #[.val (.int p0), .val (.int p1), .val (.int p2), .val (.int p3), .val (.int p4), .val (.int p5), .val (.int v2), .val (.int v5), .unset, .unset, .unset, .unset, .unset, .unset, .unset, .unset, .unset, .unset, .unset, .unset, .unset] [(.int p2)])) rfl (hb hby at_29) _ ?_
    show Steps p.tables e below (s₁.setTop (mkF m 31 #[.val (.int p0), .val (.int p1), .val (.int p2), .val (.int p3), .val (.int p4), .val (.int p5), .val (.int v2), .val (.int v5), .unset, .unset, .unset, .unset, .unset, .unset, .unset, .unset, .unset, .unset, .unset, .unset, .unset] [(.int (2147483647 : Int32)), (.int p2)])) _
    refine XS.iand X0.here hx rfl (hb hby at_31) rfl ?_
    show Steps p.tables e below (s₁.setTop (mkF m 32 #[.val (.int p0), .val (.int p1), .val (.int p2), .val (.int p3), .val (.int p4), .val (.int p5), .val (.int v2), .val (.int v5), .unset, .unset, .unset, .unset, .unset, .unset, .unset, .unset, .unset, .unset, .unset, .unset, .unset] [(.int (p2 &&& (2147483647 : Int32)))])) _
    refine XS.sipush X0.here hx rfl (hb hby at_32) ?_
    show Steps p.tables e below (s₁.setTop (mkF m 35 #[.val (.int p0), .val (.int p1), .val (.int p2), .val (.int p3), .val (.int p4), .val (.int p5), .val (.int v2), .val (.int v5), .unset, .unset, .unset, .unset, .unset, .unset, .unset, .unset, .unset, .unset, .unset, .unset, .unset] [(.int (1441 : Int32)), (.int (p2 &&& (2147483647 : Int32)))])) _
    refine iremM X0 hx rfl (hb hby at_35) rfl (by decide) ?_
    show Steps p.tables e below (s₁.setTop (mkF m 36 #[.val (.int p0), .val (.int p1), .val (.int p2), .val (.int p3), .val (.int p4), .val (.int p5), .val (.int v2), .val (.int v5), .unset, .unset, .unset, .unset, .unset, .unset, .unset, .unset, .unset, .unset, .unset, .unset, .unset] [(.int ((p2 &&& (2147483647 : Int32)) % (1441 : Int32)))])) _
    refine XS.sipush X0.here hx rfl (hb hby at_36) ?_
    show Steps p.tables e below (s₁.setTop (mkF m 39 #[.val (.int p0), .val (.int p1), .val (.int p2), .val (.int p3), .val (.int p4), .val (.int p5), .val (.int v2), .val (.int v5), .unset, .unset, .unset, .unset, .unset, .unset, .unset, .unset, .unset, .unset, .unset, .unset, .unset] [(.int (720 : Int32)), (.int ((p2 &&& (2147483647 : Int32)) % (1441 : Int32)))])) _
    refine XS.isub X0.here hx rfl (hb hby at_39) rfl ?_
    exact k)
  obtain ⟨v8, hv8⟩ : ∃ z : Int32, z = (((p2 &&& (2147483647 : Int32)) % (1441 : Int32)) - (720 : Int32)) := ⟨_, rfl⟩
  have pre9 : ∀ t, Steps p.tables e below (s₁.setTop (mkF m 40 #[.val (.int p0), .val (.int p1), .val (.int p2), .val (.int p3), .val (.int p4), .val (.int p5), .val (.int v2), .val (.int v5), .unset, .unset, .unset, .unset, .unset, .unset, .unset, .unset, .unset, .unset, .unset, .unset, .unset] [(.int v8)])) t → Steps p.tables e below (s₁.setTop (entryFrame m #[(.int p0), (.int p1), (.int p2), (.int p3), (.int p4), (.int p5)] maxLocals)) t := fun t k => pre7 t (by rw [hv8] at k; exact k)
  have pre10 : ∀ t, Steps p.tables e below (s₁.setTop (mkF m 54 #[.val (.int p0), .val (.int p1), .val (.int p2), .val (.int p3), .val (.int p4), .val (.int p5), .val (.int v2), .val (.int v5), .val (.int v8), .unset, .unset, .unset, .unset, .unset, .unset, .unset, .unset, .unset, .unset, .unset, .unset] [(.int (((p3 &&& (2147483647 : Int32)) % (1441 : Int32)) - (720 : Int32)))])) t → Steps p.tables e below (s₁.setTop (entryFrame m #[(.int p0), (.int p1), (.int p2), (.int p3), (.int p4), (.int p5)] maxLocals)) t := fun t k => pre9 t (by
    show Steps p.tables e below (s₁.setTop (mkF m 40 #[.val (.int p0), .val (.int p1), .val (.int p2), .val (.int p3), .val (.int p4), .val (.int p5), .val (.int v2), .val (.int v5), .unset, .unset, .unset, .unset, .unset, .unset, .unset, .unset, .unset, .unset, .unset, .unset, .unset] [(.int v8)])) _
    refine XS.istore X0.here hx rfl (hb hby at_40) rfl (l' := #[.val (.int p0), .val (.int p1), .val (.int p2), .val (.int p3), .val (.int p4), .val (.int p5), .val (.int v2), .val (.int v5), .val (.int v8), .unset, .unset, .unset, .unset, .unset, .unset, .unset, .unset, .unset, .unset, .unset, .unset]) rfl ?_
    show Steps p.tables e below (s₁.setTop (mkF m 42 #[.val (.int p0), .val (.int p1), .val (.int p2), .val (.int p3), .val (.int p4), .val (.int p5), .val (.int v2), .val (.int v5), .val (.int v8), .unset, .unset, .unset, .unset, .unset, .unset, .unset, .unset, .unset, .unset, .unset, .unset] [])) _
    refine XS.iloadN X0.here hx rfl (hb hby at_42) rfl ?_
    show Steps p.tables e below (s₁.setTop (mkF m 43 #[.val (.int p0), .val (.int p1), .val (.int p2), .val (.int p3), .val (.int p4), .val (.int p5), .val (.int v2), .val (.int v5), .val (.int v8), .unset, .unset, .unset, .unset, .unset, .unset, .unset, .unset, .unset, .unset, .unset, .unset] [(.int p3)])) _
    refine X0.ldcInt hx hown (mvT hZ (hw _ (List.mem_of_getElem? (i := 0) rfl))) (g := (mkF m 43 #[.val (.int p0), .val (.int p1), .val (.int p2), .val (.int p3), .val (.int p4), .val (.int p5), .val (.int v2), .val (.int v5), .val (.int v8), .unset, .unset, .unset, .unset, .unset, .unset, .unset, .unset, .unset, .unset, .unset, .unset] [(.int p3)])) rfl (hb hby at_43) _ ?_
    show Steps p.tables e below (s₁.setTop (mkF m 45 #[.val (.int p0), .val (.int p1), .val (.int p2), .val (.int p3), .val (.int p4), .val (.int p5), .val (.int v2), .val (.int v5), .val (.int v8), .unset, .unset, .unset, .unset, .unset, .unset, .unset, .unset, .unset, .unset, .unset, .unset] [(.int (2147483647 : Int32)), (.int p3)])) _
    refine XS.iand X0.here hx rfl (hb hby at_45) rfl ?_
    show Steps p.tables e below (s₁.setTop (mkF m 46 #[.val (.int p0), .val (.int p1), .val (.int p2), .val (.int p3), .val (.int p4), .val (.int p5), .val (.int v2), .val (.int v5), .val (.int v8), .unset, .unset, .unset, .unset, .unset, .unset, .unset, .unset, .unset, .unset, .unset, .unset] [(.int (p3 &&& (2147483647 : Int32)))])) _
    refine XS.sipush X0.here hx rfl (hb hby at_46) ?_
    show Steps p.tables e below (s₁.setTop (mkF m 49 #[.val (.int p0), .val (.int p1), .val (.int p2), .val (.int p3), .val (.int p4), .val (.int p5), .val (.int v2), .val (.int v5), .val (.int v8), .unset, .unset, .unset, .unset, .unset, .unset, .unset, .unset, .unset, .unset, .unset, .unset] [(.int (1441 : Int32)), (.int (p3 &&& (2147483647 : Int32)))])) _
    refine iremM X0 hx rfl (hb hby at_49) rfl (by decide) ?_
    show Steps p.tables e below (s₁.setTop (mkF m 50 #[.val (.int p0), .val (.int p1), .val (.int p2), .val (.int p3), .val (.int p4), .val (.int p5), .val (.int v2), .val (.int v5), .val (.int v8), .unset, .unset, .unset, .unset, .unset, .unset, .unset, .unset, .unset, .unset, .unset, .unset] [(.int ((p3 &&& (2147483647 : Int32)) % (1441 : Int32)))])) _
    refine XS.sipush X0.here hx rfl (hb hby at_50) ?_
    show Steps p.tables e below (s₁.setTop (mkF m 53 #[.val (.int p0), .val (.int p1), .val (.int p2), .val (.int p3), .val (.int p4), .val (.int p5), .val (.int v2), .val (.int v5), .val (.int v8), .unset, .unset, .unset, .unset, .unset, .unset, .unset, .unset, .unset, .unset, .unset, .unset] [(.int (720 : Int32)), (.int ((p3 &&& (2147483647 : Int32)) % (1441 : Int32)))])) _
    refine XS.isub X0.here hx rfl (hb hby at_53) rfl ?_
    exact k)
  obtain ⟨v11, hv11⟩ : ∃ z : Int32, z = (((p3 &&& (2147483647 : Int32)) % (1441 : Int32)) - (720 : Int32)) := ⟨_, rfl⟩
  have pre12 : ∀ t, Steps p.tables e below (s₁.setTop (mkF m 54 #[.val (.int p0), .val (.int p1), .val (.int p2), .val (.int p3), .val (.int p4), .val (.int p5), .val (.int v2), .val (.int v5), .val (.int v8), .unset, .unset, .unset, .unset, .unset, .unset, .unset, .unset, .unset, .unset, .unset, .unset] [(.int v11)])) t → Steps p.tables e below (s₁.setTop (entryFrame m #[(.int p0), (.int p1), (.int p2), (.int p3), (.int p4), (.int p5)] maxLocals)) t := fun t k => pre10 t (by rw [hv11] at k; exact k)
  have pre13 : ∀ t, Steps p.tables e below (s₁.setTop (mkF m 69 #[.val (.int p0), .val (.int p1), .val (.int p2), .val (.int p3), .val (.int p4), .val (.int p5), .val (.int v2), .val (.int v5), .val (.int v8), .val (.int v11), .unset, .unset, .unset, .unset, .unset, .unset, .unset, .unset, .unset, .unset, .unset] [(.int (((p4 &&& (2147483647 : Int32)) % (801 : Int32)) - (400 : Int32)))])) t → Steps p.tables e below (s₁.setTop (entryFrame m #[(.int p0), (.int p1), (.int p2), (.int p3), (.int p4), (.int p5)] maxLocals)) t := fun t k => pre12 t (by
    show Steps p.tables e below (s₁.setTop (mkF m 54 #[.val (.int p0), .val (.int p1), .val (.int p2), .val (.int p3), .val (.int p4), .val (.int p5), .val (.int v2), .val (.int v5), .val (.int v8), .unset, .unset, .unset, .unset, .unset, .unset, .unset, .unset, .unset, .unset, .unset, .unset] [(.int v11)])) _
    refine XS.istore X0.here hx rfl (hb hby at_54) rfl (l' := #[.val (.int p0), .val (.int p1), .val (.int p2), .val (.int p3), .val (.int p4), .val (.int p5), .val (.int v2), .val (.int v5), .val (.int v8), .val (.int v11), .unset, .unset, .unset, .unset, .unset, .unset, .unset, .unset, .unset, .unset, .unset]) rfl ?_
    show Steps p.tables e below (s₁.setTop (mkF m 56 #[.val (.int p0), .val (.int p1), .val (.int p2), .val (.int p3), .val (.int p4), .val (.int p5), .val (.int v2), .val (.int v5), .val (.int v8), .val (.int v11), .unset, .unset, .unset, .unset, .unset, .unset, .unset, .unset, .unset, .unset, .unset] [])) _
    refine XS.iload X0.here hx rfl (hb hby at_56) rfl ?_
    show Steps p.tables e below (s₁.setTop (mkF m 58 #[.val (.int p0), .val (.int p1), .val (.int p2), .val (.int p3), .val (.int p4), .val (.int p5), .val (.int v2), .val (.int v5), .val (.int v8), .val (.int v11), .unset, .unset, .unset, .unset, .unset, .unset, .unset, .unset, .unset, .unset, .unset] [(.int p4)])) _
    refine X0.ldcInt hx hown (mvT hZ (hw _ (List.mem_of_getElem? (i := 0) rfl))) (g := (mkF m 58 #[.val (.int p0), .val (.int p1), .val (.int p2), .val (.int p3), .val (.int p4), .val (.int p5), .val (.int v2), .val (.int v5), .val (.int v8), .val (.int v11), .unset, .unset, .unset, .unset, .unset, .unset, .unset, .unset, .unset, .unset, .unset] [(.int p4)])) rfl (hb hby at_58) _ ?_
    show Steps p.tables e below (s₁.setTop (mkF m 60 #[.val (.int p0), .val (.int p1), .val (.int p2), .val (.int p3), .val (.int p4), .val (.int p5), .val (.int v2), .val (.int v5), .val (.int v8), .val (.int v11), .unset, .unset, .unset, .unset, .unset, .unset, .unset, .unset, .unset, .unset, .unset] [(.int (2147483647 : Int32)), (.int p4)])) _
    refine XS.iand X0.here hx rfl (hb hby at_60) rfl ?_
    show Steps p.tables e below (s₁.setTop (mkF m 61 #[.val (.int p0), .val (.int p1), .val (.int p2), .val (.int p3), .val (.int p4), .val (.int p5), .val (.int v2), .val (.int v5), .val (.int v8), .val (.int v11), .unset, .unset, .unset, .unset, .unset, .unset, .unset, .unset, .unset, .unset, .unset] [(.int (p4 &&& (2147483647 : Int32)))])) _
    refine XS.sipush X0.here hx rfl (hb hby at_61) ?_
    show Steps p.tables e below (s₁.setTop (mkF m 64 #[.val (.int p0), .val (.int p1), .val (.int p2), .val (.int p3), .val (.int p4), .val (.int p5), .val (.int v2), .val (.int v5), .val (.int v8), .val (.int v11), .unset, .unset, .unset, .unset, .unset, .unset, .unset, .unset, .unset, .unset, .unset] [(.int (801 : Int32)), (.int (p4 &&& (2147483647 : Int32)))])) _
    refine iremM X0 hx rfl (hb hby at_64) rfl (by decide) ?_
    show Steps p.tables e below (s₁.setTop (mkF m 65 #[.val (.int p0), .val (.int p1), .val (.int p2), .val (.int p3), .val (.int p4), .val (.int p5), .val (.int v2), .val (.int v5), .val (.int v8), .val (.int v11), .unset, .unset, .unset, .unset, .unset, .unset, .unset, .unset, .unset, .unset, .unset] [(.int ((p4 &&& (2147483647 : Int32)) % (801 : Int32)))])) _
    refine XS.sipush X0.here hx rfl (hb hby at_65) ?_
    show Steps p.tables e below (s₁.setTop (mkF m 68 #[.val (.int p0), .val (.int p1), .val (.int p2), .val (.int p3), .val (.int p4), .val (.int p5), .val (.int v2), .val (.int v5), .val (.int v8), .val (.int v11), .unset, .unset, .unset, .unset, .unset, .unset, .unset, .unset, .unset, .unset, .unset] [(.int (400 : Int32)), (.int ((p4 &&& (2147483647 : Int32)) % (801 : Int32)))])) _
    refine XS.isub X0.here hx rfl (hb hby at_68) rfl ?_
    exact k)
  obtain ⟨v14, hv14⟩ : ∃ z : Int32, z = (((p4 &&& (2147483647 : Int32)) % (801 : Int32)) - (400 : Int32)) := ⟨_, rfl⟩
  have pre15 : ∀ t, Steps p.tables e below (s₁.setTop (mkF m 69 #[.val (.int p0), .val (.int p1), .val (.int p2), .val (.int p3), .val (.int p4), .val (.int p5), .val (.int v2), .val (.int v5), .val (.int v8), .val (.int v11), .unset, .unset, .unset, .unset, .unset, .unset, .unset, .unset, .unset, .unset, .unset] [(.int v14)])) t → Steps p.tables e below (s₁.setTop (entryFrame m #[(.int p0), (.int p1), (.int p2), (.int p3), (.int p4), (.int p5)] maxLocals)) t := fun t k => pre13 t (by rw [hv14] at k; exact k)
  have pre16 : ∀ t, Steps p.tables e below (s₁.setTop (mkF m 84 #[.val (.int p0), .val (.int p1), .val (.int p2), .val (.int p3), .val (.int p4), .val (.int p5), .val (.int v2), .val (.int v5), .val (.int v8), .val (.int v11), .val (.int v14), .unset, .unset, .unset, .unset, .unset, .unset, .unset, .unset, .unset, .unset] [(.int (((p5 &&& (2147483647 : Int32)) % (1601 : Int32)) - (800 : Int32)))])) t → Steps p.tables e below (s₁.setTop (entryFrame m #[(.int p0), (.int p1), (.int p2), (.int p3), (.int p4), (.int p5)] maxLocals)) t := fun t k => pre15 t (by
    show Steps p.tables e below (s₁.setTop (mkF m 69 #[.val (.int p0), .val (.int p1), .val (.int p2), .val (.int p3), .val (.int p4), .val (.int p5), .val (.int v2), .val (.int v5), .val (.int v8), .val (.int v11), .unset, .unset, .unset, .unset, .unset, .unset, .unset, .unset, .unset, .unset, .unset] [(.int v14)])) _
    refine XS.istore X0.here hx rfl (hb hby at_69) rfl (l' := #[.val (.int p0), .val (.int p1), .val (.int p2), .val (.int p3), .val (.int p4), .val (.int p5), .val (.int v2), .val (.int v5), .val (.int v8), .val (.int v11), .val (.int v14), .unset, .unset, .unset, .unset, .unset, .unset, .unset, .unset, .unset, .unset]) rfl ?_
    show Steps p.tables e below (s₁.setTop (mkF m 71 #[.val (.int p0), .val (.int p1), .val (.int p2), .val (.int p3), .val (.int p4), .val (.int p5), .val (.int v2), .val (.int v5), .val (.int v8), .val (.int v11), .val (.int v14), .unset, .unset, .unset, .unset, .unset, .unset, .unset, .unset, .unset, .unset] [])) _
    refine XS.iload X0.here hx rfl (hb hby at_71) rfl ?_
    show Steps p.tables e below (s₁.setTop (mkF m 73 #[.val (.int p0), .val (.int p1), .val (.int p2), .val (.int p3), .val (.int p4), .val (.int p5), .val (.int v2), .val (.int v5), .val (.int v8), .val (.int v11), .val (.int v14), .unset, .unset, .unset, .unset, .unset, .unset, .unset, .unset, .unset, .unset] [(.int p5)])) _
    refine X0.ldcInt hx hown (mvT hZ (hw _ (List.mem_of_getElem? (i := 0) rfl))) (g := (mkF m 73 #[.val (.int p0), .val (.int p1), .val (.int p2), .val (.int p3), .val (.int p4), .val (.int p5), .val (.int v2), .val (.int v5), .val (.int v8), .val (.int v11), .val (.int v14), .unset, .unset, .unset, .unset, .unset, .unset, .unset, .unset, .unset, .unset] [(.int p5)])) rfl (hb hby at_73) _ ?_
    show Steps p.tables e below (s₁.setTop (mkF m 75 #[.val (.int p0), .val (.int p1), .val (.int p2), .val (.int p3), .val (.int p4), .val (.int p5), .val (.int v2), .val (.int v5), .val (.int v8), .val (.int v11), .val (.int v14), .unset, .unset, .unset, .unset, .unset, .unset, .unset, .unset, .unset, .unset] [(.int (2147483647 : Int32)), (.int p5)])) _
    refine XS.iand X0.here hx rfl (hb hby at_75) rfl ?_
    show Steps p.tables e below (s₁.setTop (mkF m 76 #[.val (.int p0), .val (.int p1), .val (.int p2), .val (.int p3), .val (.int p4), .val (.int p5), .val (.int v2), .val (.int v5), .val (.int v8), .val (.int v11), .val (.int v14), .unset, .unset, .unset, .unset, .unset, .unset, .unset, .unset, .unset, .unset] [(.int (p5 &&& (2147483647 : Int32)))])) _
    refine XS.sipush X0.here hx rfl (hb hby at_76) ?_
    show Steps p.tables e below (s₁.setTop (mkF m 79 #[.val (.int p0), .val (.int p1), .val (.int p2), .val (.int p3), .val (.int p4), .val (.int p5), .val (.int v2), .val (.int v5), .val (.int v8), .val (.int v11), .val (.int v14), .unset, .unset, .unset, .unset, .unset, .unset, .unset, .unset, .unset, .unset] [(.int (1601 : Int32)), (.int (p5 &&& (2147483647 : Int32)))])) _
    refine iremM X0 hx rfl (hb hby at_79) rfl (by decide) ?_
    show Steps p.tables e below (s₁.setTop (mkF m 80 #[.val (.int p0), .val (.int p1), .val (.int p2), .val (.int p3), .val (.int p4), .val (.int p5), .val (.int v2), .val (.int v5), .val (.int v8), .val (.int v11), .val (.int v14), .unset, .unset, .unset, .unset, .unset, .unset, .unset, .unset, .unset, .unset] [(.int ((p5 &&& (2147483647 : Int32)) % (1601 : Int32)))])) _
    refine XS.sipush X0.here hx rfl (hb hby at_80) ?_
    show Steps p.tables e below (s₁.setTop (mkF m 83 #[.val (.int p0), .val (.int p1), .val (.int p2), .val (.int p3), .val (.int p4), .val (.int p5), .val (.int v2), .val (.int v5), .val (.int v8), .val (.int v11), .val (.int v14), .unset, .unset, .unset, .unset, .unset, .unset, .unset, .unset, .unset, .unset] [(.int (800 : Int32)), (.int ((p5 &&& (2147483647 : Int32)) % (1601 : Int32)))])) _
    refine XS.isub X0.here hx rfl (hb hby at_83) rfl ?_
    exact k)
  obtain ⟨v17, hv17⟩ : ∃ z : Int32, z = (((p5 &&& (2147483647 : Int32)) % (1601 : Int32)) - (800 : Int32)) := ⟨_, rfl⟩
  have pre18 : ∀ t, Steps p.tables e below (s₁.setTop (mkF m 84 #[.val (.int p0), .val (.int p1), .val (.int p2), .val (.int p3), .val (.int p4), .val (.int p5), .val (.int v2), .val (.int v5), .val (.int v8), .val (.int v11), .val (.int v14), .unset, .unset, .unset, .unset, .unset, .unset, .unset, .unset, .unset, .unset] [(.int v17)])) t → Steps p.tables e below (s₁.setTop (entryFrame m #[(.int p0), (.int p1), (.int p2), (.int p3), (.int p4), (.int p5)] maxLocals)) t := fun t k => pre16 t (by rw [hv17] at k; exact k)
  have pre19 : ∀ t, Steps p.tables e below (s₁.setTop (mkF m 90 #[.val (.int p0), .val (.int p1), .val (.int p2), .val (.int p3), .val (.int p4), .val (.int p5), .val (.int v2), .val (.int v5), .val (.int v8), .val (.int v11), .val (.int v14), .val (.int v17), .unset, .unset, .unset, .unset, .unset, .unset, .unset, .unset, .unset] [(.int v5), (.int v2)])) t → Steps p.tables e below (s₁.setTop (entryFrame m #[(.int p0), (.int p1), (.int p2), (.int p3), (.int p4), (.int p5)] maxLocals)) t := fun t k => pre18 t (by
    show Steps p.tables e below (s₁.setTop (mkF m 84 #[.val (.int p0), .val (.int p1), .val (.int p2), .val (.int p3), .val (.int p4), .val (.int p5), .val (.int v2), .val (.int v5), .val (.int v8), .val (.int v11), .val (.int v14), .unset, .unset, .unset, .unset, .unset, .unset, .unset, .unset, .unset, .unset] [(.int v17)])) _
    refine XS.istore X0.here hx rfl (hb hby at_84) rfl (l' := #[.val (.int p0), .val (.int p1), .val (.int p2), .val (.int p3), .val (.int p4), .val (.int p5), .val (.int v2), .val (.int v5), .val (.int v8), .val (.int v11), .val (.int v14), .val (.int v17), .unset, .unset, .unset, .unset, .unset, .unset, .unset, .unset, .unset]) rfl ?_
    show Steps p.tables e below (s₁.setTop (mkF m 86 #[.val (.int p0), .val (.int p1), .val (.int p2), .val (.int p3), .val (.int p4), .val (.int p5), .val (.int v2), .val (.int v5), .val (.int v8), .val (.int v11), .val (.int v14), .val (.int v17), .unset, .unset, .unset, .unset, .unset, .unset, .unset, .unset, .unset] [])) _
    refine XS.iload X0.here hx rfl (hb hby at_86) rfl ?_
    show Steps p.tables e below (s₁.setTop (mkF m 88 #[.val (.int p0), .val (.int p1), .val (.int p2), .val (.int p3), .val (.int p4), .val (.int p5), .val (.int v2), .val (.int v5), .val (.int v8), .val (.int v11), .val (.int v14), .val (.int v17), .unset, .unset, .unset, .unset, .unset, .unset, .unset, .unset, .unset] [(.int v2)])) _
    refine XS.iload X0.here hx rfl (hb hby at_88) rfl ?_
    exact k)
  obtain ⟨_, _, ⟨T20, L20, k20, n20⟩, -, X20, ⟨Lc20, hQ20, l20, y20, z20⟩, st20⟩ := Jvm.LawKit.callS X0 hx (y := (⟨"java/lang/Math", "min", "(II)I"⟩ : MethodName)) hown (mvT hZ (hw _ (List.mem_of_getElem? (i := 1) rfl))) (mvT hZ (hw _ (List.mem_of_getElem? (i := 2) rfl))) (mvT hZ (hw _ (List.mem_of_getElem? (i := 3) rfl))) (mvT hZ (hw _ (List.mem_of_getElem? (i := 4) rfl))) (by decide) (backOf (W := 0) (rm1 l Z aw hw [] v2 v5 h0 n0 Z0) hZ (hw _ (List.mem_of_getElem? (i := 4) rfl)) (hw _ (List.mem_of_getElem? (i := 3) rfl)) (by decide) (by decide)) (g := (mkF m 90 #[.val (.int p0), .val (.int p1), .val (.int p2), .val (.int p3), .val (.int p4), .val (.int p5), .val (.int v2), .val (.int v5), .val (.int v8), .val (.int v11), .val (.int v14), .val (.int v17), .unset, .unset, .unset, .unset, .unset, .unset, .unset, .unset, .unset] [(.int v5), (.int v2)])) rfl (by rw [hml]; rfl) (argsL := [(.int v2), (.int v5)]) (rest := []) (lenOf pd_0 rfl) rfl (by show 2 * 0 + _ ≤ _; exact Nat.le_of_eq rfl) (hb hby at_90) (fun _ _ => ⟨rfl, e0, (by decide : 0 + 0 ≤ _), (by decide : 0 + 0 ≤ _)⟩)
  dsimp only [Pt.U, Pt.locs, Pt.cells, Pt.slots] at X20 l20 y20 z20 st20 hQ20
  subst l20 y20 z20
  obtain ⟨rfl, N20q, e20⟩ := hQ20
  have N20 := Fr.app N0 N20q
  have pre21 : ∀ t, Steps p.tables e below (T20.setTop (mkF m 93 #[.val (.int p0), .val (.int p1), .val (.int p2), .val (.int p3), .val (.int p4), .val (.int p5), .val (.int v2), .val (.int v5), .val (.int v8), .val (.int v11), .val (.int v14), .val (.int v17), .unset, .unset, .unset, .unset, .unset, .unset, .unset, .unset, .unset] [(.int (f1 v2 v5))])) t → Steps p.tables e below (s₁.setTop (entryFrame m #[(.int p0), (.int p1), (.int p2), (.int p3), (.int p4), (.int p5)] maxLocals)) t := fun t k => pre19 t (by
    show Steps p.tables e below (s₁.setTop (mkF m 90 #[.val (.int p0), .val (.int p1), .val (.int p2), .val (.int p3), .val (.int p4), .val (.int p5), .val (.int v2), .val (.int v5), .val (.int v8), .val (.int v11), .val (.int v14), .val (.int v17), .unset, .unset, .unset, .unset, .unset, .unset, .unset, .unset, .unset] [(.int v5), (.int v2)])) _
    refine st20 _ ?_
    exact k)
  obtain ⟨v22, hv22⟩ : ∃ z : Int32, z = (f1 v2 v5) := ⟨_, rfl⟩
  have pre23 : ∀ t, Steps p.tables e below (T20.setTop (mkF m 93 #[.val (.int p0), .val (.int p1), .val (.int p2), .val (.int p3), .val (.int p4), .val (.int p5), .val (.int v2), .val (.int v5), .val (.int v8), .val (.int v11), .val (.int v14), .val (.int v17), .unset, .unset, .unset, .unset, .unset, .unset, .unset, .unset, .unset] [(.int v22)])) t → Steps p.tables e below (s₁.setTop (entryFrame m #[(.int p0), (.int p1), (.int p2), (.int p3), (.int p4), (.int p5)] maxLocals)) t := fun t k => pre21 t (by rw [hv22] at k; exact k)
  have pre24 : ∀ t, Steps p.tables e below (T20.setTop (mkF m 99 #[.val (.int p0), .val (.int p1), .val (.int p2), .val (.int p3), .val (.int p4), .val (.int p5), .val (.int v2), .val (.int v5), .val (.int v8), .val (.int v11), .val (.int v14), .val (.int v17), .val (.int v22), .unset, .unset, .unset, .unset, .unset, .unset, .unset, .unset] [(.int v5), (.int v2)])) t → Steps p.tables e below (s₁.setTop (entryFrame m #[(.int p0), (.int p1), (.int p2), (.int p3), (.int p4), (.int p5)] maxLocals)) t := fun t k => pre23 t (by
    show Steps p.tables e below (T20.setTop (mkF m 93 #[.val (.int p0), .val (.int p1), .val (.int p2), .val (.int p3), .val (.int p4), .val (.int p5), .val (.int v2), .val (.int v5), .val (.int v8), .val (.int v11), .val (.int v14), .val (.int v17), .unset, .unset, .unset, .unset, .unset, .unset, .unset, .unset, .unset] [(.int v22)])) _
    refine XS.istore X20.here hx rfl (hb hby at_93) rfl (l' := #[.val (.int p0), .val (.int p1), .val (.int p2), .val (.int p3), .val (.int p4), .val (.int p5), .val (.int v2), .val (.int v5), .val (.int v8), .val (.int v11), .val (.int v14), .val (.int v17), .val (.int v22), .unset, .unset, .unset, .unset, .unset, .unset, .unset, .unset]) rfl ?_
    show Steps p.tables e below (T20.setTop (mkF m 95 #[.val (.int p0), .val (.int p1), .val (.int p2), .val (.int p3), .val (.int p4), .val (.int p5), .val (.int v2), .val (.int v5), .val (.int v8), .val (.int v11), .val (.int v14), .val (.int v17), .val (.int v22), .unset, .unset, .unset, .unset, .unset, .unset, .unset, .unset] [])) _
    refine XS.iload X20.here hx rfl (hb hby at_95) rfl ?_
    show Steps p.tables e below (T20.setTop (mkF m 97 #[.val (.int p0), .val (.int p1), .val (.int p2), .val (.int p3), .val (.int p4), .val (.int p5), .val (.int v2), .val (.int v5), .val (.int v8), .val (.int v11), .val (.int v14), .val (.int v17), .val (.int v22), .unset, .unset, .unset, .unset, .unset, .unset, .unset, .unset] [(.int v2)])) _
    refine XS.iload X20.here hx rfl (hb hby at_97) rfl ?_
    exact k)
  obtain ⟨_, _, ⟨T25, L25, k25, n25⟩, -, X25, ⟨Lc25, hQ25, l25, y25, z25⟩, st25⟩ := Jvm.LawKit.callS X20 hx (y := (⟨"java/lang/Math", "max", "(II)I"⟩ : MethodName)) hown (mvT hZ (hw _ (List.mem_of_getElem? (i := 5) rfl))) (mvT hZ (hw _ (List.mem_of_getElem? (i := 6) rfl))) (mvT hZ (hw _ (List.mem_of_getElem? (i := 3) rfl))) (mvT hZ (hw _ (List.mem_of_getElem? (i := 7) rfl))) (by decide) (backOf (W := 0) (rm2 l Z aw hw [] v2 v5 h0 n0 Z0) hZ (hw _ (List.mem_of_getElem? (i := 7) rfl)) (hw _ (List.mem_of_getElem? (i := 3) rfl)) (by decide) (by decide)) (g := (mkF m 99 #[.val (.int p0), .val (.int p1), .val (.int p2), .val (.int p3), .val (.int p4), .val (.int p5), .val (.int v2), .val (.int v5), .val (.int v8), .val (.int v11), .val (.int v14), .val (.int v17), .val (.int v22), .unset, .unset, .unset, .unset, .unset, .unset, .unset, .unset] [(.int v5), (.int v2)])) rfl (by rw [hml]; rfl) (argsL := [(.int v2), (.int v5)]) (rest := []) (lenOf pd_0 rfl) rfl (by show 2 * 0 + _ ≤ _; exact Nat.le_of_eq rfl) (hb hby at_99) (fun _ _ => ⟨rfl, e20, (by decide : 0 + 0 ≤ _), (by decide : 0 + 0 ≤ _)⟩)
  dsimp only [Pt.U, Pt.locs, Pt.cells, Pt.slots] at X25 l25 y25 z25 st25 hQ25
  subst l25 y25 z25
  obtain ⟨rfl, N25q, e25⟩ := hQ25
  have N25 := Fr.app N20 N25q
  have pre26 : ∀ t, Steps p.tables e below (T25.setTop (mkF m 102 #[.val (.int p0), .val (.int p1), .val (.int p2), .val (.int p3), .val (.int p4), .val (.int p5), .val (.int v2), .val (.int v5), .val (.int v8), .val (.int v11), .val (.int v14), .val (.int v17), .val (.int v22), .unset, .unset, .unset, .unset, .unset, .unset, .unset, .unset] [(.int (f2 v2 v5))])) t → Steps p.tables e below (s₁.setTop (entryFrame m #[(.int p0), (.int p1), (.int p2), (.int p3), (.int p4), (.int p5)] maxLocals)) t := fun t k => pre24 t (by
    show Steps p.tables e below (T20.setTop (mkF m 99 #[.val (.int p0), .val (.int p1), .val (.int p2), .val (.int p3), .val (.int p4), .val (.int p5), .val (.int v2), .val (.int v5), .val (.int v8), .val (.int v11), .val (.int v14), .val (.int v17), .val (.int v22), .unset, .unset, .unset, .unset, .unset, .unset, .unset, .unset] [(.int v5), (.int v2)])) _
    refine st25 _ ?_
    exact k)
  obtain ⟨v27, hv27⟩ : ∃ z : Int32, z = (f2 v2 v5) := ⟨_, rfl⟩
  have pre28 : ∀ t, Steps p.tables e below (T25.setTop (mkF m 102 #[.val (.int p0), .val (.int p1), .val (.int p2), .val (.int p3), .val (.int p4), .val (.int p5), .val (.int v2), .val (.int v5), .val (.int v8), .val (.int v11), .val (.int v14), .val (.int v17), .val (.int v22), .unset, .unset, .unset, .unset, .unset, .unset, .unset, .unset] [(.int v27)])) t → Steps p.tables e below (s₁.setTop (entryFrame m #[(.int p0), (.int p1), (.int p2), (.int p3), (.int p4), (.int p5)] maxLocals)) t := fun t k => pre26 t (by rw [hv27] at k; exact k)
  have pre29 : ∀ t, Steps p.tables e below (T25.setTop (mkF m 108 #[.val (.int p0), .val (.int p1), .val (.int p2), .val (.int p3), .val (.int p4), .val (.int p5), .val (.int v2), .val (.int v5), .val (.int v8), .val (.int v11), .val (.int v14), .val (.int v17), .val (.int v22), .val (.int v27), .unset, .unset, .unset, .unset, .unset, .unset, .unset] [(.int v11), (.int v8)])) t → Steps p.tables e below (s₁.setTop (entryFrame m #[(.int p0), (.int p1), (.int p2), (.int p3), (.int p4), (.int p5)] maxLocals)) t := fun t k => pre28 t (by
    show Steps p.tables e below (T25.setTop (mkF m 102 #[.val (.int p0), .val (.int p1), .val (.int p2), .val (.int p3), .val (.int p4), .val (.int p5), .val (.int v2), .val (.int v5), .val (.int v8), .val (.int v11), .val (.int v14), .val (.int v17), .val (.int v22), .unset, .unset, .unset, .unset, .unset, .unset, .unset, .unset] [(.int v27)])) _
    refine XS.istore X25.here hx rfl (hb hby at_102) rfl (l' := #[.val (.int p0), .val (.int p1), .val (.int p2), .val (.int p3), .val (.int p4), .val (.int p5), .val (.int v2), .val (.int v5), .val (.int v8), .val (.int v11), .val (.int v14), .val (.int v17), .val (.int v22), .val (.int v27), .unset, .unset, .unset, .unset, .unset, .unset, .unset]) rfl ?_
    show Steps p.tables e below (T25.setTop (mkF m 104 #[.val (.int p0), .val (.int p1), .val (.int p2), .val (.int p3), .val (.int p4), .val (.int p5), .val (.int v2), .val (.int v5), .val (.int v8), .val (.int v11), .val (.int v14), .val (.int v17), .val (.int v22), .val (.int v27), .unset, .unset, .unset, .unset, .unset, .unset, .unset] [])) _
    refine XS.iload X25.here hx rfl (hb hby at_104) rfl ?_
    show Steps p.tables e below (T25.setTop (mkF m 106 #[.val (.int p0), .val (.int p1), .val (.int p2), .val (.int p3), .val (.int p4), .val (.int p5), .val (.int v2), .val (.int v5), .val (.int v8), .val (.int v11), .val (.int v14), .val (.int v17), .val (.int v22), .val (.int v27), .unset, .unset, .unset, .unset, .unset, .unset, .unset] [(.int v8)])) _
    refine XS.iload X25.here hx rfl (hb hby at_106) rfl ?_
    exact k)
  obtain ⟨_, _, ⟨T30, L30, k30, n30⟩, -, X30, ⟨Lc30, hQ30, l30, y30, z30⟩, st30⟩ := Jvm.LawKit.callS X25 hx (y := (⟨"java/lang/Math", "min", "(II)I"⟩ : MethodName)) hown (mvT hZ (hw _ (List.mem_of_getElem? (i := 1) rfl))) (mvT hZ (hw _ (List.mem_of_getElem? (i := 2) rfl))) (mvT hZ (hw _ (List.mem_of_getElem? (i := 3) rfl))) (mvT hZ (hw _ (List.mem_of_getElem? (i := 4) rfl))) (by decide) (backOf (W := 0) (rm1 l Z aw hw [] v8 v11 h0 n0 Z0) hZ (hw _ (List.mem_of_getElem? (i := 4) rfl)) (hw _ (List.mem_of_getElem? (i := 3) rfl)) (by decide) (by decide)) (g := (mkF m 108 #[.val (.int p0), .val (.int p1), .val (.int p2), .val (.int p3), .val (.int p4), .val (.int p5), .val (.int v2), .val (.int v5), .val (.int v8), .val (.int v11), .val (.int v14), .val (.int v17), .val (.int v22), .val (.int v27), .unset, .unset, .unset, .unset, .unset, .unset, .unset] [(.int v11), (.int v8)])) rfl (by rw [hml]; rfl) (argsL := [(.int v8), (.int v11)]) (rest := []) (lenOf pd_0 rfl) rfl (by show 2 * 0 + _ ≤ _; exact Nat.le_of_eq rfl) (hb hby at_108) (fun _ _ => ⟨rfl, e25, (by decide : 0 + 0 ≤ _), (by decide : 0 + 0 ≤ _)⟩)
  dsimp only [Pt.U, Pt.locs, Pt.cells, Pt.slots] at X30 l30 y30 z30 st30 hQ30
  subst l30 y30 z30
  obtain ⟨rfl, N30q, e30⟩ := hQ30
  have N30 := Fr.app N25 N30q
  have pre31 : ∀ t, Steps p.tables e below (T30.setTop (mkF m 111 #[.val (.int p0), .val (.int p1), .val (.int p2), .val (.int p3), .val (.int p4), .val (.int p5), .val (.int v2), .val (.int v5), .val (.int v8), .val (.int v11), .val (.int v14), .val (.int v17), .val (.int v22), .val (.int v27), .unset, .unset, .unset, .unset, .unset, .unset, .unset] [(.int (f1 v8 v11))])) t → Steps p.tables e below (s₁.setTop (entryFrame m #[(.int p0), (.int p1), (.int p2), (.int p3), (.int p4), (.int p5)] maxLocals)) t := fun t k => pre29 t (by
    show Steps p.tables e below (T25.setTop (mkF m 108 #[.val (.int p0), .val (.int p1), .val (.int p2), .val (.int p3), .val (.int p4), .val (.int p5), .val (.int v2), .val (.int v5), .val (.int v8), .val (.int v11), .val (.int v14), .val (.int v17), .val (.int v22), .val (.int v27), .unset, .unset, .unset, .unset, .unset, .unset, .unset] [(.int v11), (.int v8)])) _
    refine st30 _ ?_
    exact k)
  obtain ⟨v32, hv32⟩ : ∃ z : Int32, z = (f1 v8 v11) := ⟨_, rfl⟩
  have pre33 : ∀ t, Steps p.tables e below (T30.setTop (mkF m 111 #[.val (.int p0), .val (.int p1), .val (.int p2), .val (.int p3), .val (.int p4), .val (.int p5), .val (.int v2), .val (.int v5), .val (.int v8), .val (.int v11), .val (.int v14), .val (.int v17), .val (.int v22), .val (.int v27), .unset, .unset, .unset, .unset, .unset, .unset, .unset] [(.int v32)])) t → Steps p.tables e below (s₁.setTop (entryFrame m #[(.int p0), (.int p1), (.int p2), (.int p3), (.int p4), (.int p5)] maxLocals)) t := fun t k => pre31 t (by rw [hv32] at k; exact k)
  have pre34 : ∀ t, Steps p.tables e below (T30.setTop (mkF m 117 #[.val (.int p0), .val (.int p1), .val (.int p2), .val (.int p3), .val (.int p4), .val (.int p5), .val (.int v2), .val (.int v5), .val (.int v8), .val (.int v11), .val (.int v14), .val (.int v17), .val (.int v22), .val (.int v27), .val (.int v32), .unset, .unset, .unset, .unset, .unset, .unset] [(.int v11), (.int v8)])) t → Steps p.tables e below (s₁.setTop (entryFrame m #[(.int p0), (.int p1), (.int p2), (.int p3), (.int p4), (.int p5)] maxLocals)) t := fun t k => pre33 t (by
    show Steps p.tables e below (T30.setTop (mkF m 111 #[.val (.int p0), .val (.int p1), .val (.int p2), .val (.int p3), .val (.int p4), .val (.int p5), .val (.int v2), .val (.int v5), .val (.int v8), .val (.int v11), .val (.int v14), .val (.int v17), .val (.int v22), .val (.int v27), .unset, .unset, .unset, .unset, .unset, .unset, .unset] [(.int v32)])) _
    refine XS.istore X30.here hx rfl (hb hby at_111) rfl (l' := #[.val (.int p0), .val (.int p1), .val (.int p2), .val (.int p3), .val (.int p4), .val (.int p5), .val (.int v2), .val (.int v5), .val (.int v8), .val (.int v11), .val (.int v14), .val (.int v17), .val (.int v22), .val (.int v27), .val (.int v32), .unset, .unset, .unset, .unset, .unset, .unset]) rfl ?_
    show Steps p.tables e below (T30.setTop (mkF m 113 #[.val (.int p0), .val (.int p1), .val (.int p2), .val (.int p3), .val (.int p4), .val (.int p5), .val (.int v2), .val (.int v5), .val (.int v8), .val (.int v11), .val (.int v14), .val (.int v17), .val (.int v22), .val (.int v27), .val (.int v32), .unset, .unset, .unset, .unset, .unset, .unset] [])) _
    refine XS.iload X30.here hx rfl (hb hby at_113) rfl ?_
    show Steps p.tables e below (T30.setTop (mkF m 115 #[.val (.int p0), .val (.int p1), .val (.int p2), .val (.int p3), .val (.int p4), .val (.int p5), .val (.int v2), .val (.int v5), .val (.int v8), .val (.int v11), .val (.int v14), .val (.int v17), .val (.int v22), .val (.int v27), .val (.int v32), .unset, .unset, .unset, .unset, .unset, .unset] [(.int v8)])) _
    refine XS.iload X30.here hx rfl (hb hby at_115) rfl ?_
    exact k)
  obtain ⟨_, _, ⟨T35, L35, k35, n35⟩, -, X35, ⟨Lc35, hQ35, l35, y35, z35⟩, st35⟩ := Jvm.LawKit.callS X30 hx (y := (⟨"java/lang/Math", "max", "(II)I"⟩ : MethodName)) hown (mvT hZ (hw _ (List.mem_of_getElem? (i := 5) rfl))) (mvT hZ (hw _ (List.mem_of_getElem? (i := 6) rfl))) (mvT hZ (hw _ (List.mem_of_getElem? (i := 3) rfl))) (mvT hZ (hw _ (List.mem_of_getElem? (i := 7) rfl))) (by decide) (backOf (W := 0) (rm2 l Z aw hw [] v8 v11 h0 n0 Z0) hZ (hw _ (List.mem_of_getElem? (i := 7) rfl)) (hw _ (List.mem_of_getElem? (i := 3) rfl)) (by decide) (by decide)) (g := (mkF m 117 #[.val (.int p0), .val (.int p1), .val (.int p2), .val (.int p3), .val (.int p4), .val (.int p5), .val (.int v2), .val (.int v5), .val (.int v8), .val (.int v11), .val (.int v14), .val (.int v17), .val (.int v22), .val (.int v27), .val (.int v32), .unset, .unset, .unset, .unset, .unset, .unset] [(.int v11), (.int v8)])) rfl (by rw [hml]; rfl) (argsL := [(.int v8), (.int v11)]) (rest := []) (lenOf pd_0 rfl) rfl (by show 2 * 0 + _ ≤ _; exact Nat.le_of_eq rfl) (hb hby at_117) (fun _ _ => ⟨rfl, e30, (by decide : 0 + 0 ≤ _), (by decide : 0 + 0 ≤ _)⟩)
  dsimp only [Pt.U, Pt.locs, Pt.cells, Pt.slots] at X35 l35 y35 z35 st35 hQ35
  subst l35 y35 z35
  obtain ⟨rfl, N35q, e35⟩ := hQ35
  have N35 := Fr.app N30 N35q
  have pre36 : ∀ t, Steps p.tables e below (T35.setTop (mkF m 120 #[.val (.int p0), .val (.int p1), .val (.int p2), .val (.int p3), .val (.int p4), .val (.int p5), .val (.int v2), .val (.int v5), .val (.int v8), .val (.int v11), .val (.int v14), .val (.int v17), .val (.int v22), .val (.int v27), .val (.int v32), .unset, .unset, .unset, .unset, .unset, .unset] [(.int (f2 v8 v11))])) t → Steps p.tables e below (s₁.setTop (entryFrame m #[(.int p0), (.int p1), (.int p2), (.int p3), (.int p4), (.int p5)] maxLocals)) t := fun t k => pre34 t (by
    show Steps p.tables e below (T30.setTop (mkF m 117 #[.val (.int p0), .val (.int p1), .val (.int p2), .val (.int p3), .val (.int p4), .val (.int p5), .val (.int v2), .val (.int v5), .val (.int v8), .val (.int v11), .val (.int v14), .val (.int v17), .val (.int v22), .val (.int v27), .val (.int v32), .unset, .unset, .unset, .unset, .unset, .unset] [(.int v11), (.int v8)])) _
    refine st35 _ ?_
    exact k)
  obtain ⟨v37, hv37⟩ : ∃ z : Int32, z = (f2 v8 v11) := ⟨_, rfl⟩
  have pre38 : ∀ t, Steps p.tables e below (T35.setTop (mkF m 120 #[.val (.int p0), .val (.int p1), .val (.int p2), .val (.int p3), .val (.int p4), .val (.int p5), .val (.int v2), .val (.int v5), .val (.int v8), .val (.int v11), .val (.int v14), .val (.int v17), .val (.int v22), .val (.int v27), .val (.int v32), .unset, .unset, .unset, .unset, .unset, .unset] [(.int v37)])) t → Steps p.tables e below (s₁.setTop (entryFrame m #[(.int p0), (.int p1), (.int p2), (.int p3), (.int p4), (.int p5)] maxLocals)) t := fun t k => pre36 t (by rw [hv37] at k; exact k)
  have pre39 : ∀ t, Steps p.tables e below (T35.setTop (mkF m 122 #[.val (.int p0), .val (.int p1), .val (.int p2), .val (.int p3), .val (.int p4), .val (.int p5), .val (.int v2), .val (.int v5), .val (.int v8), .val (.int v11), .val (.int v14), .val (.int v17), .val (.int v22), .val (.int v27), .val (.int v32), .val (.int v37), .unset, .unset, .unset, .unset, .unset] [])) t → Steps p.tables e below (s₁.setTop (entryFrame m #[(.int p0), (.int p1), (.int p2), (.int p3), (.int p4), (.int p5)] maxLocals)) t := fun t k => pre38 t (by
    show Steps p.tables e below (T35.setTop (mkF m 120 #[.val (.int p0), .val (.int p1), .val (.int p2), .val (.int p3), .val (.int p4), .val (.int p5), .val (.int v2), .val (.int v5), .val (.int v8), .val (.int v11), .val (.int v14), .val (.int v17), .val (.int v22), .val (.int v27), .val (.int v32), .unset, .unset, .unset, .unset, .unset, .unset] [(.int v37)])) _
    refine XS.istore X35.here hx rfl (hb hby at_120) rfl (l' := #[.val (.int p0), .val (.int p1), .val (.int p2), .val (.int p3), .val (.int p4), .val (.int p5), .val (.int v2), .val (.int v5), .val (.int v8), .val (.int v11), .val (.int v14), .val (.int v17), .val (.int v22), .val (.int v27), .val (.int v32), .val (.int v37), .unset, .unset, .unset, .unset, .unset]) rfl ?_
    exact k)
  obtain ⟨T40, h40, X40, e40, E40, A40, D40, -, st40⟩ := newO X35 hx hZ hown (hw _ (List.mem_of_getElem? (i := 8) rfl)) (hw _ (List.mem_of_getElem? (i := 9) rfl)) (hw _ (List.mem_of_getElem? (i := 10) rfl)) e35 (g := (mkF m 122 #[.val (.int p0), .val (.int p1), .val (.int p2), .val (.int p3), .val (.int p4), .val (.int p5), .val (.int v2), .val (.int v5), .val (.int v8), .val (.int v11), .val (.int v14), .val (.int v17), .val (.int v22), .val (.int v27), .val (.int v32), .val (.int v37), .unset, .unset, .unset, .unset, .unset] [])) rfl (hb hby at_122) (by decide) (by decide)
  obtain ⟨b40, g40⟩ : ∃ z, z = h0.size := ⟨_, rfl⟩
  have g_b40 : n0 ≤ b40 := Nat.le_trans Z0 (Nat.le_of_eq g40.symm)
  have sz_b40 : h0.size ≤ b40 := Nat.le_trans (Keep.refl h0 []).1 (Nat.le_of_eq g40.symm)
  rw [← g40] at A40 D40 st40
  have K40 : Keep h0 h40 [] := (Keep.refl h0 []).ext E40
  have Z40 : n0 ≤ h40.size := Nat.le_trans Z0 E40.1
  have F_minLatitude_b40 : Fld Z h40 b40 "com/example/adjacent_moments/adjacentmoments/query/Box" "minLatitude" "D" (.double (0 : UInt64)) := D40 (Or.inr (hw _ (List.mem_of_getElem? (i := 35) rfl))) (ty := .double) (by decide)
  have F_minLongitude_b40 : Fld Z h40 b40 "com/example/adjacent_moments/adjacentmoments/query/Box" "minLongitude" "D" (.double (0 : UInt64)) := D40 (Or.inr (hw _ (List.mem_of_getElem? (i := 37) rfl))) (ty := .double) (by decide)
  have F_maxLatitude_b40 : Fld Z h40 b40 "com/example/adjacent_moments/adjacentmoments/query/Box" "maxLatitude" "D" (.double (0 : UInt64)) := D40 (Or.inr (hw _ (List.mem_of_getElem? (i := 39) rfl))) (ty := .double) (by decide)
  have F_maxLongitude_b40 : Fld Z h40 b40 "com/example/adjacent_moments/adjacentmoments/query/Box" "maxLongitude" "D" (.double (0 : UInt64)) := D40 (Or.inr (hw _ (List.mem_of_getElem? (i := 41) rfl))) (ty := .double) (by decide)
  have kown_nn0_132 : Jvm.Free.Fl.NoNaN64 (FP.ddiv (FP.i2d v22) (4616189618054758400 : UInt64)) := own_nn0_132 p0 p1 p2 p3 p4 p5 v2 hv2 v5 hv5 v8 hv8 v11 hv11 v14 hv14 v17 hv17 v22 hv22 v27 hv27 v32 hv32 v37 hv37
  have kown_nn0_139 : Jvm.Free.Fl.NoNaN64 (FP.ddiv (FP.i2d v32) (4616189618054758400 : UInt64)) := own_nn0_139 p0 p1 p2 p3 p4 p5 v2 hv2 v5 hv5 v8 hv8 v11 hv11 v14 hv14 v17 hv17 v22 hv22 v27 hv27 v32 hv32 v37 hv37
  have kown_nn0_146 : Jvm.Free.Fl.NoNaN64 (FP.ddiv (FP.i2d v27) (4616189618054758400 : UInt64)) := own_nn0_146 p0 p1 p2 p3 p4 p5 v2 hv2 v5 hv5 v8 hv8 v11 hv11 v14 hv14 v17 hv17 v22 hv22 v27 hv27 v32 hv32 v37 hv37
  have kown_nn0_153 : Jvm.Free.Fl.NoNaN64 (FP.ddiv (FP.i2d v37) (4616189618054758400 : UInt64)) := own_nn0_153 p0 p1 p2 p3 p4 p5 v2 hv2 v5 hv5 v8 hv8 v11 hv11 v14 hv14 v17 hv17 v22 hv22 v27 hv27 v32 hv32 v37 hv37
  have pre41 : ∀ t, Steps p.tables e below (T40.setTop (mkF m 154 #[.val (.int p0), .val (.int p1), .val (.int p2), .val (.int p3), .val (.int p4), .val (.int p5), .val (.int v2), .val (.int v5), .val (.int v8), .val (.int v11), .val (.int v14), .val (.int v17), .val (.int v22), .val (.int v27), .val (.int v32), .val (.int v37), .unset, .unset, .unset, .unset, .unset] [(.double (FP.ddiv (FP.i2d v37) (4616189618054758400 : UInt64))), (.double (FP.ddiv (FP.i2d v27) (4616189618054758400 : UInt64))), (.double (FP.ddiv (FP.i2d v32) (4616189618054758400 : UInt64))), (.double (FP.ddiv (FP.i2d v22) (4616189618054758400 : UInt64))), (.ref b40), (.ref b40)])) t → Steps p.tables e below (s₁.setTop (entryFrame m #[(.int p0), (.int p1), (.int p2), (.int p3), (.int p4), (.int p5)] maxLocals)) t := fun t k => pre39 t (by
    show Steps p.tables e below (T35.setTop (mkF m 122 #[.val (.int p0), .val (.int p1), .val (.int p2), .val (.int p3), .val (.int p4), .val (.int p5), .val (.int v2), .val (.int v5), .val (.int v8), .val (.int v11), .val (.int v14), .val (.int v17), .val (.int v22), .val (.int v27), .val (.int v32), .val (.int v37), .unset, .unset, .unset, .unset, .unset] [])) _
    refine st40 _ ?_
    show Steps p.tables e below (T40.setTop (mkF m 125 #[.val (.int p0), .val (.int p1), .val (.int p2), .val (.int p3), .val (.int p4), .val (.int p5), .val (.int v2), .val (.int v5), .val (.int v8), .val (.int v11), .val (.int v14), .val (.int v17), .val (.int v22), .val (.int v27), .val (.int v32), .val (.int v37), .unset, .unset, .unset, .unset, .unset] [(.ref b40)])) _
    refine XS.dup X40.here hx rfl (hb hby at_125) rfl rfl ?_
    show Steps p.tables e below (T40.setTop (mkF m 126 #[.val (.int p0), .val (.int p1), .val (.int p2), .val (.int p3), .val (.int p4), .val (.int p5), .val (.int v2), .val (.int v5), .val (.int v8), .val (.int v11), .val (.int v14), .val (.int v17), .val (.int v22), .val (.int v27), .val (.int v32), .val (.int v37), .unset, .unset, .unset, .unset, .unset] [(.ref b40), (.ref b40)])) _
    refine XS.iload X40.here hx rfl (hb hby at_126) rfl ?_
    show Steps p.tables e below (T40.setTop (mkF m 128 #[.val (.int p0), .val (.int p1), .val (.int p2), .val (.int p3), .val (.int p4), .val (.int p5), .val (.int v2), .val (.int v5), .val (.int v8), .val (.int v11), .val (.int v14), .val (.int v17), .val (.int v22), .val (.int v27), .val (.int v32), .val (.int v37), .unset, .unset, .unset, .unset, .unset] [(.int v22), (.ref b40), (.ref b40)])) _
    refine XS.i2dS X40.here hx rfl (hb hby at_128) rfl rfl ?_
    show Steps p.tables e below (T40.setTop (mkF m 129 #[.val (.int p0), .val (.int p1), .val (.int p2), .val (.int p3), .val (.int p4), .val (.int p5), .val (.int v2), .val (.int v5), .val (.int v8), .val (.int v11), .val (.int v14), .val (.int v17), .val (.int v22), .val (.int v27), .val (.int v32), .val (.int v37), .unset, .unset, .unset, .unset, .unset] [(.double (FP.i2d v22)), (.ref b40), (.ref b40)])) _
    refine X40.ldc2DoubleC hx hown (mvT hZ (hw _ (List.mem_of_getElem? (i := 11) rfl))) (g := (mkF m 129 #[.val (.int p0), .val (.int p1), .val (.int p2), .val (.int p3), .val (.int p4), .val (.int p5), .val (.int v2), .val (.int v5), .val (.int v8), .val (.int v11), .val (.int v14), .val (.int v17), .val (.int v22), .val (.int v27), .val (.int v32), .val (.int v37), .unset, .unset, .unset, .unset, .unset] [(.double (FP.i2d v22)), (.ref b40), (.ref b40)])) rfl (hb hby at_129) _ ?_
    show Steps p.tables e below (T40.setTop (mkF m 132 #[.val (.int p0), .val (.int p1), .val (.int p2), .val (.int p3), .val (.int p4), .val (.int p5), .val (.int v2), .val (.int v5), .val (.int v8), .val (.int v11), .val (.int v14), .val (.int v17), .val (.int v22), .val (.int v27), .val (.int v32), .val (.int v37), .unset, .unset, .unset, .unset, .unset] [(.double (4616189618054758400 : UInt64)), (.double (FP.i2d v22)), (.ref b40), (.ref b40)])) _
    refine XS.ddivS X40.here hx rfl (hb hby at_132) rfl kown_nn0_132 rfl ?_
    show Steps p.tables e below (T40.setTop (mkF m 133 #[.val (.int p0), .val (.int p1), .val (.int p2), .val (.int p3), .val (.int p4), .val (.int p5), .val (.int v2), .val (.int v5), .val (.int v8), .val (.int v11), .val (.int v14), .val (.int v17), .val (.int v22), .val (.int v27), .val (.int v32), .val (.int v37), .unset, .unset, .unset, .unset, .unset] [(.double (FP.ddiv (FP.i2d v22) (4616189618054758400 : UInt64))), (.ref b40), (.ref b40)])) _
    refine XS.iload X40.here hx rfl (hb hby at_133) rfl ?_
    show Steps p.tables e below (T40.setTop (mkF m 135 #[.val (.int p0), .val (.int p1), .val (.int p2), .val (.int p3), .val (.int p4), .val (.int p5), .val (.int v2), .val (.int v5), .val (.int v8), .val (.int v11), .val (.int v14), .val (.int v17), .val (.int v22), .val (.int v27), .val (.int v32), .val (.int v37), .unset, .unset, .unset, .unset, .unset] [(.int v32), (.double (FP.ddiv (FP.i2d v22) (4616189618054758400 : UInt64))), (.ref b40), (.ref b40)])) _
    refine XS.i2dS X40.here hx rfl (hb hby at_135) rfl rfl ?_
    show Steps p.tables e below (T40.setTop (mkF m 136 #[.val (.int p0), .val (.int p1), .val (.int p2), .val (.int p3), .val (.int p4), .val (.int p5), .val (.int v2), .val (.int v5), .val (.int v8), .val (.int v11), .val (.int v14), .val (.int v17), .val (.int v22), .val (.int v27), .val (.int v32), .val (.int v37), .unset, .unset, .unset, .unset, .unset] [(.double (FP.i2d v32)), (.double (FP.ddiv (FP.i2d v22) (4616189618054758400 : UInt64))), (.ref b40), (.ref b40)])) _
    refine X40.ldc2DoubleC hx hown (mvT hZ (hw _ (List.mem_of_getElem? (i := 11) rfl))) (g := (mkF m 136 #[.val (.int p0), .val (.int p1), .val (.int p2), .val (.int p3), .val (.int p4), .val (.int p5), .val (.int v2), .val (.int v5), .val (.int v8), .val (.int v11), .val (.int v14), .val (.int v17), .val (.int v22), .val (.int v27), .val (.int v32), .val (.int v37), .unset, .unset, .unset, .unset, .unset] [(.double (FP.i2d v32)), (.double (FP.ddiv (FP.i2d v22) (4616189618054758400 : UInt64))), (.ref b40), (.ref b40)])) rfl (hb hby at_136) _ ?_
    show Steps p.tables e below (T40.setTop (mkF m 139 #[.val (.int p0), .val (.int p1), .val (.int p2), .val (.int p3), .val (.int p4), .val (.int p5), .val (.int v2), .val (.int v5), .val (.int v8), .val (.int v11), .val (.int v14), .val (.int v17), .val (.int v22), .val (.int v27), .val (.int v32), .val (.int v37), .unset, .unset, .unset, .unset, .unset] [(.double (4616189618054758400 : UInt64)), (.double (FP.i2d v32)), (.double (FP.ddiv (FP.i2d v22) (4616189618054758400 : UInt64))), (.ref b40), (.ref b40)])) _
    refine XS.ddivS X40.here hx rfl (hb hby at_139) rfl kown_nn0_139 rfl ?_
    show Steps p.tables e below (T40.setTop (mkF m 140 #[.val (.int p0), .val (.int p1), .val (.int p2), .val (.int p3), .val (.int p4), .val (.int p5), .val (.int v2), .val (.int v5), .val (.int v8), .val (.int v11), .val (.int v14), .val (.int v17), .val (.int v22), .val (.int v27), .val (.int v32), .val (.int v37), .unset, .unset, .unset, .unset, .unset] [(.double (FP.ddiv (FP.i2d v32) (4616189618054758400 : UInt64))), (.double (FP.ddiv (FP.i2d v22) (4616189618054758400 : UInt64))), (.ref b40), (.ref b40)])) _
    refine XS.iload X40.here hx rfl (hb hby at_140) rfl ?_
    show Steps p.tables e below (T40.setTop (mkF m 142 #[.val (.int p0), .val (.int p1), .val (.int p2), .val (.int p3), .val (.int p4), .val (.int p5), .val (.int v2), .val (.int v5), .val (.int v8), .val (.int v11), .val (.int v14), .val (.int v17), .val (.int v22), .val (.int v27), .val (.int v32), .val (.int v37), .unset, .unset, .unset, .unset, .unset] [(.int v27), (.double (FP.ddiv (FP.i2d v32) (4616189618054758400 : UInt64))), (.double (FP.ddiv (FP.i2d v22) (4616189618054758400 : UInt64))), (.ref b40), (.ref b40)])) _
    refine XS.i2dS X40.here hx rfl (hb hby at_142) rfl rfl ?_
    show Steps p.tables e below (T40.setTop (mkF m 143 #[.val (.int p0), .val (.int p1), .val (.int p2), .val (.int p3), .val (.int p4), .val (.int p5), .val (.int v2), .val (.int v5), .val (.int v8), .val (.int v11), .val (.int v14), .val (.int v17), .val (.int v22), .val (.int v27), .val (.int v32), .val (.int v37), .unset, .unset, .unset, .unset, .unset] [(.double (FP.i2d v27)), (.double (FP.ddiv (FP.i2d v32) (4616189618054758400 : UInt64))), (.double (FP.ddiv (FP.i2d v22) (4616189618054758400 : UInt64))), (.ref b40), (.ref b40)])) _
    refine X40.ldc2DoubleC hx hown (mvT hZ (hw _ (List.mem_of_getElem? (i := 11) rfl))) (g := (mkF m 143 #[.val (.int p0), .val (.int p1), .val (.int p2), .val (.int p3), .val (.int p4), .val (.int p5), .val (.int v2), .val (.int v5), .val (.int v8), .val (.int v11), .val (.int v14), .val (.int v17), .val (.int v22), .val (.int v27), .val (.int v32), .val (.int v37), .unset, .unset, .unset, .unset, .unset] [(.double (FP.i2d v27)), (.double (FP.ddiv (FP.i2d v32) (4616189618054758400 : UInt64))), (.double (FP.ddiv (FP.i2d v22) (4616189618054758400 : UInt64))), (.ref b40), (.ref b40)])) rfl (hb hby at_143) _ ?_
    show Steps p.tables e below (T40.setTop (mkF m 146 #[.val (.int p0), .val (.int p1), .val (.int p2), .val (.int p3), .val (.int p4), .val (.int p5), .val (.int v2), .val (.int v5), .val (.int v8), .val (.int v11), .val (.int v14), .val (.int v17), .val (.int v22), .val (.int v27), .val (.int v32), .val (.int v37), .unset, .unset, .unset, .unset, .unset] [(.double (4616189618054758400 : UInt64)), (.double (FP.i2d v27)), (.double (FP.ddiv (FP.i2d v32) (4616189618054758400 : UInt64))), (.double (FP.ddiv (FP.i2d v22) (4616189618054758400 : UInt64))), (.ref b40), (.ref b40)])) _
    refine XS.ddivS X40.here hx rfl (hb hby at_146) rfl kown_nn0_146 rfl ?_
    show Steps p.tables e below (T40.setTop (mkF m 147 #[.val (.int p0), .val (.int p1), .val (.int p2), .val (.int p3), .val (.int p4), .val (.int p5), .val (.int v2), .val (.int v5), .val (.int v8), .val (.int v11), .val (.int v14), .val (.int v17), .val (.int v22), .val (.int v27), .val (.int v32), .val (.int v37), .unset, .unset, .unset, .unset, .unset] [(.double (FP.ddiv (FP.i2d v27) (4616189618054758400 : UInt64))), (.double (FP.ddiv (FP.i2d v32) (4616189618054758400 : UInt64))), (.double (FP.ddiv (FP.i2d v22) (4616189618054758400 : UInt64))), (.ref b40), (.ref b40)])) _
    refine XS.iload X40.here hx rfl (hb hby at_147) rfl ?_
    show Steps p.tables e below (T40.setTop (mkF m 149 #[.val (.int p0), .val (.int p1), .val (.int p2), .val (.int p3), .val (.int p4), .val (.int p5), .val (.int v2), .val (.int v5), .val (.int v8), .val (.int v11), .val (.int v14), .val (.int v17), .val (.int v22), .val (.int v27), .val (.int v32), .val (.int v37), .unset, .unset, .unset, .unset, .unset] [(.int v37), (.double (FP.ddiv (FP.i2d v27) (4616189618054758400 : UInt64))), (.double (FP.ddiv (FP.i2d v32) (4616189618054758400 : UInt64))), (.double (FP.ddiv (FP.i2d v22) (4616189618054758400 : UInt64))), (.ref b40), (.ref b40)])) _
    refine XS.i2dS X40.here hx rfl (hb hby at_149) rfl rfl ?_
    show Steps p.tables e below (T40.setTop (mkF m 150 #[.val (.int p0), .val (.int p1), .val (.int p2), .val (.int p3), .val (.int p4), .val (.int p5), .val (.int v2), .val (.int v5), .val (.int v8), .val (.int v11), .val (.int v14), .val (.int v17), .val (.int v22), .val (.int v27), .val (.int v32), .val (.int v37), .unset, .unset, .unset, .unset, .unset] [(.double (FP.i2d v37)), (.double (FP.ddiv (FP.i2d v27) (4616189618054758400 : UInt64))), (.double (FP.ddiv (FP.i2d v32) (4616189618054758400 : UInt64))), (.double (FP.ddiv (FP.i2d v22) (4616189618054758400 : UInt64))), (.ref b40), (.ref b40)])) _
    refine X40.ldc2DoubleC hx hown (mvT hZ (hw _ (List.mem_of_getElem? (i := 11) rfl))) (g := (mkF m 150 #[.val (.int p0), .val (.int p1), .val (.int p2), .val (.int p3), .val (.int p4), .val (.int p5), .val (.int v2), .val (.int v5), .val (.int v8), .val (.int v11), .val (.int v14), .val (.int v17), .val (.int v22), .val (.int v27), .val (.int v32), .val (.int v37), .unset, .unset, .unset, .unset, .unset] [(.double (FP.i2d v37)), (.double (FP.ddiv (FP.i2d v27) (4616189618054758400 : UInt64))), (.double (FP.ddiv (FP.i2d v32) (4616189618054758400 : UInt64))), (.double (FP.ddiv (FP.i2d v22) (4616189618054758400 : UInt64))), (.ref b40), (.ref b40)])) rfl (hb hby at_150) _ ?_
    show Steps p.tables e below (T40.setTop (mkF m 153 #[.val (.int p0), .val (.int p1), .val (.int p2), .val (.int p3), .val (.int p4), .val (.int p5), .val (.int v2), .val (.int v5), .val (.int v8), .val (.int v11), .val (.int v14), .val (.int v17), .val (.int v22), .val (.int v27), .val (.int v32), .val (.int v37), .unset, .unset, .unset, .unset, .unset] [(.double (4616189618054758400 : UInt64)), (.double (FP.i2d v37)), (.double (FP.ddiv (FP.i2d v27) (4616189618054758400 : UInt64))), (.double (FP.ddiv (FP.i2d v32) (4616189618054758400 : UInt64))), (.double (FP.ddiv (FP.i2d v22) (4616189618054758400 : UInt64))), (.ref b40), (.ref b40)])) _
    refine XS.ddivS X40.here hx rfl (hb hby at_153) rfl kown_nn0_153 rfl ?_
    exact k)
  have kown_box1_1 : ¬ ((cmpValue (FP.dcmp (FP.ddiv (FP.i2d v22) (4616189618054758400 : UInt64)) (13859405640767635456 : UInt64)) .l) < (0 : Int32)) := own_box1_1 p0 p1 p2 p3 p4 p5 v2 hv2 v5 hv5 v8 hv8 v11 hv11 v14 hv14 v17 hv17 v22 hv22 v27 hv27 v32 hv32 v37 hv37
  have kown_box2_1 : ¬ ((0 : Int32) < (cmpValue (FP.dcmp (FP.ddiv (FP.i2d v22) (4616189618054758400 : UInt64)) (4636033603912859648 : UInt64)) .g)) := own_box2_1 p0 p1 p2 p3 p4 p5 v2 hv2 v5 hv5 v8 hv8 v11 hv11 v14 hv14 v17 hv17 v22 hv22 v27 hv27 v32 hv32 v37 hv37
  have kown_box3_1 : ¬ ((cmpValue (FP.dcmp (FP.ddiv (FP.i2d v32) (4616189618054758400 : UInt64)) (13863909240395005952 : UInt64)) .l) < (0 : Int32)) := own_box3_1 p0 p1 p2 p3 p4 p5 v2 hv2 v5 hv5 v8 hv8 v11 hv11 v14 hv14 v17 hv17 v22 hv22 v27 hv27 v32 hv32 v37 hv37
  have kown_box4_1 : ¬ ((0 : Int32) < (cmpValue (FP.dcmp (FP.ddiv (FP.i2d v32) (4616189618054758400 : UInt64)) (4640537203540230144 : UInt64)) .g)) := own_box4_1 p0 p1 p2 p3 p4 p5 v2 hv2 v5 hv5 v8 hv8 v11 hv11 v14 hv14 v17 hv17 v22 hv22 v27 hv27 v32 hv32 v37 hv37
  have kown_box5_1 : ¬ ((cmpValue (FP.dcmp (FP.ddiv (FP.i2d v27) (4616189618054758400 : UInt64)) (13859405640767635456 : UInt64)) .l) < (0 : Int32)) := own_box5_1 p0 p1 p2 p3 p4 p5 v2 hv2 v5 hv5 v8 hv8 v11 hv11 v14 hv14 v17 hv17 v22 hv22 v27 hv27 v32 hv32 v37 hv37
  have kown_box6_1 : ¬ ((0 : Int32) < (cmpValue (FP.dcmp (FP.ddiv (FP.i2d v27) (4616189618054758400 : UInt64)) (4636033603912859648 : UInt64)) .g)) := own_box6_1 p0 p1 p2 p3 p4 p5 v2 hv2 v5 hv5 v8 hv8 v11 hv11 v14 hv14 v17 hv17 v22 hv22 v27 hv27 v32 hv32 v37 hv37
  have kown_box7_1 : ¬ ((cmpValue (FP.dcmp (FP.ddiv (FP.i2d v37) (4616189618054758400 : UInt64)) (13863909240395005952 : UInt64)) .l) < (0 : Int32)) := own_box7_1 p0 p1 p2 p3 p4 p5 v2 hv2 v5 hv5 v8 hv8 v11 hv11 v14 hv14 v17 hv17 v22 hv22 v27 hv27 v32 hv32 v37 hv37
  have kown_box8_1 : ¬ ((0 : Int32) < (cmpValue (FP.dcmp (FP.ddiv (FP.i2d v37) (4616189618054758400 : UInt64)) (4640537203540230144 : UInt64)) .g)) := own_box8_1 p0 p1 p2 p3 p4 p5 v2 hv2 v5 hv5 v8 hv8 v11 hv11 v14 hv14 v17 hv17 v22 hv22 v27 hv27 v32 hv32 v37 hv37
  have kown_box9_1 : ¬ ((0 : Int32) < (cmpValue (FP.dcmp (FP.ddiv (FP.i2d v22) (4616189618054758400 : UInt64)) (FP.ddiv (FP.i2d v27) (4616189618054758400 : UInt64))) .l)) := own_box9_1 p0 p1 p2 p3 p4 p5 v2 hv2 v5 hv5 v8 hv8 v11 hv11 v14 hv14 v17 hv17 v22 hv22 v27 hv27 v32 hv32 v37 hv37
  have kown_box10_1 : ¬ ((0 : Int32) < (cmpValue (FP.dcmp (FP.ddiv (FP.i2d v32) (4616189618054758400 : UInt64)) (FP.ddiv (FP.i2d v37) (4616189618054758400 : UInt64))) .l)) := own_box10_1 p0 p1 p2 p3 p4 p5 v2 hv2 v5 hv5 v8 hv8 v11 hv11 v14 hv14 v17 hv17 v22 hv22 v27 hv27 v32 hv32 v37 hv37
  obtain ⟨_, _, ⟨T42, L42, k42, n42⟩, -, X42, ⟨Lc42, hQ42, l42, y42, z42⟩, st42⟩ := X40.specialBack hx (y := (⟨"com/example/adjacent_moments/adjacentmoments/query/Box", "<init>", "(DDDD)V"⟩ : MethodName)) rfl hown (mvT hZ (hw _ (List.mem_of_getElem? (i := 12) rfl))) (mvT hZ (hw _ (List.mem_of_getElem? (i := 13) rfl))) (mvT hZ (hw _ (List.mem_of_getElem? (i := 14) rfl))) (by decide) (backOf (W := 1) (rm3 l Z aw hw [] b40 (FP.ddiv (FP.i2d v22) (4616189618054758400 : UInt64)) (FP.ddiv (FP.i2d v32) (4616189618054758400 : UInt64)) (FP.ddiv (FP.i2d v27) (4616189618054758400 : UInt64)) (FP.ddiv (FP.i2d v37) (4616189618054758400 : UInt64)) (.double (0 : UInt64)) (.double (0 : UInt64)) (.double (0 : UInt64)) (.double (0 : UInt64)) h40 n0 Z40 kown_box1_1 kown_box2_1 kown_box3_1 kown_box4_1 kown_box5_1 kown_box6_1 kown_box7_1 kown_box8_1 kown_box9_1 kown_box10_1 A40 F_minLatitude_b40 g_b40 F_minLongitude_b40 F_maxLatitude_b40 F_maxLongitude_b40) hZ (hw _ (List.mem_of_getElem? (i := 14) rfl)) (hw _ (List.mem_of_getElem? (i := 10) rfl)) (by decide) (by decide)) (g := (mkF m 154 #[.val (.int p0), .val (.int p1), .val (.int p2), .val (.int p3), .val (.int p4), .val (.int p5), .val (.int v2), .val (.int v5), .val (.int v8), .val (.int v11), .val (.int v14), .val (.int v17), .val (.int v22), .val (.int v27), .val (.int v32), .val (.int v37), .unset, .unset, .unset, .unset, .unset] [(.double (FP.ddiv (FP.i2d v37) (4616189618054758400 : UInt64))), (.double (FP.ddiv (FP.i2d v27) (4616189618054758400 : UInt64))), (.double (FP.ddiv (FP.i2d v32) (4616189618054758400 : UInt64))), (.double (FP.ddiv (FP.i2d v22) (4616189618054758400 : UInt64))), (.ref b40), (.ref b40)])) rfl (by rw [hml]; rfl) (Steps.refl _) (a := b40) (argsL := [(.double (FP.ddiv (FP.i2d v22) (4616189618054758400 : UInt64))), (.double (FP.ddiv (FP.i2d v32) (4616189618054758400 : UInt64))), (.double (FP.ddiv (FP.i2d v27) (4616189618054758400 : UInt64))), (.double (FP.ddiv (FP.i2d v37) (4616189618054758400 : UInt64)))]) (rest := [(.ref b40)]) (lenOf pd_1 rfl) rfl (by show 2 * 0 + _ ≤ _; exact Nat.le_of_eq rfl) (hb hby at_154) (fun _ _ => ⟨rfl, e40, (by decide : 1 + 0 ≤ _), (by decide : 4 + 0 ≤ _)⟩)
  dsimp only [Pt.U, Pt.locs, Pt.cells, Pt.slots] at X42 l42 y42 z42 st42 hQ42
  subst l42 y42 z42
  obtain ⟨rfl, N42q, K42q, E42_a0, F42_a0_minLatitude, F42_a0_minLongitude, F42_a0_maxLatitude, F42_a0_maxLongitude⟩ := hQ42
  have N42 := Fr.app N35 N42q
  have A40_42 := A40.keep K42q
  have F42_a0_minLatitude' : Fld Z T42.heap b40 "com/example/adjacent_moments/adjacentmoments/query/Box" "minLatitude" "D" (.double (FP.ddiv (FP.i2d v22) (4616189618054758400 : UInt64))) := F42_a0_minLatitude
  have F42_a0_minLongitude' : Fld Z T42.heap b40 "com/example/adjacent_moments/adjacentmoments/query/Box" "minLongitude" "D" (.double (FP.ddiv (FP.i2d v32) (4616189618054758400 : UInt64))) := F42_a0_minLongitude
  have F42_a0_maxLatitude' : Fld Z T42.heap b40 "com/example/adjacent_moments/adjacentmoments/query/Box" "maxLatitude" "D" (.double (FP.ddiv (FP.i2d v27) (4616189618054758400 : UInt64))) := F42_a0_maxLatitude
  have F42_a0_maxLongitude' : Fld Z T42.heap b40 "com/example/adjacent_moments/adjacentmoments/query/Box" "maxLongitude" "D" (.double (FP.ddiv (FP.i2d v37) (4616189618054758400 : UInt64))) := F42_a0_maxLongitude
  have K42 : Keep h0 T42.heap [] := K40.trans K42q (allS (Or.inr sz_b40) all0)
  have Z42 : n0 ≤ T42.heap.size := Nat.le_trans Z40 K42q.1
  have kown_nn0_167 : Jvm.Free.Fl.NoNaN64 (FP.ddiv (FP.i2d v14) (4616189618054758400 : UInt64)) := own_nn0_167 p0 p1 p2 p3 p4 p5 v2 hv2 v5 hv5 v8 hv8 v11 hv11 v14 hv14 v17 hv17 v22 hv22 v27 hv27 v32 hv32 v37 hv37
  have kown_nn0_174 : Jvm.Free.Fl.NoNaN64 (FP.ddiv (FP.i2d v17) (4616189618054758400 : UInt64)) := own_nn0_174 p0 p1 p2 p3 p4 p5 v2 hv2 v5 hv5 v8 hv8 v11 hv11 v14 hv14 v17 hv17 v22 hv22 v27 hv27 v32 hv32 v37 hv37
  have pre43 : ∀ t, Steps p.tables e below (T42.setTop (mkF m 175 #[.val (.int p0), .val (.int p1), .val (.int p2), .val (.int p3), .val (.int p4), .val (.int p5), .val (.int v2), .val (.int v5), .val (.int v8), .val (.int v11), .val (.int v14), .val (.int v17), .val (.int v22), .val (.int v27), .val (.int v32), .val (.int v37), .val (.ref b40), .unset, .unset, .unset, .unset] [(.double (FP.ddiv (FP.i2d v17) (4616189618054758400 : UInt64))), (.double (FP.ddiv (FP.i2d v14) (4616189618054758400 : UInt64))), (.ref b40)])) t → Steps p.tables e below (s₁.setTop (entryFrame m #[(.int p0), (.int p1), (.int p2), (.int p3), (.int p4), (.int p5)] maxLocals)) t := fun t k => pre41 t (by
    show Steps p.tables e below (T40.setTop (mkF m 154 #[.val (.int p0), .val (.int p1), .val (.int p2), .val (.int p3), .val (.int p4), .val (.int p5), .val (.int v2), .val (.int v5), .val (.int v8), .val (.int v11), .val (.int v14), .val (.int v17), .val (.int v22), .val (.int v27), .val (.int v32), .val (.int v37), .unset, .unset, .unset, .unset, .unset] [(.double (FP.ddiv (FP.i2d v37) (4616189618054758400 : UInt64))), (.double (FP.ddiv (FP.i2d v27) (4616189618054758400 : UInt64))), (.double (FP.ddiv (FP.i2d v32) (4616189618054758400 : UInt64))), (.double (FP.ddiv (FP.i2d v22) (4616189618054758400 : UInt64))), (.ref b40), (.ref b40)])) _
    refine st42.trans ?_
    show Steps p.tables e below (T42.setTop (mkF m 157 #[.val (.int p0), .val (.int p1), .val (.int p2), .val (.int p3), .val (.int p4), .val (.int p5), .val (.int v2), .val (.int v5), .val (.int v8), .val (.int v11), .val (.int v14), .val (.int v17), .val (.int v22), .val (.int v27), .val (.int v32), .val (.int v37), .unset, .unset, .unset, .unset, .unset] [(.ref b40)])) _
    refine XS.astore X42.here hx rfl (hb hby at_157) rfl rfl (l' := #[.val (.int p0), .val (.int p1), .val (.int p2), .val (.int p3), .val (.int p4), .val (.int p5), .val (.int v2), .val (.int v5), .val (.int v8), .val (.int v11), .val (.int v14), .val (.int v17), .val (.int v22), .val (.int v27), .val (.int v32), .val (.int v37), .val (.ref b40), .unset, .unset, .unset, .unset]) rfl ?_
    show Steps p.tables e below (T42.setTop (mkF m 159 #[.val (.int p0), .val (.int p1), .val (.int p2), .val (.int p3), .val (.int p4), .val (.int p5), .val (.int v2), .val (.int v5), .val (.int v8), .val (.int v11), .val (.int v14), .val (.int v17), .val (.int v22), .val (.int v27), .val (.int v32), .val (.int v37), .val (.ref b40), .unset, .unset, .unset, .unset] [])) _
    refine XS.aload X42.here hx rfl (hb hby at_159) rfl rfl ?_
    show Steps p.tables e below (T42.setTop (mkF m 161 #[.val (.int p0), .val (.int p1), .val (.int p2), .val (.int p3), .val (.int p4), .val (.int p5), .val (.int v2), .val (.int v5), .val (.int v8), .val (.int v11), .val (.int v14), .val (.int v17), .val (.int v22), .val (.int v27), .val (.int v32), .val (.int v37), .val (.ref b40), .unset, .unset, .unset, .unset] [(.ref b40)])) _
    refine XS.iload X42.here hx rfl (hb hby at_161) rfl ?_
    show Steps p.tables e below (T42.setTop (mkF m 163 #[.val (.int p0), .val (.int p1), .val (.int p2), .val (.int p3), .val (.int p4), .val (.int p5), .val (.int v2), .val (.int v5), .val (.int v8), .val (.int v11), .val (.int v14), .val (.int v17), .val (.int v22), .val (.int v27), .val (.int v32), .val (.int v37), .val (.ref b40), .unset, .unset, .unset, .unset] [(.int v14), (.ref b40)])) _
    refine XS.i2dS X42.here hx rfl (hb hby at_163) rfl rfl ?_
    show Steps p.tables e below (T42.setTop (mkF m 164 #[.val (.int p0), .val (.int p1), .val (.int p2), .val (.int p3), .val (.int p4), .val (.int p5), .val (.int v2), .val (.int v5), .val (.int v8), .val (.int v11), .val (.int v14), .val (.int v17), .val (.int v22), .val (.int v27), .val (.int v32), .val (.int v37), .val (.ref b40), .unset, .unset, .unset, .unset] [(.double (FP.i2d v14)), (.ref b40)])) _
    refine X42.ldc2DoubleC hx hown (mvT hZ (hw _ (List.mem_of_getElem? (i := 11) rfl))) (g := (mkF m 164 #[.val (.int p0), .val (.int p1), .val (.int p2), .val (.int p3), .val (.int p4), .val (.int p5), .val (.int v2), .val (.int v5), .val (.int v8), .val (.int v11), .val (.int v14), .val (.int v17), .val (.int v22), .val (.int v27), .val (.int v32), .val (.int v37), .val (.ref b40), .unset, .unset, .unset, .unset] [(.double (FP.i2d v14)), (.ref b40)])) rfl (hb hby at_164) _ ?_
    show Steps p.tables e below (T42.setTop (mkF m 167 #[.val (.int p0), .val (.int p1), .val (.int p2), .val (.int p3), .val (.int p4), .val (.int p5), .val (.int v2), .val (.int v5), .val (.int v8), .val (.int v11), .val (.int v14), .val (.int v17), .val (.int v22), .val (.int v27), .val (.int v32), .val (.int v37), .val (.ref b40), .unset, .unset, .unset, .unset] [(.double (4616189618054758400 : UInt64)), (.double (FP.i2d v14)), (.ref b40)])) _
    refine XS.ddivS X42.here hx rfl (hb hby at_167) rfl kown_nn0_167 rfl ?_
    show Steps p.tables e below (T42.setTop (mkF m 168 #[.val (.int p0), .val (.int p1), .val (.int p2), .val (.int p3), .val (.int p4), .val (.int p5), .val (.int v2), .val (.int v5), .val (.int v8), .val (.int v11), .val (.int v14), .val (.int v17), .val (.int v22), .val (.int v27), .val (.int v32), .val (.int v37), .val (.ref b40), .unset, .unset, .unset, .unset] [(.double (FP.ddiv (FP.i2d v14) (4616189618054758400 : UInt64))), (.ref b40)])) _
    refine XS.iload X42.here hx rfl (hb hby at_168) rfl ?_
    show Steps p.tables e below (T42.setTop (mkF m 170 #[.val (.int p0), .val (.int p1), .val (.int p2), .val (.int p3), .val (.int p4), .val (.int p5), .val (.int v2), .val (.int v5), .val (.int v8), .val (.int v11), .val (.int v14), .val (.int v17), .val (.int v22), .val (.int v27), .val (.int v32), .val (.int v37), .val (.ref b40), .unset, .unset, .unset, .unset] [(.int v17), (.double (FP.ddiv (FP.i2d v14) (4616189618054758400 : UInt64))), (.ref b40)])) _
    refine XS.i2dS X42.here hx rfl (hb hby at_170) rfl rfl ?_
    show Steps p.tables e below (T42.setTop (mkF m 171 #[.val (.int p0), .val (.int p1), .val (.int p2), .val (.int p3), .val (.int p4), .val (.int p5), .val (.int v2), .val (.int v5), .val (.int v8), .val (.int v11), .val (.int v14), .val (.int v17), .val (.int v22), .val (.int v27), .val (.int v32), .val (.int v37), .val (.ref b40), .unset, .unset, .unset, .unset] [(.double (FP.i2d v17)), (.double (FP.ddiv (FP.i2d v14) (4616189618054758400 : UInt64))), (.ref b40)])) _
    refine X42.ldc2DoubleC hx hown (mvT hZ (hw _ (List.mem_of_getElem? (i := 11) rfl))) (g := (mkF m 171 #[.val (.int p0), .val (.int p1), .val (.int p2), .val (.int p3), .val (.int p4), .val (.int p5), .val (.int v2), .val (.int v5), .val (.int v8), .val (.int v11), .val (.int v14), .val (.int v17), .val (.int v22), .val (.int v27), .val (.int v32), .val (.int v37), .val (.ref b40), .unset, .unset, .unset, .unset] [(.double (FP.i2d v17)), (.double (FP.ddiv (FP.i2d v14) (4616189618054758400 : UInt64))), (.ref b40)])) rfl (hb hby at_171) _ ?_
    show Steps p.tables e below (T42.setTop (mkF m 174 #[.val (.int p0), .val (.int p1), .val (.int p2), .val (.int p3), .val (.int p4), .val (.int p5), .val (.int v2), .val (.int v5), .val (.int v8), .val (.int v11), .val (.int v14), .val (.int v17), .val (.int v22), .val (.int v27), .val (.int v32), .val (.int v37), .val (.ref b40), .unset, .unset, .unset, .unset] [(.double (4616189618054758400 : UInt64)), (.double (FP.i2d v17)), (.double (FP.ddiv (FP.i2d v14) (4616189618054758400 : UInt64))), (.ref b40)])) _
    refine XS.ddivS X42.here hx rfl (hb hby at_174) rfl kown_nn0_174 rfl ?_
    exact k)
  obtain ⟨cq44, kq44, q44a, q44b, q44c⟩ := isOf hZ rfl A40_42
  obtain ⟨_, _, ⟨T44, L44, k44, n44⟩, -, X44, ⟨Lc44, hQ44, l44, y44, z44⟩, st44⟩ := X42.virtualBack hx (y := (⟨"com/example/adjacent_moments/adjacentmoments/query/Box", "contains", "(DD)Z"⟩ : MethodName)) (z := (⟨"com/example/adjacent_moments/adjacentmoments/query/Box", "contains", "(DD)Z"⟩ : MethodName)) hown (mvT hZ (hw _ (List.mem_of_getElem? (i := 42) rfl))) (mvT hZ (hw _ (List.mem_of_getElem? (i := 43) rfl))) (notFace_of_selects (args := #[]) (mvT hZ (hw _ (List.mem_of_getElem? (i := 45) rfl)))) (mvT hZ (hw _ (List.mem_of_getElem? (i := 45) rfl))) (mvT hZ (hw _ (List.mem_of_getElem? (i := 44) rfl))) (by decide) (backOf (W := 0) (rm8 l Z aw hw [] b40 (FP.ddiv (FP.i2d v14) (4616189618054758400 : UInt64)) (FP.ddiv (FP.i2d v17) (4616189618054758400 : UInt64)) (FP.ddiv (FP.i2d v22) (4616189618054758400 : UInt64)) (FP.ddiv (FP.i2d v27) (4616189618054758400 : UInt64)) (FP.ddiv (FP.i2d v32) (4616189618054758400 : UInt64)) (FP.ddiv (FP.i2d v37) (4616189618054758400 : UInt64)) T42.heap n0 Z42 F42_a0_minLatitude' F42_a0_maxLatitude' F42_a0_minLongitude' F42_a0_maxLongitude') hZ (hw _ (List.mem_of_getElem? (i := 46) rfl)) (hw _ (List.mem_of_getElem? (i := 10) rfl)) (by decide) (by decide)) q44a q44c (g := (mkF m 175 #[.val (.int p0), .val (.int p1), .val (.int p2), .val (.int p3), .val (.int p4), .val (.int p5), .val (.int v2), .val (.int v5), .val (.int v8), .val (.int v11), .val (.int v14), .val (.int v17), .val (.int v22), .val (.int v27), .val (.int v32), .val (.int v37), .val (.ref b40), .unset, .unset, .unset, .unset] [(.double (FP.ddiv (FP.i2d v17) (4616189618054758400 : UInt64))), (.double (FP.ddiv (FP.i2d v14) (4616189618054758400 : UInt64))), (.ref b40)])) rfl (by rw [hml]; rfl) (Steps.refl _) (argsL := [(.double (FP.ddiv (FP.i2d v14) (4616189618054758400 : UInt64))), (.double (FP.ddiv (FP.i2d v17) (4616189618054758400 : UInt64)))]) (rest := []) (lenOf pd_4 rfl) rfl (by show 2 * 0 + _ ≤ _; exact Nat.le_of_eq rfl) (hb hby at_175) (fun _ _ => ⟨rfl, rfl, (by decide : 1 + 0 ≤ _), (by decide : 4 + 0 ≤ _)⟩)
  dsimp only [Pt.U, Pt.locs, Pt.cells, Pt.slots] at X44 l44 y44 z44 st44 hQ44
  subst l44 y44 z44
  obtain ⟨rfl, N44q, e44⟩ := hQ44
  have N44 := Fr.app N42 N44q
  have pre45 : ∀ t, Steps p.tables e below (T44.setTop (mkF m 178 #[.val (.int p0), .val (.int p1), .val (.int p2), .val (.int p3), .val (.int p4), .val (.int p5), .val (.int v2), .val (.int v5), .val (.int v8), .val (.int v11), .val (.int v14), .val (.int v17), .val (.int v22), .val (.int v27), .val (.int v32), .val (.int v37), .val (.ref b40), .unset, .unset, .unset, .unset] [(.int (f8 (FP.ddiv (FP.i2d v14) (4616189618054758400 : UInt64)) (FP.ddiv (FP.i2d v17) (4616189618054758400 : UInt64)) (FP.ddiv (FP.i2d v22) (4616189618054758400 : UInt64)) (FP.ddiv (FP.i2d v27) (4616189618054758400 : UInt64)) (FP.ddiv (FP.i2d v32) (4616189618054758400 : UInt64)) (FP.ddiv (FP.i2d v37) (4616189618054758400 : UInt64))))])) t → Steps p.tables e below (s₁.setTop (entryFrame m #[(.int p0), (.int p1), (.int p2), (.int p3), (.int p4), (.int p5)] maxLocals)) t := fun t k => pre43 t (by
    show Steps p.tables e below (T42.setTop (mkF m 175 #[.val (.int p0), .val (.int p1), .val (.int p2), .val (.int p3), .val (.int p4), .val (.int p5), .val (.int v2), .val (.int v5), .val (.int v8), .val (.int v11), .val (.int v14), .val (.int v17), .val (.int v22), .val (.int v27), .val (.int v32), .val (.int v37), .val (.ref b40), .unset, .unset, .unset, .unset] [(.double (FP.ddiv (FP.i2d v17) (4616189618054758400 : UInt64))), (.double (FP.ddiv (FP.i2d v14) (4616189618054758400 : UInt64))), (.ref b40)])) _
    refine st44.trans ?_
    exact k)
  obtain ⟨v46, hv46⟩ : ∃ z : Int32, z = (f8 (FP.ddiv (FP.i2d v14) (4616189618054758400 : UInt64)) (FP.ddiv (FP.i2d v17) (4616189618054758400 : UInt64)) (FP.ddiv (FP.i2d v22) (4616189618054758400 : UInt64)) (FP.ddiv (FP.i2d v27) (4616189618054758400 : UInt64)) (FP.ddiv (FP.i2d v32) (4616189618054758400 : UInt64)) (FP.ddiv (FP.i2d v37) (4616189618054758400 : UInt64))) := ⟨_, rfl⟩
  have pre47 : ∀ t, Steps p.tables e below (T44.setTop (mkF m 178 #[.val (.int p0), .val (.int p1), .val (.int p2), .val (.int p3), .val (.int p4), .val (.int p5), .val (.int v2), .val (.int v5), .val (.int v8), .val (.int v11), .val (.int v14), .val (.int v17), .val (.int v22), .val (.int v27), .val (.int v32), .val (.int v37), .val (.ref b40), .unset, .unset, .unset, .unset] [(.int v46)])) t → Steps p.tables e below (s₁.setTop (entryFrame m #[(.int p0), (.int p1), (.int p2), (.int p3), (.int p4), (.int p5)] maxLocals)) t := fun t k => pre45 t (by rw [hv46] at k; exact k)
  have pre48 : ∀ t, Steps p.tables e below (T44.setTop (mkF m 184 #[.val (.int p0), .val (.int p1), .val (.int p2), .val (.int p3), .val (.int p4), .val (.int p5), .val (.int v2), .val (.int v5), .val (.int v8), .val (.int v11), .val (.int v14), .val (.int v17), .val (.int v22), .val (.int v27), .val (.int v32), .val (.int v37), .val (.ref b40), .val (.int v46), .unset, .unset, .unset] [(.int v14), (.int v22)])) t → Steps p.tables e below (s₁.setTop (entryFrame m #[(.int p0), (.int p1), (.int p2), (.int p3), (.int p4), (.int p5)] maxLocals)) t := fun t k => pre47 t (by
    show Steps p.tables e below (T44.setTop (mkF m 178 #[.val (.int p0), .val (.int p1), .val (.int p2), .val (.int p3), .val (.int p4), .val (.int p5), .val (.int v2), .val (.int v5), .val (.int v8), .val (.int v11), .val (.int v14), .val (.int v17), .val (.int v22), .val (.int v27), .val (.int v32), .val (.int v37), .val (.ref b40), .unset, .unset, .unset, .unset] [(.int v46)])) _
    refine XS.istore X44.here hx rfl (hb hby at_178) rfl (l' := #[.val (.int p0), .val (.int p1), .val (.int p2), .val (.int p3), .val (.int p4), .val (.int p5), .val (.int v2), .val (.int v5), .val (.int v8), .val (.int v11), .val (.int v14), .val (.int v17), .val (.int v22), .val (.int v27), .val (.int v32), .val (.int v37), .val (.ref b40), .val (.int v46), .unset, .unset, .unset]) rfl ?_
    show Steps p.tables e below (T44.setTop (mkF m 180 #[.val (.int p0), .val (.int p1), .val (.int p2), .val (.int p3), .val (.int p4), .val (.int p5), .val (.int v2), .val (.int v5), .val (.int v8), .val (.int v11), .val (.int v14), .val (.int v17), .val (.int v22), .val (.int v27), .val (.int v32), .val (.int v37), .val (.ref b40), .val (.int v46), .unset, .unset, .unset] [])) _
    refine XS.iload X44.here hx rfl (hb hby at_180) rfl ?_
    show Steps p.tables e below (T44.setTop (mkF m 182 #[.val (.int p0), .val (.int p1), .val (.int p2), .val (.int p3), .val (.int p4), .val (.int p5), .val (.int v2), .val (.int v5), .val (.int v8), .val (.int v11), .val (.int v14), .val (.int v17), .val (.int v22), .val (.int v27), .val (.int v32), .val (.int v37), .val (.ref b40), .val (.int v46), .unset, .unset, .unset] [(.int v22)])) _
    refine XS.iload X44.here hx rfl (hb hby at_182) rfl ?_
    exact k)
  obtain ⟨j52, hj52, pre53⟩ : ∃ (j52 : Int32), j52 = (if v14 < v22 then (0 : Int32) else (if v27 < v14 then (0 : Int32) else (1 : Int32))) ∧ ∀ t, Steps p.tables e below (T44.setTop (mkF m 199 #[.val (.int p0), .val (.int p1), .val (.int p2), .val (.int p3), .val (.int p4), .val (.int p5), .val (.int v2), .val (.int v5), .val (.int v8), .val (.int v11), .val (.int v14), .val (.int v17), .val (.int v22), .val (.int v27), .val (.int v32), .val (.int v37), .val (.ref b40), .val (.int v46), .unset, .unset, .unset] [(.int j52)])) t → Steps p.tables e below (s₁.setTop (entryFrame m #[(.int p0), (.int p1), (.int p2), (.int p3), (.int p4), (.int p5)] maxLocals)) t := by
    by_cases hc49 : v14 < v22
    · exact ⟨(0 : Int32), (by rw [if_pos hc49]), fun t k => pre48 t (by
        show Steps p.tables e below (T44.setTop (mkF m 184 #[.val (.int p0), .val (.int p1), .val (.int p2), .val (.int p3), .val (.int p4), .val (.int p5), .val (.int v2), .val (.int v5), .val (.int v8), .val (.int v11), .val (.int v14), .val (.int v17), .val (.int v22), .val (.int v27), .val (.int v32), .val (.int v37), .val (.ref b40), .val (.int v46), .unset, .unset, .unset] [(.int v14), (.int v22)])) _
        refine XS.icmpYes X44.here hx rfl (pc0 := 184) (pc' := 198) rfl (hb hby at_184) rfl (tlt hc49).2.2.1 (by decide) (by decide) ?_
        show Steps p.tables e below (T44.setTop (mkF m 198 #[.val (.int p0), .val (.int p1), .val (.int p2), .val (.int p3), .val (.int p4), .val (.int p5), .val (.int v2), .val (.int v5), .val (.int v8), .val (.int v11), .val (.int v14), .val (.int v17), .val (.int v22), .val (.int v27), .val (.int v32), .val (.int v37), .val (.ref b40), .val (.int v46), .unset, .unset, .unset] [])) _
        refine XS.iconst X44.here hx rfl (hb hby at_198) ?_
        exact k)⟩
    · have pre50 : ∀ t, Steps p.tables e below (T44.setTop (mkF m 191 #[.val (.int p0), .val (.int p1), .val (.int p2), .val (.int p3), .val (.int p4), .val (.int p5), .val (.int v2), .val (.int v5), .val (.int v8), .val (.int v11), .val (.int v14), .val (.int v17), .val (.int v22), .val (.int v27), .val (.int v32), .val (.int v37), .val (.ref b40), .val (.int v46), .unset, .unset, .unset] [(.int v27), (.int v14)])) t → Steps p.tables e below (s₁.setTop (entryFrame m #[(.int p0), (.int p1), (.int p2), (.int p3), (.int p4), (.int p5)] maxLocals)) t := fun t k => pre48 t (by
        show Steps p.tables e below (T44.setTop (mkF m 184 #[.val (.int p0), .val (.int p1), .val (.int p2), .val (.int p3), .val (.int p4), .val (.int p5), .val (.int v2), .val (.int v5), .val (.int v8), .val (.int v11), .val (.int v14), .val (.int v17), .val (.int v22), .val (.int v27), .val (.int v32), .val (.int v37), .val (.ref b40), .val (.int v46), .unset, .unset, .unset] [(.int v14), (.int v22)])) _
        refine XS.icmpNo X44.here hx rfl (hb hby at_184) rfl (flt hc49).2.2.1 ?_
        show Steps p.tables e below (T44.setTop (mkF m 187 #[.val (.int p0), .val (.int p1), .val (.int p2), .val (.int p3), .val (.int p4), .val (.int p5), .val (.int v2), .val (.int v5), .val (.int v8), .val (.int v11), .val (.int v14), .val (.int v17), .val (.int v22), .val (.int v27), .val (.int v32), .val (.int v37), .val (.ref b40), .val (.int v46), .unset, .unset, .unset] [])) _
        refine XS.iload X44.here hx rfl (hb hby at_187) rfl ?_
        show Steps p.tables e below (T44.setTop (mkF m 189 #[.val (.int p0), .val (.int p1), .val (.int p2), .val (.int p3), .val (.int p4), .val (.int p5), .val (.int v2), .val (.int v5), .val (.int v8), .val (.int v11), .val (.int v14), .val (.int v17), .val (.int v22), .val (.int v27), .val (.int v32), .val (.int v37), .val (.ref b40), .val (.int v46), .unset, .unset, .unset] [(.int v14)])) _
        refine XS.iload X44.here hx rfl (hb hby at_189) rfl ?_
        exact k)
      by_cases hc51 : v27 < v14
      · exact ⟨(0 : Int32), (by rw [if_neg hc49, if_pos hc51]), fun t k => pre50 t (by
          show Steps p.tables e below (T44.setTop (mkF m 191 #[.val (.int p0), .val (.int p1), .val (.int p2), .val (.int p3), .val (.int p4), .val (.int p5), .val (.int v2), .val (.int v5), .val (.int v8), .val (.int v11), .val (.int v14), .val (.int v17), .val (.int v22), .val (.int v27), .val (.int v32), .val (.int v37), .val (.ref b40), .val (.int v46), .unset, .unset, .unset] [(.int v27), (.int v14)])) _
          refine XS.icmpYes X44.here hx rfl (pc0 := 191) (pc' := 198) rfl (hb hby at_191) rfl (tlt hc51).2.2.1 (by decide) (by decide) ?_
          show Steps p.tables e below (T44.setTop (mkF m 198 #[.val (.int p0), .val (.int p1), .val (.int p2), .val (.int p3), .val (.int p4), .val (.int p5), .val (.int v2), .val (.int v5), .val (.int v8), .val (.int v11), .val (.int v14), .val (.int v17), .val (.int v22), .val (.int v27), .val (.int v32), .val (.int v37), .val (.ref b40), .val (.int v46), .unset, .unset, .unset] [])) _
          refine XS.iconst X44.here hx rfl (hb hby at_198) ?_
          exact k)⟩
      · exact ⟨(1 : Int32), (by rw [if_neg hc49, if_neg hc51]), fun t k => pre50 t (by
          show Steps p.tables e below (T44.setTop (mkF m 191 #[.val (.int p0), .val (.int p1), .val (.int p2), .val (.int p3), .val (.int p4), .val (.int p5), .val (.int v2), .val (.int v5), .val (.int v8), .val (.int v11), .val (.int v14), .val (.int v17), .val (.int v22), .val (.int v27), .val (.int v32), .val (.int v37), .val (.ref b40), .val (.int v46), .unset, .unset, .unset] [(.int v27), (.int v14)])) _
          refine XS.icmpNo X44.here hx rfl (hb hby at_191) rfl (flt hc51).2.2.1 ?_
          show Steps p.tables e below (T44.setTop (mkF m 194 #[.val (.int p0), .val (.int p1), .val (.int p2), .val (.int p3), .val (.int p4), .val (.int p5), .val (.int v2), .val (.int v5), .val (.int v8), .val (.int v11), .val (.int v14), .val (.int v17), .val (.int v22), .val (.int v27), .val (.int v32), .val (.int v37), .val (.ref b40), .val (.int v46), .unset, .unset, .unset] [])) _
          refine XS.iconst X44.here hx rfl (hb hby at_194) ?_
          show Steps p.tables e below (T44.setTop (mkF m 195 #[.val (.int p0), .val (.int p1), .val (.int p2), .val (.int p3), .val (.int p4), .val (.int p5), .val (.int v2), .val (.int v5), .val (.int v8), .val (.int v11), .val (.int v14), .val (.int v17), .val (.int v22), .val (.int v27), .val (.int v32), .val (.int v37), .val (.ref b40), .val (.int v46), .unset, .unset, .unset] [(.int (1 : Int32))])) _
          refine XS.goto X44.here hx rfl (pc0 := 195) (pc' := 199) rfl (hb hby at_195) (by decide) (by decide) ?_
          exact k)⟩
  have pre54 : ∀ t, Steps p.tables e below (T44.setTop (mkF m 205 #[.val (.int p0), .val (.int p1), .val (.int p2), .val (.int p3), .val (.int p4), .val (.int p5), .val (.int v2), .val (.int v5), .val (.int v8), .val (.int v11), .val (.int v14), .val (.int v17), .val (.int v22), .val (.int v27), .val (.int v32), .val (.int v37), .val (.ref b40), .val (.int v46), .val (.int j52), .unset, .unset] [(.int v17), (.int v32)])) t → Steps p.tables e below (s₁.setTop (entryFrame m #[(.int p0), (.int p1), (.int p2), (.int p3), (.int p4), (.int p5)] maxLocals)) t := fun t k => pre53 t (by
    show Steps p.tables e below (T44.setTop (mkF m 199 #[.val (.int p0), .val (.int p1), .val (.int p2), .val (.int p3), .val (.int p4), .val (.int p5), .val (.int v2), .val (.int v5), .val (.int v8), .val (.int v11), .val (.int v14), .val (.int v17), .val (.int v22), .val (.int v27), .val (.int v32), .val (.int v37), .val (.ref b40), .val (.int v46), .unset, .unset, .unset] [(.int j52)])) _
    refine XS.istore X44.here hx rfl (hb hby at_199) rfl (l' := #[.val (.int p0), .val (.int p1), .val (.int p2), .val (.int p3), .val (.int p4), .val (.int p5), .val (.int v2), .val (.int v5), .val (.int v8), .val (.int v11), .val (.int v14), .val (.int v17), .val (.int v22), .val (.int v27), .val (.int v32), .val (.int v37), .val (.ref b40), .val (.int v46), .val (.int j52), .unset, .unset]) rfl ?_
    show Steps p.tables e below (T44.setTop (mkF m 201 #[.val (.int p0), .val (.int p1), .val (.int p2), .val (.int p3), .val (.int p4), .val (.int p5), .val (.int v2), .val (.int v5), .val (.int v8), .val (.int v11), .val (.int v14), .val (.int v17), .val (.int v22), .val (.int v27), .val (.int v32), .val (.int v37), .val (.ref b40), .val (.int v46), .val (.int j52), .unset, .unset] [])) _
    refine XS.iload X44.here hx rfl (hb hby at_201) rfl ?_
    show Steps p.tables e below (T44.setTop (mkF m 203 #[.val (.int p0), .val (.int p1), .val (.int p2), .val (.int p3), .val (.int p4), .val (.int p5), .val (.int v2), .val (.int v5), .val (.int v8), .val (.int v11), .val (.int v14), .val (.int v17), .val (.int v22), .val (.int v27), .val (.int v32), .val (.int v37), .val (.ref b40), .val (.int v46), .val (.int j52), .unset, .unset] [(.int v32)])) _
    refine XS.iload X44.here hx rfl (hb hby at_203) rfl ?_
    exact k)
  obtain ⟨j58, hj58, pre59⟩ : ∃ (j58 : Int32), j58 = (if v17 < v32 then (0 : Int32) else (if v37 < v17 then (0 : Int32) else (1 : Int32))) ∧ ∀ t, Steps p.tables e below (T44.setTop (mkF m 220 #[.val (.int p0), .val (.int p1), .val (.int p2), .val (.int p3), .val (.int p4), .val (.int p5), .val (.int v2), .val (.int v5), .val (.int v8), .val (.int v11), .val (.int v14), .val (.int v17), .val (.int v22), .val (.int v27), .val (.int v32), .val (.int v37), .val (.ref b40), .val (.int v46), .val (.int j52), .unset, .unset] [(.int j58)])) t → Steps p.tables e below (s₁.setTop (entryFrame m #[(.int p0), (.int p1), (.int p2), (.int p3), (.int p4), (.int p5)] maxLocals)) t := by
    by_cases hc55 : v17 < v32
    · exact ⟨(0 : Int32), (by rw [if_pos hc55]), fun t k => pre54 t (by
        show Steps p.tables e below (T44.setTop (mkF m 205 #[.val (.int p0), .val (.int p1), .val (.int p2), .val (.int p3), .val (.int p4), .val (.int p5), .val (.int v2), .val (.int v5), .val (.int v8), .val (.int v11), .val (.int v14), .val (.int v17), .val (.int v22), .val (.int v27), .val (.int v32), .val (.int v37), .val (.ref b40), .val (.int v46), .val (.int j52), .unset, .unset] [(.int v17), (.int v32)])) _
        refine XS.icmpYes X44.here hx rfl (pc0 := 205) (pc' := 219) rfl (hb hby at_205) rfl (tlt hc55).2.2.1 (by decide) (by decide) ?_
        show Steps p.tables e below (T44.setTop (mkF m 219 #[.val (.int p0), .val (.int p1), .val (.int p2), .val (.int p3), .val (.int p4), .val (.int p5), .val (.int v2), .val (.int v5), .val (.int v8), .val (.int v11), .val (.int v14), .val (.int v17), .val (.int v22), .val (.int v27), .val (.int v32), .val (.int v37), .val (.ref b40), .val (.int v46), .val (.int j52), .unset, .unset] [])) _
        refine XS.iconst X44.here hx rfl (hb hby at_219) ?_
        exact k)⟩
    · have pre56 : ∀ t, Steps p.tables e below (T44.setTop (mkF m 212 #[.val (.int p0), .val (.int p1), .val (.int p2), .val (.int p3), .val (.int p4), .val (.int p5), .val (.int v2), .val (.int v5), .val (.int v8), .val (.int v11), .val (.int v14), .val (.int v17), .val (.int v22), .val (.int v27), .val (.int v32), .val (.int v37), .val (.ref b40), .val (.int v46), .val (.int j52), .unset, .unset] [(.int v37), (.int v17)])) t → Steps p.tables e below (s₁.setTop (entryFrame m #[(.int p0), (.int p1), (.int p2), (.int p3), (.int p4), (.int p5)] maxLocals)) t := fun t k => pre54 t (by
        show Steps p.tables e below (T44.setTop (mkF m 205 #[.val (.int p0), .val (.int p1), .val (.int p2), .val (.int p3), .val (.int p4), .val (.int p5), .val (.int v2), .val (.int v5), .val (.int v8), .val (.int v11), .val (.int v14), .val (.int v17), .val (.int v22), .val (.int v27), .val (.int v32), .val (.int v37), .val (.ref b40), .val (.int v46), .val (.int j52), .unset, .unset] [(.int v17), (.int v32)])) _
        refine XS.icmpNo X44.here hx rfl (hb hby at_205) rfl (flt hc55).2.2.1 ?_
        show Steps p.tables e below (T44.setTop (mkF m 208 #[.val (.int p0), .val (.int p1), .val (.int p2), .val (.int p3), .val (.int p4), .val (.int p5), .val (.int v2), .val (.int v5), .val (.int v8), .val (.int v11), .val (.int v14), .val (.int v17), .val (.int v22), .val (.int v27), .val (.int v32), .val (.int v37), .val (.ref b40), .val (.int v46), .val (.int j52), .unset, .unset] [])) _
        refine XS.iload X44.here hx rfl (hb hby at_208) rfl ?_
        show Steps p.tables e below (T44.setTop (mkF m 210 #[.val (.int p0), .val (.int p1), .val (.int p2), .val (.int p3), .val (.int p4), .val (.int p5), .val (.int v2), .val (.int v5), .val (.int v8), .val (.int v11), .val (.int v14), .val (.int v17), .val (.int v22), .val (.int v27), .val (.int v32), .val (.int v37), .val (.ref b40), .val (.int v46), .val (.int j52), .unset, .unset] [(.int v17)])) _
        refine XS.iload X44.here hx rfl (hb hby at_210) rfl ?_
        exact k)
      by_cases hc57 : v37 < v17
      · exact ⟨(0 : Int32), (by rw [if_neg hc55, if_pos hc57]), fun t k => pre56 t (by
          show Steps p.tables e below (T44.setTop (mkF m 212 #[.val (.int p0), .val (.int p1), .val (.int p2), .val (.int p3), .val (.int p4), .val (.int p5), .val (.int v2), .val (.int v5), .val (.int v8), .val (.int v11), .val (.int v14), .val (.int v17), .val (.int v22), .val (.int v27), .val (.int v32), .val (.int v37), .val (.ref b40), .val (.int v46), .val (.int j52), .unset, .unset] [(.int v37), (.int v17)])) _
          refine XS.icmpYes X44.here hx rfl (pc0 := 212) (pc' := 219) rfl (hb hby at_212) rfl (tlt hc57).2.2.1 (by decide) (by decide) ?_
          show Steps p.tables e below (T44.setTop (mkF m 219 #[.val (.int p0), .val (.int p1), .val (.int p2), .val (.int p3), .val (.int p4), .val (.int p5), .val (.int v2), .val (.int v5), .val (.int v8), .val (.int v11), .val (.int v14), .val (.int v17), .val (.int v22), .val (.int v27), .val (.int v32), .val (.int v37), .val (.ref b40), .val (.int v46), .val (.int j52), .unset, .unset] [])) _
          refine XS.iconst X44.here hx rfl (hb hby at_219) ?_
          exact k)⟩
      · exact ⟨(1 : Int32), (by rw [if_neg hc55, if_neg hc57]), fun t k => pre56 t (by
          show Steps p.tables e below (T44.setTop (mkF m 212 #[.val (.int p0), .val (.int p1), .val (.int p2), .val (.int p3), .val (.int p4), .val (.int p5), .val (.int v2), .val (.int v5), .val (.int v8), .val (.int v11), .val (.int v14), .val (.int v17), .val (.int v22), .val (.int v27), .val (.int v32), .val (.int v37), .val (.ref b40), .val (.int v46), .val (.int j52), .unset, .unset] [(.int v37), (.int v17)])) _
          refine XS.icmpNo X44.here hx rfl (hb hby at_212) rfl (flt hc57).2.2.1 ?_
          show Steps p.tables e below (T44.setTop (mkF m 215 #[.val (.int p0), .val (.int p1), .val (.int p2), .val (.int p3), .val (.int p4), .val (.int p5), .val (.int v2), .val (.int v5), .val (.int v8), .val (.int v11), .val (.int v14), .val (.int v17), .val (.int v22), .val (.int v27), .val (.int v32), .val (.int v37), .val (.ref b40), .val (.int v46), .val (.int j52), .unset, .unset] [])) _
          refine XS.iconst X44.here hx rfl (hb hby at_215) ?_
          show Steps p.tables e below (T44.setTop (mkF m 216 #[.val (.int p0), .val (.int p1), .val (.int p2), .val (.int p3), .val (.int p4), .val (.int p5), .val (.int v2), .val (.int v5), .val (.int v8), .val (.int v11), .val (.int v14), .val (.int v17), .val (.int v22), .val (.int v27), .val (.int v32), .val (.int v37), .val (.ref b40), .val (.int v46), .val (.int j52), .unset, .unset] [(.int (1 : Int32))])) _
          refine XS.goto X44.here hx rfl (pc0 := 216) (pc' := 220) rfl (hb hby at_216) (by decide) (by decide) ?_
          exact k)⟩
  have pre60 : ∀ t, Steps p.tables e below (T44.setTop (mkF m 224 #[.val (.int p0), .val (.int p1), .val (.int p2), .val (.int p3), .val (.int p4), .val (.int p5), .val (.int v2), .val (.int v5), .val (.int v8), .val (.int v11), .val (.int v14), .val (.int v17), .val (.int v22), .val (.int v27), .val (.int v32), .val (.int v37), .val (.ref b40), .val (.int v46), .val (.int j52), .val (.int j58), .unset] [(.int j52)])) t → Steps p.tables e below (s₁.setTop (entryFrame m #[(.int p0), (.int p1), (.int p2), (.int p3), (.int p4), (.int p5)] maxLocals)) t := fun t k => pre59 t (by
    show Steps p.tables e below (T44.setTop (mkF m 220 #[.val (.int p0), .val (.int p1), .val (.int p2), .val (.int p3), .val (.int p4), .val (.int p5), .val (.int v2), .val (.int v5), .val (.int v8), .val (.int v11), .val (.int v14), .val (.int v17), .val (.int v22), .val (.int v27), .val (.int v32), .val (.int v37), .val (.ref b40), .val (.int v46), .val (.int j52), .unset, .unset] [(.int j58)])) _
    refine XS.istore X44.here hx rfl (hb hby at_220) rfl (l' := #[.val (.int p0), .val (.int p1), .val (.int p2), .val (.int p3), .val (.int p4), .val (.int p5), .val (.int v2), .val (.int v5), .val (.int v8), .val (.int v11), .val (.int v14), .val (.int v17), .val (.int v22), .val (.int v27), .val (.int v32), .val (.int v37), .val (.ref b40), .val (.int v46), .val (.int j52), .val (.int j58), .unset]) rfl ?_
    show Steps p.tables e below (T44.setTop (mkF m 222 #[.val (.int p0), .val (.int p1), .val (.int p2), .val (.int p3), .val (.int p4), .val (.int p5), .val (.int v2), .val (.int v5), .val (.int v8), .val (.int v11), .val (.int v14), .val (.int v17), .val (.int v22), .val (.int v27), .val (.int v32), .val (.int v37), .val (.ref b40), .val (.int v46), .val (.int j52), .val (.int j58), .unset] [])) _
    refine XS.iload X44.here hx rfl (hb hby at_222) rfl ?_
    exact k)
  obtain ⟨j64, hj64, pre65⟩ : ∃ (j64 : Int32), j64 = (if j52 = (0 : Int32) then (0 : Int32) else (if j58 = (0 : Int32) then (0 : Int32) else (1 : Int32))) ∧ ∀ t, Steps p.tables e below (T44.setTop (mkF m 237 #[.val (.int p0), .val (.int p1), .val (.int p2), .val (.int p3), .val (.int p4), .val (.int p5), .val (.int v2), .val (.int v5), .val (.int v8), .val (.int v11), .val (.int v14), .val (.int v17), .val (.int v22), .val (.int v27), .val (.int v32), .val (.int v37), .val (.ref b40), .val (.int v46), .val (.int j52), .val (.int j58), .unset] [(.int j64)])) t → Steps p.tables e below (s₁.setTop (entryFrame m #[(.int p0), (.int p1), (.int p2), (.int p3), (.int p4), (.int p5)] maxLocals)) t := by
    by_cases hc61 : j52 = (0 : Int32)
    · exact ⟨(0 : Int32), (by rw [if_pos hc61]), fun t k => pre60 t (by
        show Steps p.tables e below (T44.setTop (mkF m 224 #[.val (.int p0), .val (.int p1), .val (.int p2), .val (.int p3), .val (.int p4), .val (.int p5), .val (.int v2), .val (.int v5), .val (.int v8), .val (.int v11), .val (.int v14), .val (.int v17), .val (.int v22), .val (.int v27), .val (.int v32), .val (.int v37), .val (.ref b40), .val (.int v46), .val (.int j52), .val (.int j58), .unset] [(.int j52)])) _
        refine XS.ifYes X44.here hx rfl (pc0 := 224) (pc' := 236) rfl (hb hby at_224) rfl ((if0 _ _).trans (teq hc61).1) (by decide) (by decide) ?_
        show Steps p.tables e below (T44.setTop (mkF m 236 #[.val (.int p0), .val (.int p1), .val (.int p2), .val (.int p3), .val (.int p4), .val (.int p5), .val (.int v2), .val (.int v5), .val (.int v8), .val (.int v11), .val (.int v14), .val (.int v17), .val (.int v22), .val (.int v27), .val (.int v32), .val (.int v37), .val (.ref b40), .val (.int v46), .val (.int j52), .val (.int j58), .unset] [])) _
        refine XS.iconst X44.here hx rfl (hb hby at_236) ?_
        exact k)⟩
    · have pre62 : ∀ t, Steps p.tables e below (T44.setTop (mkF m 229 #[.val (.int p0), .val (.int p1), .val (.int p2), .val (.int p3), .val (.int p4), .val (.int p5), .val (.int v2), .val (.int v5), .val (.int v8), .val (.int v11), .val (.int v14), .val (.int v17), .val (.int v22), .val (.int v27), .val (.int v32), .val (.int v37), .val (.ref b40), .val (.int v46), .val (.int j52), .val (.int j58), .unset] [(.int j58)])) t → Steps p.tables e below (s₁.setTop (entryFrame m #[(.int p0), (.int p1), (.int p2), (.int p3), (.int p4), (.int p5)] maxLocals)) t := fun t k => pre60 t (by
        show Steps p.tables e below (T44.setTop (mkF m 224 #[.val (.int p0), .val (.int p1), .val (.int p2), .val (.int p3), .val (.int p4), .val (.int p5), .val (.int v2), .val (.int v5), .val (.int v8), .val (.int v11), .val (.int v14), .val (.int v17), .val (.int v22), .val (.int v27), .val (.int v32), .val (.int v37), .val (.ref b40), .val (.int v46), .val (.int j52), .val (.int j58), .unset] [(.int j52)])) _
        refine XS.ifNo X44.here hx rfl (hb hby at_224) rfl ((if0 _ _).trans (feq hc61).1) ?_
        show Steps p.tables e below (T44.setTop (mkF m 227 #[.val (.int p0), .val (.int p1), .val (.int p2), .val (.int p3), .val (.int p4), .val (.int p5), .val (.int v2), .val (.int v5), .val (.int v8), .val (.int v11), .val (.int v14), .val (.int v17), .val (.int v22), .val (.int v27), .val (.int v32), .val (.int v37), .val (.ref b40), .val (.int v46), .val (.int j52), .val (.int j58), .unset] [])) _
        refine XS.iload X44.here hx rfl (hb hby at_227) rfl ?_
        exact k)
      by_cases hc63 : j58 = (0 : Int32)
      · exact ⟨(0 : Int32), (by rw [if_neg hc61, if_pos hc63]), fun t k => pre62 t (by
          show Steps p.tables e below (T44.setTop (mkF m 229 #[.val (.int p0), .val (.int p1), .val (.int p2), .val (.int p3), .val (.int p4), .val (.int p5), .val (.int v2), .val (.int v5), .val (.int v8), .val (.int v11), .val (.int v14), .val (.int v17), .val (.int v22), .val (.int v27), .val (.int v32), .val (.int v37), .val (.ref b40), .val (.int v46), .val (.int j52), .val (.int j58), .unset] [(.int j58)])) _
          refine XS.ifYes X44.here hx rfl (pc0 := 229) (pc' := 236) rfl (hb hby at_229) rfl ((if0 _ _).trans (teq hc63).1) (by decide) (by decide) ?_
          show Steps p.tables e below (T44.setTop (mkF m 236 #[.val (.int p0), .val (.int p1), .val (.int p2), .val (.int p3), .val (.int p4), .val (.int p5), .val (.int v2), .val (.int v5), .val (.int v8), .val (.int v11), .val (.int v14), .val (.int v17), .val (.int v22), .val (.int v27), .val (.int v32), .val (.int v37), .val (.ref b40), .val (.int v46), .val (.int j52), .val (.int j58), .unset] [])) _
          refine XS.iconst X44.here hx rfl (hb hby at_236) ?_
          exact k)⟩
      · exact ⟨(1 : Int32), (by rw [if_neg hc61, if_neg hc63]), fun t k => pre62 t (by
          show Steps p.tables e below (T44.setTop (mkF m 229 #[.val (.int p0), .val (.int p1), .val (.int p2), .val (.int p3), .val (.int p4), .val (.int p5), .val (.int v2), .val (.int v5), .val (.int v8), .val (.int v11), .val (.int v14), .val (.int v17), .val (.int v22), .val (.int v27), .val (.int v32), .val (.int v37), .val (.ref b40), .val (.int v46), .val (.int j52), .val (.int j58), .unset] [(.int j58)])) _
          refine XS.ifNo X44.here hx rfl (hb hby at_229) rfl ((if0 _ _).trans (feq hc63).1) ?_
          show Steps p.tables e below (T44.setTop (mkF m 232 #[.val (.int p0), .val (.int p1), .val (.int p2), .val (.int p3), .val (.int p4), .val (.int p5), .val (.int v2), .val (.int v5), .val (.int v8), .val (.int v11), .val (.int v14), .val (.int v17), .val (.int v22), .val (.int v27), .val (.int v32), .val (.int v37), .val (.ref b40), .val (.int v46), .val (.int j52), .val (.int j58), .unset] [])) _
          refine XS.iconst X44.here hx rfl (hb hby at_232) ?_
          show Steps p.tables e below (T44.setTop (mkF m 233 #[.val (.int p0), .val (.int p1), .val (.int p2), .val (.int p3), .val (.int p4), .val (.int p5), .val (.int v2), .val (.int v5), .val (.int v8), .val (.int v11), .val (.int v14), .val (.int v17), .val (.int v22), .val (.int v27), .val (.int v32), .val (.int v37), .val (.ref b40), .val (.int v46), .val (.int j52), .val (.int j58), .unset] [(.int (1 : Int32))])) _
          refine XS.goto X44.here hx rfl (pc0 := 233) (pc' := 237) rfl (hb hby at_233) (by decide) (by decide) ?_
          exact k)⟩
  have pre66 : ∀ t, Steps p.tables e below (T44.setTop (mkF m 243 #[.val (.int p0), .val (.int p1), .val (.int p2), .val (.int p3), .val (.int p4), .val (.int p5), .val (.int v2), .val (.int v5), .val (.int v8), .val (.int v11), .val (.int v14), .val (.int v17), .val (.int v22), .val (.int v27), .val (.int v32), .val (.int v37), .val (.ref b40), .val (.int v46), .val (.int j52), .val (.int j58), .val (.int j64)] [(.int j64), (.int v46)])) t → Steps p.tables e below (s₁.setTop (entryFrame m #[(.int p0), (.int p1), (.int p2), (.int p3), (.int p4), (.int p5)] maxLocals)) t := fun t k => pre65 t (by
    show Steps p.tables e below (T44.setTop (mkF m 237 #[.val (.int p0), .val (.int p1), .val (.int p2), .val (.int p3), .val (.int p4), .val (.int p5), .val (.int v2), .val (.int v5), .val (.int v8), .val (.int v11), .val (.int v14), .val (.int v17), .val (.int v22), .val (.int v27), .val (.int v32), .val (.int v37), .val (.ref b40), .val (.int v46), .val (.int j52), .val (.int j58), .unset] [(.int j64)])) _
    refine XS.istore X44.here hx rfl (hb hby at_237) rfl (l' := #[.val (.int p0), .val (.int p1), .val (.int p2), .val (.int p3), .val (.int p4), .val (.int p5), .val (.int v2), .val (.int v5), .val (.int v8), .val (.int v11), .val (.int v14), .val (.int v17), .val (.int v22), .val (.int v27), .val (.int v32), .val (.int v37), .val (.ref b40), .val (.int v46), .val (.int j52), .val (.int j58), .val (.int j64)]) rfl ?_
    show Steps p.tables e below (T44.setTop (mkF m 239 #[.val (.int p0), .val (.int p1), .val (.int p2), .val (.int p3), .val (.int p4), .val (.int p5), .val (.int v2), .val (.int v5), .val (.int v8), .val (.int v11), .val (.int v14), .val (.int v17), .val (.int v22), .val (.int v27), .val (.int v32), .val (.int v37), .val (.ref b40), .val (.int v46), .val (.int j52), .val (.int j58), .val (.int j64)] [])) _
    refine XS.iload X44.here hx rfl (hb hby at_239) rfl ?_
    show Steps p.tables e below (T44.setTop (mkF m 241 #[.val (.int p0), .val (.int p1), .val (.int p2), .val (.int p3), .val (.int p4), .val (.int p5), .val (.int v2), .val (.int v5), .val (.int v8), .val (.int v11), .val (.int v14), .val (.int v17), .val (.int v22), .val (.int v27), .val (.int v32), .val (.int v37), .val (.ref b40), .val (.int v46), .val (.int j52), .val (.int j58), .val (.int j64)] [(.int v46)])) _
    refine XS.iload X44.here hx rfl (hb hby at_241) rfl ?_
    exact k)
  obtain ⟨j68, hj68, pre69⟩ : ∃ (j68 : Int32), j68 = (if v46 = j64 then (1 : Int32) else (0 : Int32)) ∧ ∀ t, Steps p.tables e below (T44.setTop (mkF m 251 #[.val (.int p0), .val (.int p1), .val (.int p2), .val (.int p3), .val (.int p4), .val (.int p5), .val (.int v2), .val (.int v5), .val (.int v8), .val (.int v11), .val (.int v14), .val (.int v17), .val (.int v22), .val (.int v27), .val (.int v32), .val (.int v37), .val (.ref b40), .val (.int v46), .val (.int j52), .val (.int j58), .val (.int j64)] [(.int j68)])) t → Steps p.tables e below (s₁.setTop (entryFrame m #[(.int p0), (.int p1), (.int p2), (.int p3), (.int p4), (.int p5)] maxLocals)) t := by
    by_cases hc67 : v46 = j64
    · exact ⟨(1 : Int32), (by rw [if_pos hc67]), fun t k => pre66 t (by
        show Steps p.tables e below (T44.setTop (mkF m 243 #[.val (.int p0), .val (.int p1), .val (.int p2), .val (.int p3), .val (.int p4), .val (.int p5), .val (.int v2), .val (.int v5), .val (.int v8), .val (.int v11), .val (.int v14), .val (.int v17), .val (.int v22), .val (.int v27), .val (.int v32), .val (.int v37), .val (.ref b40), .val (.int v46), .val (.int j52), .val (.int j58), .val (.int j64)] [(.int j64), (.int v46)])) _
        refine XS.icmpNo X44.here hx rfl (hb hby at_243) rfl (teq hc67).2 ?_
        show Steps p.tables e below (T44.setTop (mkF m 246 #[.val (.int p0), .val (.int p1), .val (.int p2), .val (.int p3), .val (.int p4), .val (.int p5), .val (.int v2), .val (.int v5), .val (.int v8), .val (.int v11), .val (.int v14), .val (.int v17), .val (.int v22), .val (.int v27), .val (.int v32), .val (.int v37), .val (.ref b40), .val (.int v46), .val (.int j52), .val (.int j58), .val (.int j64)] [])) _
        refine XS.iconst X44.here hx rfl (hb hby at_246) ?_
        show Steps p.tables e below (T44.setTop (mkF m 247 #[.val (.int p0), .val (.int p1), .val (.int p2), .val (.int p3), .val (.int p4), .val (.int p5), .val (.int v2), .val (.int v5), .val (.int v8), .val (.int v11), .val (.int v14), .val (.int v17), .val (.int v22), .val (.int v27), .val (.int v32), .val (.int v37), .val (.ref b40), .val (.int v46), .val (.int j52), .val (.int j58), .val (.int j64)] [(.int (1 : Int32))])) _
        refine XS.goto X44.here hx rfl (pc0 := 247) (pc' := 251) rfl (hb hby at_247) (by decide) (by decide) ?_
        exact k)⟩
    · exact ⟨(0 : Int32), (by rw [if_neg hc67]), fun t k => pre66 t (by
        show Steps p.tables e below (T44.setTop (mkF m 243 #[.val (.int p0), .val (.int p1), .val (.int p2), .val (.int p3), .val (.int p4), .val (.int p5), .val (.int v2), .val (.int v5), .val (.int v8), .val (.int v11), .val (.int v14), .val (.int v17), .val (.int v22), .val (.int v27), .val (.int v32), .val (.int v37), .val (.ref b40), .val (.int v46), .val (.int j52), .val (.int j58), .val (.int j64)] [(.int j64), (.int v46)])) _
        refine XS.icmpYes X44.here hx rfl (pc0 := 243) (pc' := 250) rfl (hb hby at_243) rfl (feq hc67).2 (by decide) (by decide) ?_
        show Steps p.tables e below (T44.setTop (mkF m 250 #[.val (.int p0), .val (.int p1), .val (.int p2), .val (.int p3), .val (.int p4), .val (.int p5), .val (.int v2), .val (.int v5), .val (.int v8), .val (.int v11), .val (.int v14), .val (.int v17), .val (.int v22), .val (.int v27), .val (.int v32), .val (.int v37), .val (.ref b40), .val (.int v46), .val (.int j52), .val (.int j58), .val (.int j64)] [])) _
        refine XS.iconst X44.here hx rfl (hb hby at_250) ?_
        exact k)⟩
  obtain ⟨fs, hr, hrun, hended, hW, hsame⟩ := X44.leave (v := some (.int (nar .boolean j68))) (fun h => by rw [Bd.returns] at h; cases h)
  refine ⟨_, _, pre69 _ ?_, hrun, hended, _, _, rfl, ?_, ⟨_, rfl⟩, hW, hsame.mono (by decide) (by decide)⟩
  · show Steps p.tables e below (T44.setTop (mkF m 251 #[.val (.int p0), .val (.int p1), .val (.int p2), .val (.int p3), .val (.int p4), .val (.int p5), .val (.int v2), .val (.int v5), .val (.int v8), .val (.int v11), .val (.int v14), .val (.int v17), .val (.int v22), .val (.int v27), .val (.int v32), .val (.int v37), .val (.ref b40), .val (.int v46), .val (.int j52), .val (.int j58), .val (.int j64)] [(.int j68)])) _
    exact retN X44 hx (t := .boolean) Bd.returns (by simp) (hb hby at_251) hr
  · show Q0 Z p0 p1 p2 p3 p4 p5 h0 n0 _ T44.heap _
    rw [e44]
    have hv : (nar .boolean j68) = f0 p0 p1 p2 p3 p4 p5 := (by subst hj68 hj64 hj58 hj52 hv46 hv37 hv32 hv27 hv22 hv17 hv14 hv11 hv8 hv5 hv2; rfl)
    exact ⟨congrArg (fun z => some (Value.int z)) (hv.trans hlaw), N44⟩
theorem own_b0 (Q : Prop) [Decidable Q] (R : Prop) [Decidable R] : ((if Q then (0 : Int32) else (if R then (0 : Int32) else (1 : Int32))) = 0) ↔ (Q ∨ R) := by
  by_cases q : Q <;> by_cases r : R <;> simp [q, r]
theorem own_fin (x y a b c d : Int32) (a1 : -800 ≤ a.toInt) (a2 : a.toInt ≤ 800) (b1 : -800 ≤ b.toInt) (b2 : b.toInt ≤ 800) (c1 : -800 ≤ c.toInt) (c2 : c.toInt ≤ 800) (d1 : -800 ≤ d.toInt) (d2 : d.toInt ≤ 800) (x1 : -800 ≤ x.toInt) (x2 : x.toInt ≤ 800) (y1 : -800 ≤ y.toInt) (y2 : y.toInt ≤ 800) :
    f8 (own_Di x.toInt) (own_Di y.toInt) (own_Di a.toInt) (own_Di b.toInt) (own_Di c.toInt) (own_Di d.toInt) = (if (if x < a then (0 : Int32) else (if b < x then (0 : Int32) else (1 : Int32))) = (0 : Int32) then (0 : Int32) else (if (if y < c then (0 : Int32) else (if d < y then (0 : Int32) else (1 : Int32))) = (0 : Int32) then (0 : Int32) else (1 : Int32))) := by
  unfold f8
  simp only [own_lt0 x.toInt a.toInt x1 x2 a1 a2, own_gt0 x.toInt b.toInt x1 x2 b1 b2, own_lt0 y.toInt c.toInt y1 y2 c1 c2, own_gt0 y.toInt d.toInt y1 y2 d1 d2, own_b0, Int32.lt_iff_toInt_lt]
  generalize x.toInt = x at *
  generalize y.toInt = y at *
  generalize a.toInt = a at *
  generalize b.toInt = b at *
  generalize c.toInt = c at *
  generalize d.toInt = d at *
  repeat' split
  all_goals first | rfl | omega
theorem own_law (p0 p1 p2 p3 p4 p5 : Int32) : f0 p0 p1 p2 p3 p4 p5 = 1 := by
  obtain ⟨⟨a1, a2, a3⟩, ⟨b1, b2, b3⟩, ⟨c1, c2⟩, ⟨d1, d2⟩⟩ := own_bnd p0 p1 p2 p3 p4 p5 _ rfl _ rfl _ rfl _ rfl _ rfl _ rfl _ rfl _ rfl _ rfl _ rfl
  unfold f0
  dsimp only
  generalize f1 (((p0 &&& (2147483647 : Int32)) % (721 : Int32)) - (360 : Int32)) (((p1 &&& (2147483647 : Int32)) % (721 : Int32)) - (360 : Int32)) = v22 at *
  generalize f2 (((p0 &&& (2147483647 : Int32)) % (721 : Int32)) - (360 : Int32)) (((p1 &&& (2147483647 : Int32)) % (721 : Int32)) - (360 : Int32)) = v27 at *
  generalize f1 (((p2 &&& (2147483647 : Int32)) % (1441 : Int32)) - (720 : Int32)) (((p3 &&& (2147483647 : Int32)) % (1441 : Int32)) - (720 : Int32)) = v32 at *
  generalize f2 (((p2 &&& (2147483647 : Int32)) % (1441 : Int32)) - (720 : Int32)) (((p3 &&& (2147483647 : Int32)) % (1441 : Int32)) - (720 : Int32)) = v37 at *
  generalize (((p4 &&& (2147483647 : Int32)) % (801 : Int32)) - (400 : Int32)) = v14 at *
  generalize (((p5 &&& (2147483647 : Int32)) % (1601 : Int32)) - (800 : Int32)) = v17 at *
  have e : ∀ v : Int32, FP.ddiv (FP.i2d v) (4616189618054758400 : UInt64) = own_Di v.toInt := fun _ => rfl
  rw [e, e, e, e, e, e, if_pos (own_fin v14 v17 v22 v27 v32 v37 (by omega) (by omega) (by omega) (by omega) (by omega) (by omega) (by omega) (by omega) (by omega) (by omega) (by omega) (by omega))]
  rfl

set_option maxRecDepth 65536 in
set_option maxHeartbeats 40000000 in
theorem comes_1 {Post : Tables → Env → Array Value → State → Outcome → State → Prop} (hpost : ∀ tb e args s v u, (limb_1_1.after args s (.returned v) u = true ∧ limb_1_2.after args s (.returned v) u = true ∧ True) → FrameEnd s (.returned v) u (Jvm.fieldLocs frame_1_writes args s ++ Jvm.arrayLocs frame_1_arrays args s ++ Jvm.staticLocs frame_1_statics s) 16 128 → Post tb e args s (.returned v) u) :
    ArmFor flags0 classFile x code maxLocals ret World_1 tables_1 room_1 Calls_1 rest_1 Pre_1 Post := by
  intro l hfl _ _ p e ha hc hk s m args below hf hA hF happ hP
  obtain ⟨hcalls, hrest, hpre⟩ := hP
  obtain ⟨-, -, -, hnamed, -, -, -, hat⟩ := (Spec.applies_iff hf).mp happ
  obtain ⟨hg, hn⟩ := and_e (Cond.before_iff.mp (show (Jvm.Cond.and given_1 narrow_1).before args s = true from hpre))
  obtain ⟨g1, g2⟩ := and_e hg
  obtain ⟨g3, g4⟩ := and_e g2
  obtain ⟨g5, g6⟩ := and_e g4
  obtain ⟨g7, g8⟩ := and_e g6
  obtain ⟨g9, g10⟩ := and_e g8
  obtain ⟨g11, g12⟩ := and_e g10
  obtain ⟨w0, w1, w2, w3, w4, w5, rfl⟩ : ∃ w0 w1 w2 w3 w4 w5 : Value, args = #[w0, w1, w2, w3, w4, w5] := by
    have hs : args.size = 6 := by simpa [Cond.value, given_1] using g1
    obtain ⟨L⟩ := args
    match L, hs with
    | [w0, w1, w2, w3, w4, w5], _ => exact ⟨w0, w1, w2, w3, w4, w5, rfl⟩
  have hw := fun d (hd : d ∈ tables_1) => atoms_spec (ws := Jvm.Cond.code x code maxLocals ret :: tables_1) hat d (List.mem_cons_of_mem _ hd)
  have hfit : Fit s := fun {y c} hc i hi => by
    obtain ⟨ha, rfl⟩ := Array.getElem?_eq_some_iff.mp hc
    have q := List.all_eq_true.mp ((Array.all_eq_true_iff_forall_mem.mp hF) _ (Array.getElem_mem ha)) i (List.mem_range.mpr hi)
    simpa [Array.getElem?_eq_getElem hi] using q
  obtain ⟨i0, ei0⟩ := is_v g3
  obtain rfl : w0 = (.int i0) := Option.some.inj ei0
  obtain ⟨i1, ei1⟩ := is_v g5
  obtain rfl : w1 = (.int i1) := Option.some.inj ei1
  obtain ⟨i2, ei2⟩ := is_v g7
  obtain rfl : w2 = (.int i2) := Option.some.inj ei2
  obtain ⟨i3, ei3⟩ := is_v g9
  obtain rfl : w3 = (.int i3) := Option.some.inj ei3
  obtain ⟨i4, ei4⟩ := is_v g11
  obtain rfl : w4 = (.int i4) := Option.some.inj ei4
  obtain ⟨i5, ei5⟩ := is_v g12
  obtain rfl : w5 = (.int i5) := Option.some.inj ei5
  obtain ⟨n, o, h1, h2, h3, _, L, rfl, ⟨rfl, N⟩, hq⟩ := rm0 l s _ hw tables_1 i0 i1 i2 i3 i4 i5 s.heap s.heap.size (Nat.le_refl _) (own_law i0 i1 i2 i3 i4 i5) p e ha hc hk s m _ below hf ((Spec.applies_iff_loose hf).mp happ).1 ⟨rfl, State.Warmed39.refl s, rfl⟩ trivial
  refine ⟨n, _, h1, h2, h3, hpost _ _ _ _ _ _ ⟨Cond.after_iff.mpr rfl, Cond.after_iff.mpr (eq_i res_at (Term.int_eval (1)) rfl), trivial⟩ ⟨hq.1, hq.2.1, (hq.2.2.sift fun y hy => Or.inr (N y hy)).mono (by decide) (by decide)⟩⟩
theorem main_1_1 : Claimed_1_1 := comes_1 fun _ _ _ _ _ _ h hF => ⟨h.1, hF⟩
theorem main_1_2 : Claimed_1_2 := comes_1 fun _ _ _ _ _ _ h hF => ⟨h.2.1, hF⟩
end Jvm.Pilot.@@N@@
namespace Jvm.Pilot.@@N@@
open Jvm Jvm.ClassFile Sem Op Lib Jvm.Free Jvm.Stand Jvm.Pilot.@@N@@.Jvm.D
/-! MADE BY PROGRAM (witnessworld.py) out of the Statement's table words and the real class files: 12 classes; the members and pool entries that the words name. The judged class is class 1, her method 1. -/
namespace start1
open Jvm.ClassFile
def u (s : String) : CpInfo := .utf8 (stringToUtf16 s)
/-- a pool by its gaps: so many unusable entries, then the entry; so many at the end -/
def gap : Nat → List CpInfo → List CpInfo
  | 0, r => r
  | n + 1, r => .unusable :: gap n r
def poolList (es : List (Nat × CpInfo)) (last : Nat) : List CpInfo := es.foldr (fun e r => gap e.1 (e.2 :: r)) (gap last [])
def pool (es : List (Nat × CpInfo)) (last : Nat) : Array CpInfo := ⟨poolList es last⟩
def fileOf (pool : Array CpInfo) (this : Nat) (attrs : Array Attribute := #[]) (ms : Array MethodInfo := #[]) (fl : Nat := 33) (sup : Nat := 0) (ifs : Array Nat := #[]) (fds : Array FieldInfo := #[]) : ClassFile where
  minorVersion := 0
  majorVersion := 65
  constantPool := pool
  accessFlags := fl
  thisClass := this
  superClass := sup
  interfaces := ifs
  fields := fds
  methods := ms
  attributes := attrs
def plain (name : String) (sup : Option ClassId) : Class where
  name := name
  kind := .ordinary
  loader := none
  accessFlags := 33
  super := sup
  interfaces := #[]
  cf := none
  fields := #[]
  methods := #[]
  instanceTypes := #[]
  staticTypes := #[]
  resolved := #[]
  callSites := []
  init := .initialized
  statics := none
  mirror := none

def pool0 : Array CpInfo := pool [(5, u "<init>"), (0, u "()V"), (1, .class_ 10), (1, u "java/lang/Object")] 113

def k0c0 : Code := { maxStack := 0, maxLocals := 1, code := object_method_1_code, exceptionTable := #[], attributes := #[] }
def k0m0 : Method := { name := "<init>", desc := "()V", sig := { parameters := [], returnType := none }, accessFlags := 1, code := some k0c0 }
/-- java/lang/Object -/
def k0 : Class := { plain "java/lang/Object" none with
  accessFlags := 33
  interfaces := #[]
  cf := some (fileOf pool0 8 #[] #[{ accessFlags := 1, nameIndex := 5, descriptorIndex := 6, attributes := #[] }] 33 0 #[] #[])
  fields := #[]
  methods := #[k0m0]
  instanceTypes := #[]
  staticTypes := #[]
  resolved := Array.replicate 124 none
  statics := none }

def pool1 : Array CpInfo := pool [(2, .class_ 4), (1, u "java/lang/Object"), (0, u "<init>"), (0, u "()V"), (0, .integer 2147483647), (0, .methodref 9 10), (0, .class_ 11), (0, .nameAndType 12 13), (0, u "java/lang/Math"), (0, u "min"), (0, u "(II)I"), (0, .methodref 9 15), (0, .nameAndType 16 13), (0, u "max"), (0, .class_ 18), (0, u "com/example/adjacent_moments/adjacentmoments/query/Box"), (0, .double 4616189618054758400), (1, .methodref 17 22), (0, .nameAndType 5 23), (0, u "(DDDD)V"), (0, .methodref 17 25), (0, .nameAndType 26 27), (0, u "contains"), (0, u "(DD)Z"), (0, .class_ 29), (0, u "com/example/adjacent_moments/adjacentmoments/query/BoxContainsPinLaw"), (2, u "law"), (0, u "(IIIIII)Z")] 3

def k1m0 : Method := { name := "<init>", desc := "()V", sig := { parameters := [], returnType := none }, accessFlags := 1, code := none }
def k1c1 : Code := { maxStack := 12, maxLocals := 21, code := code, exceptionTable := #[], attributes := #[] }
def k1m1 : Method := { name := "law", desc := "(IIIIII)Z", sig := { parameters := [.int, .int, .int, .int, .int, .int], returnType := some .boolean }, accessFlags := 9, code := some k1c1 }
/-- com/example/adjacent_moments/adjacentmoments/query/BoxContainsPinLaw -/
def k1 : Class := { plain "com/example/adjacent_moments/adjacentmoments/query/BoxContainsPinLaw" (some 0) with
  accessFlags := 49
  interfaces := #[]
  cf := some (fileOf pool1 28 #[] #[{ accessFlags := 1, nameIndex := 5, descriptorIndex := 6, attributes := #[] }, { accessFlags := 9, nameIndex := 32, descriptorIndex := 33, attributes := #[] }] 49 2 #[] #[])
  fields := #[]
  methods := #[k1m0, k1m1]
  instanceTypes := #[]
  staticTypes := #[]
  resolved := Array.replicate 37 none
  statics := none }

def pool2 : Array CpInfo := pool [(1, .class_ 2), (0, u "java/lang/Math"), (1, .class_ 6), (1, u "java/lang/Object"), (0, u "<init>"), (0, u "()V"), (89, .class_ 100), (1, u "java/lang/Math$RandomNumberGeneratorHolder"), (71, u "negativeZeroFloatBits"), (0, u "J"), (2, u "negativeZeroDoubleBits"), (21, u "max"), (2, u "min"), (43, u "$assertionsDisabled"), (0, u "Z"), (88, u "(II)I"), (2, u "twoToTheDoubleScaleDown"), (0, u "D"), (4, u "twoToTheDoubleScaleUp"), (9, u "E"), (3, u "PI"), (2, u "TAU"), (2, u "DEGREES_TO_RADIANS"), (0, u "RADIANS_TO_DEGREES")] 94

def k2m0 : Method := { name := "<init>", desc := "()V", sig := { parameters := [], returnType := none }, accessFlags := 2, code := none }
def k2c1 : Code := { maxStack := 2, maxLocals := 2, code := jdk_29_method_65_code, exceptionTable := #[], attributes := #[] }
def k2m1 : Method := { name := "max", desc := "(II)I", sig := { parameters := [.int, .int], returnType := some .int }, accessFlags := 9, code := some k2c1 }
def k2c2 : Code := { maxStack := 2, maxLocals := 2, code := jdk_29_method_69_code, exceptionTable := #[], attributes := #[] }
def k2m2 : Method := { name := "min", desc := "(II)I", sig := { parameters := [.int, .int], returnType := some .int }, accessFlags := 9, code := some k2c2 }
/-- java/lang/Math -/
def k2 : Class := { plain "java/lang/Math" (some 0) with
  accessFlags := 49
  interfaces := #[]
  cf := some (fileOf pool2 1 #[.nestMembers #[98]] #[{ accessFlags := 2, nameIndex := 7, descriptorIndex := 8, attributes := #[] }, { accessFlags := 9, nameIndex := 198, descriptorIndex := 335, attributes := #[] }, { accessFlags := 9, nameIndex := 201, descriptorIndex := 335, attributes := #[] }] 49 4 #[] #[{ accessFlags := 25, nameIndex := 354, descriptorIndex := 339, attributes := #[] }, { accessFlags := 25, nameIndex := 358, descriptorIndex := 339, attributes := #[] }, { accessFlags := 25, nameIndex := 361, descriptorIndex := 339, attributes := #[] }, { accessFlags := 26, nameIndex := 364, descriptorIndex := 339, attributes := #[] }, { accessFlags := 26, nameIndex := 365, descriptorIndex := 339, attributes := #[] }, { accessFlags := 26, nameIndex := 172, descriptorIndex := 173, attributes := #[] }, { accessFlags := 26, nameIndex := 176, descriptorIndex := 173, attributes := #[] }, { accessFlags := 8, nameIndex := 344, descriptorIndex := 339, attributes := #[] }, { accessFlags := 8, nameIndex := 338, descriptorIndex := 339, attributes := #[] }, { accessFlags := 4120, nameIndex := 245, descriptorIndex := 246, attributes := #[] }])
  fields := #[{ name := "E", type := .double, accessFlags := 25, slot := 0, constantValue := 0 }, { name := "PI", type := .double, accessFlags := 25, slot := 1, constantValue := 0 }, { name := "TAU", type := .double, accessFlags := 25, slot := 2, constantValue := 0 }, { name := "DEGREES_TO_RADIANS", type := .double, accessFlags := 26, slot := 3, constantValue := 0 }, { name := "RADIANS_TO_DEGREES", type := .double, accessFlags := 26, slot := 4, constantValue := 0 }, { name := "negativeZeroFloatBits", type := .long, accessFlags := 26, slot := 5, constantValue := 0 }, { name := "negativeZeroDoubleBits", type := .long, accessFlags := 26, slot := 6, constantValue := 0 }, { name := "twoToTheDoubleScaleUp", type := .double, accessFlags := 8, slot := 7, constantValue := 0 }, { name := "twoToTheDoubleScaleDown", type := .double, accessFlags := 8, slot := 8, constantValue := 0 }, { name := "$assertionsDisabled", type := .boolean, accessFlags := 4120, slot := 9, constantValue := 0 }]
  methods := #[k2m0, k2m1, k2m2]
  instanceTypes := #[]
  staticTypes := #[.double, .double, .double, .double, .double, .long, .long, .double, .double, .boolean]
  resolved := Array.replicate 460 none
  statics := none }

def pool3 : Array CpInfo := pool [(1, .methodref 2 3), (0, .class_ 4), (0, .nameAndType 5 6), (0, u "java/lang/Object"), (0, u "<init>"), (0, u "()V"), (0, .class_ 8), (0, u "java/lang/Record")] 13

def k3c0 : Code := { maxStack := 1, maxLocals := 1, code := jdk_30_method_1_code, exceptionTable := #[], attributes := #[] }
def k3m0 : Method := { name := "<init>", desc := "()V", sig := { parameters := [], returnType := none }, accessFlags := 4, code := some k3c0 }
/-- java/lang/Record -/
def k3 : Class := { plain "java/lang/Record" (some 0) with
  accessFlags := 1057
  interfaces := #[]
  cf := some (fileOf pool3 7 #[] #[{ accessFlags := 4, nameIndex := 5, descriptorIndex := 6, attributes := #[] }] 1057 2 #[] #[])
  fields := #[]
  methods := #[k3m0]
  instanceTypes := #[]
  staticTypes := #[]
  resolved := Array.replicate 22 none
  statics := none }

def pool4 : Array CpInfo := pool [(1, .methodref 2 3), (0, .class_ 4), (0, .nameAndType 5 6), (0, u "java/lang/Record"), (0, u "<init>"), (0, u "()V"), (0, .methodref 8 9), (0, .class_ 10), (0, .nameAndType 11 12), (0, u "com/example/adjacent_moments/adjacentmoments/GeoRecord"), (0, u "requireLatitude"), (0, u "(D)V"), (0, .methodref 8 14), (0, .nameAndType 15 12), (0, u "requireLongitude"), (10, .fieldref 27 28), (0, .class_ 29), (0, .nameAndType 30 31), (0, u "com/example/adjacent_moments/adjacentmoments/query/Box"), (0, u "minLatitude"), (0, u "D"), (0, .fieldref 27 33), (0, .nameAndType 34 31), (0, u "minLongitude"), (0, .fieldref 27 36), (0, .nameAndType 37 31), (0, u "maxLatitude"), (0, .fieldref 27 39), (0, .nameAndType 40 31), (0, u "maxLongitude"), (22, u "(DDDD)V"), (2, u "WORLD"), (0, u "Lcom/example/adjacent_moments/adjacentmoments/query/Box;"), (4, u "contains"), (0, u "(DD)Z")] 38

def k4c0 : Code := { maxStack := 6, maxLocals := 9, code := prog_9_method_1_code, exceptionTable := #[], attributes := #[] }
def k4m0 : Method := { name := "<init>", desc := "(DDDD)V", sig := { parameters := [.double, .double, .double, .double], returnType := none }, accessFlags := 1, code := some k4c0 }
def k4c1 : Code := { maxStack := 4, maxLocals := 5, code := prog_9_method_2_code, exceptionTable := #[], attributes := #[] }
def k4m1 : Method := { name := "contains", desc := "(DD)Z", sig := { parameters := [.double, .double], returnType := some .boolean }, accessFlags := 1, code := some k4c1 }
/-- com/example/adjacent_moments/adjacentmoments/query/Box -/
def k4 : Class := { plain "com/example/adjacent_moments/adjacentmoments/query/Box" (some 3) with
  accessFlags := 49
  interfaces := #[]
  cf := some (fileOf pool4 27 #[] #[{ accessFlags := 1, nameIndex := 5, descriptorIndex := 63, attributes := #[] }, { accessFlags := 1, nameIndex := 72, descriptorIndex := 73, attributes := #[] }] 49 2 #[] #[{ accessFlags := 18, nameIndex := 30, descriptorIndex := 31, attributes := #[] }, { accessFlags := 18, nameIndex := 34, descriptorIndex := 31, attributes := #[] }, { accessFlags := 18, nameIndex := 37, descriptorIndex := 31, attributes := #[] }, { accessFlags := 18, nameIndex := 40, descriptorIndex := 31, attributes := #[] }, { accessFlags := 25, nameIndex := 66, descriptorIndex := 67, attributes := #[] }])
  fields := #[{ name := "minLatitude", type := .double, accessFlags := 18, slot := 0, constantValue := 0 }, { name := "minLongitude", type := .double, accessFlags := 18, slot := 1, constantValue := 0 }, { name := "maxLatitude", type := .double, accessFlags := 18, slot := 2, constantValue := 0 }, { name := "maxLongitude", type := .double, accessFlags := 18, slot := 3, constantValue := 0 }, { name := "WORLD", type := (.object "com/example/adjacent_moments/adjacentmoments/query/Box"), accessFlags := 25, slot := 0, constantValue := 0 }]
  methods := #[k4m0, k4m1]
  instanceTypes := #[.double, .double, .double, .double]
  staticTypes := #[(.object "com/example/adjacent_moments/adjacentmoments/query/Box")]
  resolved := Array.replicate 112 none
  statics := none }

def pool5 : Array CpInfo := pool [(2, .class_ 4), (1, u "java/lang/Record"), (3, u "id"), (7, u "moment"), (1, u "keywords"), (1, .class_ 22), (1, u "com/example/adjacent_moments/adjacentmoments/GeoRecord"), (27, u "requireLatitude"), (0, u "(D)V"), (2, u "requireLongitude"), (10, u "Ljava/lang/String;"), (2, u "latitude"), (0, u "D"), (2, u "longitude"), (2, u "Ljava/time/Instant;"), (2, u "Ljava/util/List;"), (50, .double 13859405640767635456), (1, .double 4636033603912859648), (4, .double 13863909240395005952), (1, .double 4640537203540230144), (49, u "MAX_ID_BYTES"), (0, u "I"), (2, u "REPEATS_SEARCHED_MAX")] 58

def k5c0 : Code := { maxStack := 4, maxLocals := 2, code := prog_1_method_4_code, exceptionTable := #[], attributes := #[] }
def k5m0 : Method := { name := "requireLatitude", desc := "(D)V", sig := { parameters := [.double], returnType := none }, accessFlags := 9, code := some k5c0 }
def k5c1 : Code := { maxStack := 4, maxLocals := 2, code := prog_1_method_5_code, exceptionTable := #[], attributes := #[] }
def k5m1 : Method := { name := "requireLongitude", desc := "(D)V", sig := { parameters := [.double], returnType := none }, accessFlags := 9, code := some k5c1 }
/-- com/example/adjacent_moments/adjacentmoments/GeoRecord -/
def k5 : Class := { plain "com/example/adjacent_moments/adjacentmoments/GeoRecord" (some 3) with
  accessFlags := 49
  interfaces := #[]
  cf := some (fileOf pool5 20 #[] #[{ accessFlags := 9, nameIndex := 50, descriptorIndex := 51, attributes := #[] }, { accessFlags := 9, nameIndex := 54, descriptorIndex := 51, attributes := #[] }] 49 2 #[] #[{ accessFlags := 18, nameIndex := 8, descriptorIndex := 65, attributes := #[] }, { accessFlags := 18, nameIndex := 68, descriptorIndex := 69, attributes := #[] }, { accessFlags := 18, nameIndex := 72, descriptorIndex := 69, attributes := #[] }, { accessFlags := 18, nameIndex := 16, descriptorIndex := 75, attributes := #[] }, { accessFlags := 18, nameIndex := 18, descriptorIndex := 78, attributes := #[] }, { accessFlags := 25, nameIndex := 188, descriptorIndex := 189, attributes := #[] }, { accessFlags := 26, nameIndex := 192, descriptorIndex := 189, attributes := #[] }])
  fields := #[{ name := "id", type := (.object "java/lang/String"), accessFlags := 18, slot := 0, constantValue := 0 }, { name := "latitude", type := .double, accessFlags := 18, slot := 1, constantValue := 0 }, { name := "longitude", type := .double, accessFlags := 18, slot := 2, constantValue := 0 }, { name := "moment", type := (.object "java/time/Instant"), accessFlags := 18, slot := 3, constantValue := 0 }, { name := "keywords", type := (.object "java/util/List"), accessFlags := 18, slot := 4, constantValue := 0 }, { name := "MAX_ID_BYTES", type := .int, accessFlags := 25, slot := 0, constantValue := 0 }, { name := "REPEATS_SEARCHED_MAX", type := .int, accessFlags := 26, slot := 1, constantValue := 0 }]
  methods := #[k5m0, k5m1]
  instanceTypes := #[(.object "java/lang/String"), .double, .double, (.object "java/time/Instant"), (.object "java/util/List")]
  staticTypes := #[.int, .int]
  resolved := Array.replicate 251 none
  statics := none }

def pool6 : Array CpInfo := pool [(1, u "java/lang/Cloneable"), (0, .class_ 1), (0, u "java/lang/Object"), (0, .class_ 3)] 3

/-- java/lang/Cloneable -/
def k6 : Class := { plain "java/lang/Cloneable" (some 0) with
  accessFlags := 1537
  interfaces := #[]
  cf := some (fileOf pool6 2 #[] #[] 1537 4 #[] #[])
  fields := #[]
  methods := #[]
  instanceTypes := #[]
  staticTypes := #[]
  resolved := Array.replicate 8 none
  statics := none }

def pool7 : Array CpInfo := pool [(1, u "java/io/Serializable"), (0, .class_ 1), (0, u "java/lang/Object"), (0, .class_ 3)] 3

/-- java/io/Serializable -/
def k7 : Class := { plain "java/io/Serializable" (some 0) with
  accessFlags := 1537
  interfaces := #[]
  cf := some (fileOf pool7 2 #[] #[] 1537 4 #[] #[])
  fields := #[]
  methods := #[]
  instanceTypes := #[]
  staticTypes := #[]
  resolved := Array.replicate 8 none
  statics := none }

/-- the primitive byte -/
def k8 : Class := { plain "byte" none with kind := .primitive 'B', accessFlags := 0x411 }
/-- [B -/
def k9 : Class := { plain "[B" (some 0) with kind := .array 8 .byte, interfaces := #[6, 7], accessFlags := 1041 }

/-- the primitive int -/
def k10 : Class := { plain "int" none with kind := .primitive 'I', accessFlags := 0x411 }
/-- [I -/
def k11 : Class := { plain "[I" (some 0) with kind := .array 10 .int, interfaces := #[6, 7], accessFlags := 1041 }

def heap : Heap := #[]
def classes : Array Class := #[k0, k1, k2, k3, k4, k5, k6, k7, k8, k9, k10, k11]
def interned : List (Array UInt16 × Addr) := []
def slotsUsed : Nat := 0
def theMethod : MethodId := ⟨1, 1⟩
def args0 : Array Value := #[.int 5, .int 3, .int 7, .int 9, .int 4, .int 6]
def aboutOver (below : List Frame) : State where
  vm := { classes := classes, interned := interned.toArray }
  heap := heap
  slotsUsed := slotsUsed
  threads := #[{ frames := .invoking theMethod args0 :: below }]
def below0 : List Frame := [.native { method := ⟨0, 0⟩, args := #[] }]
def about1 : State := aboutOver below0
def p0 : Program := .bare "" "" ""
def e0 : Env := launch0.env 0 0 0
theorem w_frames : about1.frames = Frame.invoking theMethod args0 :: below0 := rfl
set_option maxRecDepth 65536 in
theorem w_args : argsFit about1.vm theMethod args0 = true := by decide +kernel
set_option maxRecDepth 65536 in
theorem w_heap : heapFits about1 = true := by decide +kernel
set_option maxRecDepth 65536 in
theorem w_runnable : about1.curStatus? = some .runnable := by decide +kernel
set_option maxRecDepth 65536 in
theorem w_alone : about1.alone = true := by decide +kernel
set_option maxRecDepth 65536 in
theorem w_named : about1.methodNamed? x = some theMethod := by decide +kernel
set_option maxRecDepth 65536 in
theorem w_hears : about1.hears theMethod below0 = true := by decide +kernel
set_option maxRecDepth 65536 in
theorem w_ripe : about1.ripe theMethod args0 below0 = true := by decide +kernel
theorem w_running : about1.status = .running := rfl
set_option maxRecDepth 65536 in
theorem w_room : about1.hasRoom e0.platform room_1 = true :=
  launch0.hasRoom_least _ room_1 (by decide +kernel) (by decide +kernel) (by decide +kernel) (by decide +kernel) (by decide +kernel) (by decide +kernel)
theorem allAtoms_all (ts : List Jvm.Cond) (a : Array Jvm.Value) (st : Jvm.State) : (allAtoms ts).before a st = ts.all (fun c => c.before a st) := by
  induction ts with
  | nil => rfl
  | cons c t ih =>
    show (Jvm.Cond.and c (allAtoms t)).before a st = _
    rw [Jvm.Cond.before_and, ih, List.all_cons]
def words1 : List Jvm.Cond := Jvm.Cond.code x code maxLocals ret :: tables_1
/-- a 'code' word, met by the world's own term for the bytes: nothing is compared byte by byte -/
theorem code_word {y : MethodName} {bytes : ByteArray} {mx : Nat} {rt : Option FieldType} {a : Array Value} {s : State} {m : MethodId} {meth : Method} {c : Code} (h1 : s.methodNamed? y = some m) (h2 : s.vm.method? m = some meth) (h3 : meth.code = some c) (h4 : c.code = bytes)
    (h5 : (c.maxLocals == mx && c.exceptionTable.isEmpty && decide (c.maxStack ≤ mostOperands) && decide (meth.sig.returnType = rt) && !meth.locks && decide (parseMethodDescriptor y.desc = some meth.sig)) = true) : (Jvm.Cond.code y bytes mx rt).before a s = true := by
  simp only [Bool.and_eq_true, beq_iff_eq, Bool.not_eq_true', decide_eq_true_eq] at h5
  obtain ⟨⟨⟨⟨⟨g1, g2⟩, g3⟩, g4⟩, g5⟩, g6⟩ := h5
  simp [Cond.before, Cond.holds, Cond.value, h1, h2, h3, h4, g1, g2, g3, g4, g5, g6]
def isCode : Jvm.Cond → Bool
  | .code _ _ _ _ => true
  | _ => false
theorem all_split {L : List Jvm.Cond} {P : Jvm.Cond → Bool} (h1 : L.all (fun c => isCode c || P c) = true) (h2 : ∀ c ∈ L.filter isCode, P c = true) : L.all P = true := by
  refine List.all_eq_true.mpr fun c hc => ?_
  have h := List.all_eq_true.mp h1 c hc
  rcases Bool.eq_false_or_eq_true (isCode c) with hi | hi
  · exact h2 c (List.mem_filter.mpr ⟨hc, hi⟩)
  · simpa [hi] using h
set_option maxRecDepth 65536 in
theorem w_c0 : (Jvm.Cond.code x code maxLocals ret).before args0 about1 = true := code_word (m := ⟨1, 1⟩) (meth := k1m1) (c := k1c1) (by decide +kernel) rfl rfl rfl (by decide +kernel)
set_option maxRecDepth 65536 in
theorem w_c1 : (Jvm.Cond.code ({ cls := "java/lang/Math", name := "min", desc := "(II)I" } : Jvm.MethodName) jdk_29_method_69_code (2 : Nat) (Option.some Jvm.ClassFile.FieldType.int)).before args0 about1 = true := code_word (m := ⟨2, 2⟩) (meth := k2m2) (c := k2c2) (by decide +kernel) rfl rfl rfl (by decide +kernel)
set_option maxRecDepth 65536 in
theorem w_c2 : (Jvm.Cond.code ({ cls := "java/lang/Math", name := "max", desc := "(II)I" } : Jvm.MethodName) jdk_29_method_65_code (2 : Nat) (Option.some Jvm.ClassFile.FieldType.int)).before args0 about1 = true := code_word (m := ⟨2, 1⟩) (meth := k2m1) (c := k2c1) (by decide +kernel) rfl rfl rfl (by decide +kernel)
set_option maxRecDepth 65536 in
theorem w_c3 : (Jvm.Cond.code ({ cls := "com/example/adjacent_moments/adjacentmoments/query/Box", name := "<init>", desc := "(DDDD)V" } : Jvm.MethodName) prog_9_method_1_code (9 : Nat) (Option.none : Option Jvm.ClassFile.FieldType)).before args0 about1 = true := code_word (m := ⟨4, 0⟩) (meth := k4m0) (c := k4c0) (by decide +kernel) rfl rfl rfl (by decide +kernel)
set_option maxRecDepth 65536 in
theorem w_c4 : (Jvm.Cond.code ({ cls := "java/lang/Record", name := "<init>", desc := "()V" } : Jvm.MethodName) jdk_30_method_1_code (1 : Nat) (Option.none : Option Jvm.ClassFile.FieldType)).before args0 about1 = true := code_word (m := ⟨3, 0⟩) (meth := k3m0) (c := k3c0) (by decide +kernel) rfl rfl rfl (by decide +kernel)
set_option maxRecDepth 65536 in
theorem w_c5 : (Jvm.Cond.code ({ cls := "java/lang/Object", name := "<init>", desc := "()V" } : Jvm.MethodName) object_method_1_code (1 : Nat) (Option.none : Option Jvm.ClassFile.FieldType)).before args0 about1 = true := code_word (m := ⟨0, 0⟩) (meth := k0m0) (c := k0c0) (by decide +kernel) rfl rfl rfl (by decide +kernel)
set_option maxRecDepth 65536 in
theorem w_c6 : (Jvm.Cond.code ({ cls := "com/example/adjacent_moments/adjacentmoments/GeoRecord", name := "requireLatitude", desc := "(D)V" } : Jvm.MethodName) prog_1_method_4_code (2 : Nat) (Option.none : Option Jvm.ClassFile.FieldType)).before args0 about1 = true := code_word (m := ⟨5, 0⟩) (meth := k5m0) (c := k5c0) (by decide +kernel) rfl rfl rfl (by decide +kernel)
set_option maxRecDepth 65536 in
theorem w_c7 : (Jvm.Cond.code ({ cls := "com/example/adjacent_moments/adjacentmoments/GeoRecord", name := "requireLongitude", desc := "(D)V" } : Jvm.MethodName) prog_1_method_5_code (2 : Nat) (Option.none : Option Jvm.ClassFile.FieldType)).before args0 about1 = true := code_word (m := ⟨5, 1⟩) (meth := k5m1) (c := k5c1) (by decide +kernel) rfl rfl rfl (by decide +kernel)
set_option maxRecDepth 65536 in
theorem w_c8 : (Jvm.Cond.code ({ cls := "com/example/adjacent_moments/adjacentmoments/query/Box", name := "contains", desc := "(DD)Z" } : Jvm.MethodName) prog_9_method_2_code (5 : Nat) (Option.some Jvm.ClassFile.FieldType.boolean)).before args0 about1 = true := code_word (m := ⟨4, 1⟩) (meth := k4m1) (c := k4c1) (by decide +kernel) rfl rfl rfl (by decide +kernel)
def codes1 : List Jvm.Cond := [Jvm.Cond.code x code maxLocals ret, Jvm.Cond.code ({ cls := "java/lang/Math", name := "min", desc := "(II)I" } : Jvm.MethodName) jdk_29_method_69_code (2 : Nat) (Option.some Jvm.ClassFile.FieldType.int), Jvm.Cond.code ({ cls := "java/lang/Math", name := "max", desc := "(II)I" } : Jvm.MethodName) jdk_29_method_65_code (2 : Nat) (Option.some Jvm.ClassFile.FieldType.int), Jvm.Cond.code ({ cls := "com/example/adjacent_moments/adjacentmoments/query/Box", name := "<init>", desc := "(DDDD)V" } : Jvm.MethodName) prog_9_method_1_code (9 : Nat) (Option.none : Option Jvm.ClassFile.FieldType), Jvm.Cond.code ({ cls := "java/lang/Record", name := "<init>", desc := "()V" } : Jvm.MethodName) jdk_30_method_1_code (1 : Nat) (Option.none : Option Jvm.ClassFile.FieldType), Jvm.Cond.code ({ cls := "java/lang/Object", name := "<init>", desc := "()V" } : Jvm.MethodName) object_method_1_code (1 : Nat) (Option.none : Option Jvm.ClassFile.FieldType), Jvm.Cond.code ({ cls := "com/example/adjacent_moments/adjacentmoments/GeoRecord", name := "requireLatitude", desc := "(D)V" } : Jvm.MethodName) prog_1_method_4_code (2 : Nat) (Option.none : Option Jvm.ClassFile.FieldType), Jvm.Cond.code ({ cls := "com/example/adjacent_moments/adjacentmoments/GeoRecord", name := "requireLongitude", desc := "(D)V" } : Jvm.MethodName) prog_1_method_5_code (2 : Nat) (Option.none : Option Jvm.ClassFile.FieldType), Jvm.Cond.code ({ cls := "com/example/adjacent_moments/adjacentmoments/query/Box", name := "contains", desc := "(DD)Z" } : Jvm.MethodName) prog_9_method_2_code (5 : Nat) (Option.some Jvm.ClassFile.FieldType.boolean)]
set_option maxRecDepth 65536 in
theorem codes_eq : words1.filter isCode = codes1 := rfl
theorem w_codes : ∀ c ∈ words1.filter isCode, c.before args0 about1 = true := by
  rw [codes_eq]
  intro c hc
  simp only [codes1, List.mem_cons, List.not_mem_nil, or_false] at hc
  rcases hc with rfl | rfl | rfl | rfl | rfl | rfl | rfl | rfl | rfl
  · exact w_c0
  · exact w_c1
  · exact w_c2
  · exact w_c3
  · exact w_c4
  · exact w_c5
  · exact w_c6
  · exact w_c7
  · exact w_c8
set_option maxRecDepth 65536 in
theorem w_t1 : (words1.take 24).all (fun c => isCode c || c.before args0 about1) = true := by decide +kernel
set_option maxRecDepth 65536 in
theorem w_t2 : (words1.drop 24).all (fun c => isCode c || c.before args0 about1) = true := by decide +kernel
theorem w_tables : (allAtoms (Jvm.Cond.code x code maxLocals ret :: tables_1)).before args0 about1 = true := by
  rw [allAtoms_all]
  show words1.all (fun c => c.before args0 about1) = true
  refine all_split ?_ w_codes
  rw [← List.take_append_drop 24 words1, List.all_append, w_t1, w_t2]
  rfl
set_option maxRecDepth 65536 in
theorem w_case : (Jvm.Cond.and given_1 narrow_1).before args0 about1 = true := by decide +kernel
theorem w_applies : (headSpec (Jvm.Cond.code x code maxLocals ret :: tables_1) room_1).applies x e0.platform about1 = true :=
  (Spec.applies_iff w_frames).mpr ⟨w_running, w_runnable, w_alone, w_named, w_hears, w_ripe, w_room, w_tables⟩
theorem atStart : AtStart classFile x code maxLocals ret World_1 tables_1 room_1 Calls_1 rest_1 Pre_1 launch0 p0 e0 about1 theMethod args0 below0 :=
  ⟨lists_1, trivial, launch0.admits_env _ _ _, launch0.least_env, fairChoices_fair.cas, fairChoices_fair.clock, w_frames, w_args, w_heap, w_applies, trivial, trivial, w_case⟩
end start1
theorem witness_1 : WitnessClaimed_1 := ⟨start1.p0, start1.e0, start1.about1, start1.theMethod, start1.args0, start1.below0, start1.atStart⟩
end Jvm.Pilot.@@N@@
