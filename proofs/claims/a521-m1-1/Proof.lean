import JvmDerived
import JvmDerived.Pilot.@@N@@Statement
import JvmDerived.Pilot.@@N@@Code
set_option linter.unusedVariables false
set_option linter.unusedSimpArgs false
namespace Jvm.RoadKit
open Sem ClassFile Op Lib Jvm.Stand Jvm.Free Jvm.LawKit
section New
variable {p : Program} {l : Launch} {e : Env} {R : Room} {s : State} {m : MethodId} {args : Array Value} {below : List Frame} {meth : Method} {c : Code} {T : State} {locs : List Loc} {cells slots : Nat}
theorem retI (X : Stand p l e R s m args below meth c T locs cells slots) (hx : p.tables.exec = Jvm.exec) {pc : Nat} {Ls : Array Slot} {z : Int32} {rest : List Value} (hret : meth.sig.returnType = some .int) (hd : decode c.code pc = .ok (.ireturn, 1)) {fs : List Frame}
    (hl : ∀ (f : JFrame) (acts : List Action), f.method = m → f.locked = none → f.entered = [] → (doReturn e (T.setTop f) acts (some (.int z))).1 = T.setFrames fs) : Steps p.tables e below (T.setTop (mkF m pc Ls (.int z :: rest))) (T.setFrames fs) := by
  have hm' : T.vm.method? m = some meth := X.method'
  have hn : narrow .int (.int z) = .int z := rfl
  show Steps p.tables e below (T.setTop { method := m, pc := pc, locals := Ls, stack := _ :: rest, locked := none }) _
  jvm_step X.here [X.here.top, hx, hd, hm', hret, hn]
  first | (intro acts; rw [hl _ acts rfl rfl rfl]) | rw [hl _ _ rfl rfl rfl]
  exact Steps.refl _
end New
end Jvm.RoadKit
namespace Jvm.Pilot.@@N@@
open Jvm Jvm.ClassFile Sem Op Lib Jvm.Free Jvm.Stand Jvm.LawKit Jvm.RoadKit Bundle Jvm.Pilot.@@N@@.Jvm.D
def own_get (vs : List Int32) (j : Int32) : Int32 := vs.getD j.toNatClampNeg 0
theorem own_getD (vs : List Int32) (j : Int32) : (List.map Value.int vs).getD j.toNatClampNeg (.int (0 : Int32)) = .int (own_get vs j) := by
  unfold own_get
  generalize j.toNatClampNeg = n
  induction vs generalizing n with
  | nil => rfl
  | cons x t ih => cases n with
    | zero => rfl
    | succ n => exact ih n
theorem own_ltL {c : Cell} {j z : Int32} {n : Nat} (S : c.slots.size = z.toNatClampNeg) (hz : z.toNatClampNeg = n) (hin : ¬ (j < 0 ∨ c.slots.size ≤ j.toNatClampNeg)) : j.toNatClampNeg < n := by
  rw [← hz, ← S]; exact Nat.lt_of_not_le fun y => hin (Or.inr y)

theorem own_add (x y : Int32) (h1 : -2147483648 ≤ x.toInt + y.toInt) (h2 : x.toInt + y.toInt < 2147483648) : (x + y).toInt = x.toInt + y.toInt := by
  have a := c_iadd x y
  have b := rng32 (x + y)
  omega
theorem own_sub (x y : Int32) (h1 : -2147483648 ≤ x.toInt - y.toInt) (h2 : x.toInt - y.toInt < 2147483648) : (x - y).toInt = x.toInt - y.toInt := by
  have a := c_isub x y
  have b := rng32 (x - y)
  omega
theorem own_addk (x y : Int32) (k : Int) (hk : y.toInt = k) {n : Int} (hx : x.toInt = n) (h1 : -2147483648 ≤ n + k) (h2 : n + k < 2147483648) : (x + y).toInt = n + k := by
  rw [← hx, ← hk] at h1 h2 ⊢; exact own_add x y h1 h2
theorem own_subk (x y : Int32) (k : Int) (hk : y.toInt = k) {n : Int} (hx : x.toInt = n) (h1 : -2147483648 ≤ n - k) (h2 : n - k < 2147483648) : (x - y).toInt = n - k := by
  rw [← hx, ← hk] at h1 h2 ⊢; exact own_sub x y h1 h2
theorem own_ltk (x y : Int32) {n m : Int} (hx : x.toInt = n) (hy : y.toInt = m) : x < y ↔ n < m := by rw [Int32.lt_iff_toInt_lt, hx, hy]
theorem own_eqk (x y : Int32) {n m : Int} (hx : x.toInt = n) (hy : y.toInt = m) : x = y ↔ n = m := by rw [← Int32.toInt_inj, hx, hy]
def own_runI (vs : List Int32) (c p2 : Int32) : Nat → Int32 → Int32
  | 0, i => i
  | n + 1, i => if i < p2 then (if own_get vs i = c then own_runI vs c p2 n (i + 1) else i) else i
theorem own_run_spec (vs : List Int32) (c p2 : Int32) (hT : p2.toInt ≤ 6) (n : Nat) : ∀ i : Int32, 0 ≤ i.toInt → i.toInt ≤ p2.toInt → p2.toInt ≤ i.toInt + n →
    i.toInt ≤ (own_runI vs c p2 n i).toInt ∧ (own_runI vs c p2 n i).toInt ≤ p2.toInt ∧ (∀ x : Int32, i.toInt ≤ x.toInt → x.toInt < (own_runI vs c p2 n i).toInt → own_get vs x = c) ∧ ((own_runI vs c p2 n i).toInt = p2.toInt ∨ ¬ own_get vs (own_runI vs c p2 n i) = c) := by
  induction n with
  | zero =>
    intro i h0 h1 h2
    refine ⟨Int.le_refl _, h1, fun x a b => ?_, Or.inl ?_⟩
    · have b' : x.toInt < i.toInt := b
      omega
    · show i.toInt = p2.toInt
      omega
  | succ n ih =>
    intro i h0 h1 h2
    by_cases a : i < p2
    · have a' := a
      rw [Int32.lt_iff_toInt_lt] at a'
      by_cases b : own_get vs i = c
      · have e : own_runI vs c p2 (n + 1) i = own_runI vs c p2 n (i + 1) := by
          show (if i < p2 then (if own_get vs i = c then own_runI vs c p2 n (i + 1) else i) else i) = _
          rw [if_pos a, if_pos b]
        have k : (i + 1).toInt = i.toInt + 1 := own_addk i 1 1 (by decide) rfl (by omega) (by omega)
        obtain ⟨q1, q2, q3, q4⟩ := ih (i + 1) (by omega) (by omega) (by omega)
        rw [e]
        refine ⟨by omega, q2, fun x u v => ?_, q4⟩
        by_cases w : x.toInt = i.toInt
        · rw [Int32.toInt_inj.mp w]; exact b
        · exact q3 x (by omega) v
      · have e : own_runI vs c p2 (n + 1) i = i := by
          show (if i < p2 then (if own_get vs i = c then own_runI vs c p2 n (i + 1) else i) else i) = _
          rw [if_pos a, if_neg b]
        rw [e]
        exact ⟨Int.le_refl _, h1, fun x u v => by omega, Or.inr b⟩
    · have e : own_runI vs c p2 (n + 1) i = i := by
        show (if i < p2 then (if own_get vs i = c then own_runI vs c p2 n (i + 1) else i) else i) = _
        rw [if_neg a]
      rw [Int32.lt_iff_toInt_lt] at a
      rw [e]
      exact ⟨Int.le_refl _, h1, fun x u v => by omega, Or.inl (by omega)⟩
theorem own_ft (p2 p3 : Int32) : 0 ≤ ((p2 &&& (2147483647 : Int32)) % (7 : Int32)).toInt ∧ ((p2 &&& (2147483647 : Int32)) % (7 : Int32)).toInt ≤ 6 ∧ ((p2 &&& (2147483647 : Int32)) % (7 : Int32)).toInt ≤ (((p2 &&& (2147483647 : Int32)) % (7 : Int32)) + ((p3 &&& (2147483647 : Int32)) % ((7 : Int32) - ((p2 &&& (2147483647 : Int32)) % (7 : Int32))))).toInt ∧ (((p2 &&& (2147483647 : Int32)) % (7 : Int32)) + ((p3 &&& (2147483647 : Int32)) % ((7 : Int32) - ((p2 &&& (2147483647 : Int32)) % (7 : Int32))))).toInt ≤ 6 ∧ 0 < ((7 : Int32) - ((p2 &&& (2147483647 : Int32)) % (7 : Int32))).toInt := by
  have m0 := c_mask p2 2147483647 31 (by decide) (by decide)
  have m1 := c_mask p3 2147483647 31 (by decide) (by decide)
  have k : ((2 ^ 31 : Nat) : Int) = 2147483648 := by decide
  rw [k] at m0 m1
  have r0 := (c_irem (p2 &&& (2147483647 : Int32)) 7 7 (by decide)).1 (by omega)
  have x0 : 0 ≤ (p3 &&& (2147483647 : Int32)).toInt := by omega
  have f0 : 0 ≤ ((p2 &&& (2147483647 : Int32)) % (7 : Int32)).toInt := by omega
  have f1 : ((p2 &&& (2147483647 : Int32)) % (7 : Int32)).toInt ≤ 6 := by omega
  clear m0 m1 r0 k
  generalize (p2 &&& (2147483647 : Int32)) % (7 : Int32) = f at *
  generalize (p3 &&& (2147483647 : Int32)) = x at *
  have k7 : (7 : Int32).toInt = 7 := by decide
  have s : ((7 : Int32) - f).toInt = 7 - f.toInt := by
    rw [own_sub _ _ (by rw [k7]; omega) (by rw [k7]; omega), k7]
  clear k7
  generalize (7 : Int32) - f = y at *
  obtain ⟨u1, u2, -⟩ := (c_iremV x y).1 x0 (by omega)
  generalize x % y = w at *
  have t := own_add f w (by omega) (by omega)
  omega
theorem pn_1 : plainName "com/example/tercet/tercet/ConflictMarkersMarkerRunPinLaw" = true := by first | (simp [plainName, overriddenIn]; done) | decide +kernel
theorem d4_0 : decode method_2_code 0 = .ok (.iload_n 0, 1) := by decide +kernel
theorem d4_1 : decode method_2_code 1 = .ok (.bipush 60, 2) := by decide +kernel
theorem d4_3 : decode method_2_code 3 = .ok (.if_icmp .eq 21, 3) := by decide +kernel
theorem d4_24 : decode method_2_code 24 = .ok (.iconst 1, 1) := by decide +kernel
theorem d4_25 : decode method_2_code 25 = .ok (.goto 4, 3) := by decide +kernel
theorem d4_6 : decode method_2_code 6 = .ok (.iload_n 0, 1) := by decide +kernel
theorem d4_7 : decode method_2_code 7 = .ok (.bipush 124, 2) := by decide +kernel
theorem d4_9 : decode method_2_code 9 = .ok (.if_icmp .eq 15, 3) := by decide +kernel
theorem d4_12 : decode method_2_code 12 = .ok (.iload_n 0, 1) := by decide +kernel
theorem d4_13 : decode method_2_code 13 = .ok (.bipush 61, 2) := by decide +kernel
theorem d4_15 : decode method_2_code 15 = .ok (.if_icmp .eq 9, 3) := by decide +kernel
theorem d4_18 : decode method_2_code 18 = .ok (.iload_n 0, 1) := by decide +kernel
theorem d4_19 : decode method_2_code 19 = .ok (.bipush 62, 2) := by decide +kernel
theorem d4_21 : decode method_2_code 21 = .ok (.if_icmp .ne 7, 3) := by decide +kernel
theorem d4_28 : decode method_2_code 28 = .ok (.iconst 0, 1) := by decide +kernel
theorem ef_4 (m : MethodId) (x0 : Int32) : entryFrame m #[(.int x0)] 1 = mkF m 0 #[.val (.int x0)] [] := by first | (simp [entryFrame, mkF, argsToLocals, Value.category]; done) | rfl
def f4 (p0 : Int32) : Int32 := (let j9 : Int32 := (if p0 = (60 : Int32) then (1 : Int32) else (if p0 = (124 : Int32) then (1 : Int32) else (if p0 = (61 : Int32) then (1 : Int32) else (if p0 = (62 : Int32) then (1 : Int32) else (0 : Int32))))); (nar .boolean j9))
def Q4 (Z : State) (p0 : Int32) (h0 : Heap) (n0 : Nat) (v : Option Value) (h : Heap) (L : List Loc) : Prop := v = some (.int (f4 p0)) ∧ Fr n0 L ∧ h = h0
theorem d4_29 : decode method_2_code 29 = .ok (.ireturn, 1) := by decide +kernel
set_option maxRecDepth 65536 in
set_option maxHeartbeats 40000000 in
theorem rm4 (l : Launch) (Z : State) (aw : Array Value) (hw : ∀ d ∈ tables_1, d.before aw Z = true) (ws : List Jvm.Cond) (p0 : Int32) (h0 : Heap) (n0 : Nat) (Z0 : n0 ≤ h0.size) :
    MetFree l (⟨"com/example/tercet/tercet/ConflictMarkersMarkerRunPinLaw", "isMarker", "(B)Z"⟩ : MethodName) (head1 (Jvm.Cond.code (⟨"com/example/tercet/tercet/ConflictMarkersMarkerRunPinLaw", "isMarker", "(B)Z"⟩ : MethodName) method_2_code 1 (some .boolean) :: ws) ({ frames := 0, cells := 0, slots := 0, locals := 0 } : Room)) (fun a U => a = #[(.int p0)] ∧ Z.Warmed39 U.vm ∧ U.heap = h0) (fun _ _ _ _ _ => True) (fun _ U o U' => ∃ v L, o = .returned v ∧ Q4 Z p0 h0 n0 v U'.heap L ∧ FrameEnd U o U' L ({ frames := 0, cells := 0, slots := 0, locals := 0 } : Room).cells ({ frames := 0, cells := 0, slots := 0, locals := 0 } : Room).slots) := by
  refine MetFree.of_bodySF (plainFor_of_name pn_1) hisR ?_
  intro p e s m args below meth c s₁ Bd hml0 hP hK
  obtain ⟨rfl, hZ, hh⟩ := hP
  have hx := Bd.exec
  have hby := Bd.bytes
  have hml : c.maxLocals = 1 := hml0
  have hown : s.vm.findClass "com/example/tercet/tercet/ConflictMarkersMarkerRunPinLaw" = some m.cls := findClass_of_methodNamed Bd.named
  have hnm := (name_of_methodNamed Bd.named Bd.method).1
  have X0 : Stand p l e ({ frames := 0, cells := 0, slots := 0, locals := 0 } : Room) s m #[(.int p0)] below meth c s₁ [] 0 0 := Stand.of_body Bd
  have e0 : s₁.heap = h0 := by rw [← hh, Bd.state]; rfl
  have N0 := Fr.nil n0
  have pre0 : ∀ t, Steps p.tables e below (s₁.setTop (mkF m 0 #[.val (.int p0)] [])) t → Steps p.tables e below (s₁.setTop (entryFrame m #[(.int p0)] 1)) t := fun t k => castTop (ef_4 m p0) k
  have pre1 : ∀ t, Steps p.tables e below (s₁.setTop (mkF m 3 #[.val (.int p0)] [(.int (60 : Int32)), (.int p0)])) t → Steps p.tables e below (s₁.setTop (entryFrame m #[(.int p0)] 1)) t := fun t k => pre0 t (by
    show Steps p.tables e below (s₁.setTop (mkF m 0 #[.val (.int p0)] [])) _
    refine XS.iloadN X0.here hx rfl (hb hby d4_0) rfl ?_
    show Steps p.tables e below (s₁.setTop (mkF m 1 #[.val (.int p0)] [(.int p0)])) _
    refine XS.bipush X0.here hx rfl (hb hby d4_1) ?_
    exact k)
  obtain ⟨j9, hj9, pre10⟩ : ∃ (j9 : Int32), j9 = (if p0 = (60 : Int32) then (1 : Int32) else (if p0 = (124 : Int32) then (1 : Int32) else (if p0 = (61 : Int32) then (1 : Int32) else (if p0 = (62 : Int32) then (1 : Int32) else (0 : Int32))))) ∧ ∀ t, Steps p.tables e below (s₁.setTop (mkF m 29 #[.val (.int p0)] [(.int j9)])) t → Steps p.tables e below (s₁.setTop (entryFrame m #[(.int p0)] 1)) t := by
    by_cases hc2 : p0 = (60 : Int32)
    · exact ⟨(1 : Int32), (by rw [if_pos hc2]), fun t k => pre1 t (by
        show Steps p.tables e below (s₁.setTop (mkF m 3 #[.val (.int p0)] [(.int (60 : Int32)), (.int p0)])) _
        refine XS.icmpYes X0.here hx rfl (pc0 := 3) (pc' := 24) rfl (hb hby d4_3) rfl (teq hc2).1 (by decide) (by decide) ?_
        show Steps p.tables e below (s₁.setTop (mkF m 24 #[.val (.int p0)] [])) _
        refine XS.iconst X0.here hx rfl (hb hby d4_24) ?_
        show Steps p.tables e below (s₁.setTop (mkF m 25 #[.val (.int p0)] [(.int (1 : Int32))])) _
        refine XS.goto X0.here hx rfl (pc0 := 25) (pc' := 29) rfl (hb hby d4_25) (by decide) (by decide) ?_
        exact k)⟩
    · have pre3 : ∀ t, Steps p.tables e below (s₁.setTop (mkF m 9 #[.val (.int p0)] [(.int (124 : Int32)), (.int p0)])) t → Steps p.tables e below (s₁.setTop (entryFrame m #[(.int p0)] 1)) t := fun t k => pre1 t (by
        show Steps p.tables e below (s₁.setTop (mkF m 3 #[.val (.int p0)] [(.int (60 : Int32)), (.int p0)])) _
        refine XS.icmpNo X0.here hx rfl (hb hby d4_3) rfl (feq hc2).1 ?_
        show Steps p.tables e below (s₁.setTop (mkF m 6 #[.val (.int p0)] [])) _
        refine XS.iloadN X0.here hx rfl (hb hby d4_6) rfl ?_
        show Steps p.tables e below (s₁.setTop (mkF m 7 #[.val (.int p0)] [(.int p0)])) _
        refine XS.bipush X0.here hx rfl (hb hby d4_7) ?_
        exact k)
      by_cases hc4 : p0 = (124 : Int32)
      · exact ⟨(1 : Int32), (by rw [if_neg hc2, if_pos hc4]), fun t k => pre3 t (by
          show Steps p.tables e below (s₁.setTop (mkF m 9 #[.val (.int p0)] [(.int (124 : Int32)), (.int p0)])) _
          refine XS.icmpYes X0.here hx rfl (pc0 := 9) (pc' := 24) rfl (hb hby d4_9) rfl (teq hc4).1 (by decide) (by decide) ?_
          show Steps p.tables e below (s₁.setTop (mkF m 24 #[.val (.int p0)] [])) _
          refine XS.iconst X0.here hx rfl (hb hby d4_24) ?_
          show Steps p.tables e below (s₁.setTop (mkF m 25 #[.val (.int p0)] [(.int (1 : Int32))])) _
          refine XS.goto X0.here hx rfl (pc0 := 25) (pc' := 29) rfl (hb hby d4_25) (by decide) (by decide) ?_
          exact k)⟩
      · have pre5 : ∀ t, Steps p.tables e below (s₁.setTop (mkF m 15 #[.val (.int p0)] [(.int (61 : Int32)), (.int p0)])) t → Steps p.tables e below (s₁.setTop (entryFrame m #[(.int p0)] 1)) t := fun t k => pre3 t (by
          show Steps p.tables e below (s₁.setTop (mkF m 9 #[.val (.int p0)] [(.int (124 : Int32)), (.int p0)])) _
          refine XS.icmpNo X0.here hx rfl (hb hby d4_9) rfl (feq hc4).1 ?_
          show Steps p.tables e below (s₁.setTop (mkF m 12 #[.val (.int p0)] [])) _
          refine XS.iloadN X0.here hx rfl (hb hby d4_12) rfl ?_
          show Steps p.tables e below (s₁.setTop (mkF m 13 #[.val (.int p0)] [(.int p0)])) _
          refine XS.bipush X0.here hx rfl (hb hby d4_13) ?_
          exact k)
        by_cases hc6 : p0 = (61 : Int32)
        · exact ⟨(1 : Int32), (by rw [if_neg hc2, if_neg hc4, if_pos hc6]), fun t k => pre5 t (by
            show Steps p.tables e below (s₁.setTop (mkF m 15 #[.val (.int p0)] [(.int (61 : Int32)), (.int p0)])) _
            refine XS.icmpYes X0.here hx rfl (pc0 := 15) (pc' := 24) rfl (hb hby d4_15) rfl (teq hc6).1 (by decide) (by decide) ?_
            show Steps p.tables e below (s₁.setTop (mkF m 24 #[.val (.int p0)] [])) _
            refine XS.iconst X0.here hx rfl (hb hby d4_24) ?_
            show Steps p.tables e below (s₁.setTop (mkF m 25 #[.val (.int p0)] [(.int (1 : Int32))])) _
            refine XS.goto X0.here hx rfl (pc0 := 25) (pc' := 29) rfl (hb hby d4_25) (by decide) (by decide) ?_
            exact k)⟩
        · have pre7 : ∀ t, Steps p.tables e below (s₁.setTop (mkF m 21 #[.val (.int p0)] [(.int (62 : Int32)), (.int p0)])) t → Steps p.tables e below (s₁.setTop (entryFrame m #[(.int p0)] 1)) t := fun t k => pre5 t (by
            show Steps p.tables e below (s₁.setTop (mkF m 15 #[.val (.int p0)] [(.int (61 : Int32)), (.int p0)])) _
            refine XS.icmpNo X0.here hx rfl (hb hby d4_15) rfl (feq hc6).1 ?_
            show Steps p.tables e below (s₁.setTop (mkF m 18 #[.val (.int p0)] [])) _
            refine XS.iloadN X0.here hx rfl (hb hby d4_18) rfl ?_
            show Steps p.tables e below (s₁.setTop (mkF m 19 #[.val (.int p0)] [(.int p0)])) _
            refine XS.bipush X0.here hx rfl (hb hby d4_19) ?_
            exact k)
          by_cases hc8 : p0 = (62 : Int32)
          · exact ⟨(1 : Int32), (by rw [if_neg hc2, if_neg hc4, if_neg hc6, if_pos hc8]), fun t k => pre7 t (by
              show Steps p.tables e below (s₁.setTop (mkF m 21 #[.val (.int p0)] [(.int (62 : Int32)), (.int p0)])) _
              refine XS.icmpNo X0.here hx rfl (hb hby d4_21) rfl (teq hc8).2 ?_
              show Steps p.tables e below (s₁.setTop (mkF m 24 #[.val (.int p0)] [])) _
              refine XS.iconst X0.here hx rfl (hb hby d4_24) ?_
              show Steps p.tables e below (s₁.setTop (mkF m 25 #[.val (.int p0)] [(.int (1 : Int32))])) _
              refine XS.goto X0.here hx rfl (pc0 := 25) (pc' := 29) rfl (hb hby d4_25) (by decide) (by decide) ?_
              exact k)⟩
          · exact ⟨(0 : Int32), (by rw [if_neg hc2, if_neg hc4, if_neg hc6, if_neg hc8]), fun t k => pre7 t (by
              show Steps p.tables e below (s₁.setTop (mkF m 21 #[.val (.int p0)] [(.int (62 : Int32)), (.int p0)])) _
              refine XS.icmpYes X0.here hx rfl (pc0 := 21) (pc' := 28) rfl (hb hby d4_21) rfl (feq hc8).2 (by decide) (by decide) ?_
              show Steps p.tables e below (s₁.setTop (mkF m 28 #[.val (.int p0)] [])) _
              refine XS.iconst X0.here hx rfl (hb hby d4_28) ?_
              exact k)⟩
  obtain ⟨fs, hr, hrun, hended, hW, hsame⟩ := X0.leave (v := some (.int (nar .boolean j9))) (fun h => by rw [Bd.returns] at h; cases h)
  refine ⟨_, _, pre10 _ ?_, hrun, hended, _, _, rfl, ?_, ⟨_, rfl⟩, hW, hsame.mono (by decide) (by decide)⟩
  · show Steps p.tables e below (s₁.setTop (mkF m 29 #[.val (.int p0)] [(.int j9)])) _
    exact retN X0 hx (t := .boolean) Bd.returns (by simp) (hb hby d4_29) hr
  · show Q4 Z p0 h0 n0 _ s₁.heap _
    rw [e0]
    exact ⟨congrArg (fun z => some (Value.int z)) (by subst hj9; rfl), N0, rfl⟩
theorem d1_0 : decode method_4_code 0 = .ok (.bipush 8, 2) := by decide +kernel
theorem d1_2 : decode method_4_code 2 = .ok (.newarray .byte, 2) := by decide +kernel
theorem d1_4 : decode method_4_code 4 = .ok (.dup, 1) := by decide +kernel
theorem d1_5 : decode method_4_code 5 = .ok (.iconst 0, 1) := by decide +kernel
theorem d1_6 : decode method_4_code 6 = .ok (.bipush 60, 2) := by decide +kernel
theorem d1_8 : decode method_4_code 8 = .ok (.bastore, 1) := by decide +kernel
theorem d1_9 : decode method_4_code 9 = .ok (.dup, 1) := by decide +kernel
theorem d1_10 : decode method_4_code 10 = .ok (.iconst 1, 1) := by decide +kernel
theorem d1_11 : decode method_4_code 11 = .ok (.bipush 124, 2) := by decide +kernel
theorem d1_13 : decode method_4_code 13 = .ok (.bastore, 1) := by decide +kernel
theorem d1_14 : decode method_4_code 14 = .ok (.dup, 1) := by decide +kernel
theorem d1_15 : decode method_4_code 15 = .ok (.iconst 2, 1) := by decide +kernel
theorem d1_16 : decode method_4_code 16 = .ok (.bipush 61, 2) := by decide +kernel
theorem d1_18 : decode method_4_code 18 = .ok (.bastore, 1) := by decide +kernel
theorem d1_19 : decode method_4_code 19 = .ok (.dup, 1) := by decide +kernel
theorem d1_20 : decode method_4_code 20 = .ok (.iconst 3, 1) := by decide +kernel
theorem d1_21 : decode method_4_code 21 = .ok (.bipush 62, 2) := by decide +kernel
theorem d1_23 : decode method_4_code 23 = .ok (.bastore, 1) := by decide +kernel
theorem d1_24 : decode method_4_code 24 = .ok (.dup, 1) := by decide +kernel
theorem d1_25 : decode method_4_code 25 = .ok (.iconst 4, 1) := by decide +kernel
theorem d1_26 : decode method_4_code 26 = .ok (.bipush 32, 2) := by decide +kernel
theorem d1_28 : decode method_4_code 28 = .ok (.bastore, 1) := by decide +kernel
theorem d1_29 : decode method_4_code 29 = .ok (.dup, 1) := by decide +kernel
theorem d1_30 : decode method_4_code 30 = .ok (.iconst 5, 1) := by decide +kernel
theorem d1_31 : decode method_4_code 31 = .ok (.bipush 10, 2) := by decide +kernel
theorem d1_33 : decode method_4_code 33 = .ok (.bastore, 1) := by decide +kernel
theorem d1_34 : decode method_4_code 34 = .ok (.dup, 1) := by decide +kernel
theorem d1_35 : decode method_4_code 35 = .ok (.bipush 6, 2) := by decide +kernel
theorem d1_37 : decode method_4_code 37 = .ok (.bipush 13, 2) := by decide +kernel
theorem d1_39 : decode method_4_code 39 = .ok (.bastore, 1) := by decide +kernel
theorem d1_40 : decode method_4_code 40 = .ok (.dup, 1) := by decide +kernel
theorem d1_41 : decode method_4_code 41 = .ok (.bipush 7, 2) := by decide +kernel
theorem d1_43 : decode method_4_code 43 = .ok (.bipush 97, 2) := by decide +kernel
theorem d1_45 : decode method_4_code 45 = .ok (.bastore, 1) := by decide +kernel
theorem d1_46 : decode method_4_code 46 = .ok (.astore 4, 2) := by decide +kernel
theorem d1_48 : decode method_4_code 48 = .ok (.lload_n 0, 1) := by decide +kernel
theorem d1_49 : decode method_4_code 49 = .ok (.bipush 8, 2) := by decide +kernel
theorem d1_51 : decode method_4_code 51 = .ok (.iload_n 3, 1) := by decide +kernel
theorem d1_52 : decode method_4_code 52 = .ok (.imul, 1) := by decide +kernel
theorem d1_53 : decode method_4_code 53 = .ok (.lushr, 1) := by decide +kernel
theorem d1_54 : decode method_4_code 54 = .ok (.l2i, 1) := by decide +kernel
theorem d1_55 : decode method_4_code 55 = .ok (.istore 5, 2) := by decide +kernel
theorem d1_57 : decode method_4_code 57 = .ok (.iload_n 2, 1) := by decide +kernel
theorem d1_58 : decode method_4_code 58 = .ok (.iload_n 3, 1) := by decide +kernel
theorem d1_59 : decode method_4_code 59 = .ok (.iushr, 1) := by decide +kernel
theorem d1_60 : decode method_4_code 60 = .ok (.iconst 1, 1) := by decide +kernel
theorem d1_61 : decode method_4_code 61 = .ok (.iand, 1) := by decide +kernel
theorem d1_62 : decode method_4_code 62 = .ok (.ifCond .ne 12, 3) := by decide +kernel
theorem d1_65 : decode method_4_code 65 = .ok (.aload 4, 2) := by decide +kernel
theorem d1_67 : decode method_4_code 67 = .ok (.iload 5, 2) := by decide +kernel
theorem d1_69 : decode method_4_code 69 = .ok (.bipush 7, 2) := by decide +kernel
theorem d1_71 : decode method_4_code 71 = .ok (.iand, 1) := by decide +kernel
theorem d1_72 : decode method_4_code 72 = .ok (.baload, 1) := by decide +kernel
theorem d1_74 : decode method_4_code 74 = .ok (.iload 5, 2) := by decide +kernel
theorem d1_76 : decode method_4_code 76 = .ok (.i2b, 1) := by decide +kernel
theorem ef_1 (m : MethodId) (x0 : Int64) (x1 : Int32) (x2 : Int32) : entryFrame m #[(.long x0), (.int x1), (.int x2)] 6 = mkF m 0 #[.val (.long x0), .second, .val (.int x1), .val (.int x2), .unset, .unset] [] := by first | (simp [entryFrame, mkF, argsToLocals, Value.category]; done) | rfl
def f1 (q0 : Int64) (p1 : Int32) (p2 : Int32) : Int32 := (let v20 : Int32 := (((q0.toUInt64 >>> (((8 : Int32) * p2) &&& 0x3f).toInt64.toUInt64).toInt64).toInt32); (if (((p1.toUInt32 >>> (p2 &&& 31).toUInt32).toInt32) &&& (1 : Int32)) = (0 : Int32) then (nar .byte (own_get [(nar .byte (60 : Int32)), (nar .byte (124 : Int32)), (nar .byte (61 : Int32)), (nar .byte (62 : Int32)), (nar .byte (32 : Int32)), (nar .byte (10 : Int32)), (nar .byte (13 : Int32)), (nar .byte (97 : Int32))] (v20 &&& (7 : Int32)))) else (nar .byte (v20.toInt8.toInt32))))
def Q1 (Z : State) (q0 : Int64) (p1 : Int32) (p2 : Int32) (h0 : Heap) (n0 : Nat) (v : Option Value) (h : Heap) (L : List Loc) : Prop := v = some (.int (f1 q0 p1 p2)) ∧ Fr n0 L ∧ Keep h0 h []
theorem d1_73 : decode method_4_code 73 = .ok (.ireturn, 1) := by decide +kernel
theorem d1_77 : decode method_4_code 77 = .ok (.ireturn, 1) := by decide +kernel
theorem own_in1_72_1 (q0 : Int64) (p1 : Int32) (p2 : Int32) (v20 : Int32) (hv20 : v20 = (((q0.toUInt64 >>> (((8 : Int32) * p2) &&& 0x3f).toInt64.toUInt64).toInt64).toInt32)) (hc23 : (((p1.toUInt32 >>> (p2 &&& 31).toUInt32).toInt32) &&& (1 : Int32)) = (0 : Int32)) : ¬ (v20 &&& (7 : Int32)) < 0 ∧ (v20 &&& (7 : Int32)) < (8 : Int32) := by
  have h := c_mask v20 7 3 (by decide) (by decide)
  have k : ((2 ^ 3 : Nat) : Int) = 8 := by decide
  have k0 : (0 : Int32).toInt = 0 := by decide
  have k1 : (8 : Int32).toInt = 8 := by decide
  rw [k] at h
  rw [Int32.lt_iff_toInt_lt, Int32.lt_iff_toInt_lt, h, k0, k1]
  omega
set_option maxRecDepth 65536 in
set_option maxHeartbeats 40000000 in
theorem rm1 (l : Launch) (Z : State) (aw : Array Value) (hw : ∀ d ∈ tables_1, d.before aw Z = true) (ws : List Jvm.Cond) (q0 : Int64) (p1 : Int32) (p2 : Int32) (h0 : Heap) (n0 : Nat) (Z0 : n0 ≤ h0.size) :
    MetFree l (⟨"com/example/tercet/tercet/ConflictMarkersMarkerRunPinLaw", "pick", "(JII)B"⟩ : MethodName) (head1 (Jvm.Cond.code (⟨"com/example/tercet/tercet/ConflictMarkersMarkerRunPinLaw", "pick", "(JII)B"⟩ : MethodName) method_4_code 6 (some .byte) :: ws) ({ frames := 0, cells := 1, slots := 8, locals := 0 } : Room)) (fun a U => a = #[(.long q0), (.int p1), (.int p2)] ∧ Z.Warmed39 U.vm ∧ U.heap = h0) (fun _ _ _ _ _ => True) (fun _ U o U' => ∃ v L, o = .returned v ∧ Q1 Z q0 p1 p2 h0 n0 v U'.heap L ∧ FrameEnd U o U' L ({ frames := 0, cells := 1, slots := 8, locals := 0 } : Room).cells ({ frames := 0, cells := 1, slots := 8, locals := 0 } : Room).slots) := by
  refine MetFree.of_bodySF (plainFor_of_name pn_1) hisR ?_
  intro p e s m args below meth c s₁ Bd hml0 hP hK
  obtain ⟨rfl, hZ, hh⟩ := hP
  have hx := Bd.exec
  have hby := Bd.bytes
  have hml : c.maxLocals = 6 := hml0
  have hown : s.vm.findClass "com/example/tercet/tercet/ConflictMarkersMarkerRunPinLaw" = some m.cls := findClass_of_methodNamed Bd.named
  have hnm := (name_of_methodNamed Bd.named Bd.method).1
  have X0 : Stand p l e ({ frames := 0, cells := 1, slots := 8, locals := 0 } : Room) s m #[(.long q0), (.int p1), (.int p2)] below meth c s₁ [] 0 0 := Stand.of_body Bd
  have e0 : s₁.heap = h0 := by rw [← hh, Bd.state]; rfl
  have N0 := Fr.nil n0
  have pre0 : ∀ t, Steps p.tables e below (s₁.setTop (mkF m 0 #[.val (.long q0), .second, .val (.int p1), .val (.int p2), .unset, .unset] [])) t → Steps p.tables e below (s₁.setTop (entryFrame m #[(.long q0), (.int p1), (.int p2)] 6)) t := fun t k => castTop (ef_1 m q0 p1 p2) k
  have pre1 : ∀ t, Steps p.tables e below (s₁.setTop (mkF m 2 #[.val (.long q0), .second, .val (.int p1), .val (.int p2), .unset, .unset] [(.int (8 : Int32))])) t → Steps p.tables e below (s₁.setTop (entryFrame m #[(.long q0), (.int p1), (.int p2)] 6)) t := fun t k => pre0 t (by
    show Steps p.tables e below (s₁.setTop (mkF m 0 #[.val (.long q0), .second, .val (.int p1), .val (.int p2), .unset, .unset] [])) _
    refine XS.bipush X0.here hx rfl (hb hby d1_0) ?_
    exact k)
  obtain ⟨T2, h2, k2, X2, e2, E2, A2, st2⟩ := newP X0 hx hZ (hw _ (List.mem_of_getElem? (i := 0) rfl)) e0 (g := (mkF m 2 #[.val (.long q0), .second, .val (.int p1), .val (.int p2), .unset, .unset] [(.int (8 : Int32))])) rfl (hb hby d1_2) rfl (by decide) (cap := 8) (by decide) (by decide) (by decide) (by decide)
  obtain ⟨b2, g2⟩ : ∃ z, z = h0.size := ⟨_, rfl⟩
  have g_b2 : n0 ≤ b2 := Nat.le_trans Z0 (Nat.le_of_eq g2.symm)
  have sz_b2 : h0.size ≤ b2 := Nat.le_trans (Keep.refl h0 []).1 (Nat.le_of_eq g2.symm)
  rw [← g2] at A2 st2
  have K2 : Keep h0 h2 [] := (Keep.refl h0 []).ext E2
  have Z2 : n0 ≤ h2.size := Nat.le_trans Z0 E2.1
  have V_b2 : Arv Z h2 b2 k2 .byte (8 : Int32) [(.int (0 : Int32)), (.int (0 : Int32)), (.int (0 : Int32)), (.int (0 : Int32)), (.int (0 : Int32)), (.int (0 : Int32)), (.int (0 : Int32)), (.int (0 : Int32))] (.int (0 : Int32)) := (Arv.new A2 (by decide)).pad (pad_rep [] (.int (0 : Int32)) 8)
  have pre3 : ∀ t, Steps p.tables e below (T2.setTop (mkF m 8 #[.val (.long q0), .second, .val (.int p1), .val (.int p2), .unset, .unset] [(.int (60 : Int32)), (.int (0 : Int32)), (.ref b2), (.ref b2)])) t → Steps p.tables e below (s₁.setTop (entryFrame m #[(.long q0), (.int p1), (.int p2)] 6)) t := fun t k => pre1 t (by
    show Steps p.tables e below (s₁.setTop (mkF m 2 #[.val (.long q0), .second, .val (.int p1), .val (.int p2), .unset, .unset] [(.int (8 : Int32))])) _
    refine st2 _ ?_
    show Steps p.tables e below (T2.setTop (mkF m 4 #[.val (.long q0), .second, .val (.int p1), .val (.int p2), .unset, .unset] [(.ref b2)])) _
    refine XS.dup X2.here hx rfl (hb hby d1_4) rfl rfl ?_
    show Steps p.tables e below (T2.setTop (mkF m 5 #[.val (.long q0), .second, .val (.int p1), .val (.int p2), .unset, .unset] [(.ref b2), (.ref b2)])) _
    refine XS.iconst X2.here hx rfl (hb hby d1_5) ?_
    show Steps p.tables e below (T2.setTop (mkF m 6 #[.val (.long q0), .second, .val (.int p1), .val (.int p2), .unset, .unset] [(.int (0 : Int32)), (.ref b2), (.ref b2)])) _
    refine XS.bipush X2.here hx rfl (hb hby d1_6) ?_
    exact k)
  obtain ⟨cl4, Ar4, q4, S4, M4, H4, G4⟩ := id V_b2
  have hin4 : ¬ ((0 : Int32) < 0 ∨ cl4.slots.size ≤ ((0 : Int32)).toNatClampNeg) := inb_of S4 ⟨by decide, by decide⟩
  obtain ⟨T4, h4, X4, e4, W4, st4⟩ := stB X2 hx hZ e2 Ar4 (j := (0 : Int32)) hin4 (g := (mkF m 8 #[.val (.long q0), .second, .val (.int p1), .val (.int p2), .unset, .unset] [(.int (60 : Int32)), (.int (0 : Int32)), (.ref b2), (.ref b2)])) rfl rfl (hb hby d1_8)
  have V_b2_4 : Arv Z h4 b2 k2 .byte (8 : Int32) [(.int (nar .byte (60 : Int32))), (.int (0 : Int32)), (.int (0 : Int32)), (.int (0 : Int32)), (.int (0 : Int32)), (.int (0 : Int32)), (.int (0 : Int32)), (.int (0 : Int32))] (.int (0 : Int32)) := Arv.set Ar4 q4 S4 M4 H4 G4 (fits_nar_byte _) W4 0 rfl (Nat.le_of_ble_eq_true rfl)
  have K4 : Keep h0 h4 [] := K2.wr W4 (Or.inr sz_b2)
  have N4 := Fr.snoc X4 N0 g_b2
  have Z4 : n0 ≤ h4.size := Nat.le_trans Z2 (Nat.le_of_eq W4.size.symm)
  have pre5 : ∀ t, Steps p.tables e below (T4.setTop (mkF m 13 #[.val (.long q0), .second, .val (.int p1), .val (.int p2), .unset, .unset] [(.int (124 : Int32)), (.int (1 : Int32)), (.ref b2), (.ref b2)])) t → Steps p.tables e below (s₁.setTop (entryFrame m #[(.long q0), (.int p1), (.int p2)] 6)) t := fun t k => pre3 t (by
    show Steps p.tables e below (T2.setTop (mkF m 8 #[.val (.long q0), .second, .val (.int p1), .val (.int p2), .unset, .unset] [(.int (60 : Int32)), (.int (0 : Int32)), (.ref b2), (.ref b2)])) _
    refine st4 _ ?_
    show Steps p.tables e below (T4.setTop (mkF m 9 #[.val (.long q0), .second, .val (.int p1), .val (.int p2), .unset, .unset] [(.ref b2)])) _
    refine XS.dup X4.here hx rfl (hb hby d1_9) rfl rfl ?_
    show Steps p.tables e below (T4.setTop (mkF m 10 #[.val (.long q0), .second, .val (.int p1), .val (.int p2), .unset, .unset] [(.ref b2), (.ref b2)])) _
    refine XS.iconst X4.here hx rfl (hb hby d1_10) ?_
    show Steps p.tables e below (T4.setTop (mkF m 11 #[.val (.long q0), .second, .val (.int p1), .val (.int p2), .unset, .unset] [(.int (1 : Int32)), (.ref b2), (.ref b2)])) _
    refine XS.bipush X4.here hx rfl (hb hby d1_11) ?_
    exact k)
  obtain ⟨cl6, Ar6, q6, S6, M6, H6, G6⟩ := id V_b2_4
  have hin6 : ¬ ((1 : Int32) < 0 ∨ cl6.slots.size ≤ ((1 : Int32)).toNatClampNeg) := inb_of S6 ⟨by decide, by decide⟩
  obtain ⟨T6, h6, X6, e6, W6, st6⟩ := stB X4 hx hZ e4 Ar6 (j := (1 : Int32)) hin6 (g := (mkF m 13 #[.val (.long q0), .second, .val (.int p1), .val (.int p2), .unset, .unset] [(.int (124 : Int32)), (.int (1 : Int32)), (.ref b2), (.ref b2)])) rfl rfl (hb hby d1_13)
  have V_b2_6 : Arv Z h6 b2 k2 .byte (8 : Int32) [(.int (nar .byte (60 : Int32))), (.int (nar .byte (124 : Int32))), (.int (0 : Int32)), (.int (0 : Int32)), (.int (0 : Int32)), (.int (0 : Int32)), (.int (0 : Int32)), (.int (0 : Int32))] (.int (0 : Int32)) := Arv.set Ar6 q6 S6 M6 H6 G6 (fits_nar_byte _) W6 1 rfl (Nat.le_of_ble_eq_true rfl)
  have K6 : Keep h0 h6 [] := K4.wr W6 (Or.inr sz_b2)
  have N6 := Fr.snoc X6 N4 g_b2
  have Z6 : n0 ≤ h6.size := Nat.le_trans Z4 (Nat.le_of_eq W6.size.symm)
  have pre7 : ∀ t, Steps p.tables e below (T6.setTop (mkF m 18 #[.val (.long q0), .second, .val (.int p1), .val (.int p2), .unset, .unset] [(.int (61 : Int32)), (.int (2 : Int32)), (.ref b2), (.ref b2)])) t → Steps p.tables e below (s₁.setTop (entryFrame m #[(.long q0), (.int p1), (.int p2)] 6)) t := fun t k => pre5 t (by
    show Steps p.tables e below (T4.setTop (mkF m 13 #[.val (.long q0), .second, .val (.int p1), .val (.int p2), .unset, .unset] [(.int (124 : Int32)), (.int (1 : Int32)), (.ref b2), (.ref b2)])) _
    refine st6 _ ?_
    show Steps p.tables e below (T6.setTop (mkF m 14 #[.val (.long q0), .second, .val (.int p1), .val (.int p2), .unset, .unset] [(.ref b2)])) _
    refine XS.dup X6.here hx rfl (hb hby d1_14) rfl rfl ?_
    show Steps p.tables e below (T6.setTop (mkF m 15 #[.val (.long q0), .second, .val (.int p1), .val (.int p2), .unset, .unset] [(.ref b2), (.ref b2)])) _
    refine XS.iconst X6.here hx rfl (hb hby d1_15) ?_
    show Steps p.tables e below (T6.setTop (mkF m 16 #[.val (.long q0), .second, .val (.int p1), .val (.int p2), .unset, .unset] [(.int (2 : Int32)), (.ref b2), (.ref b2)])) _
    refine XS.bipush X6.here hx rfl (hb hby d1_16) ?_
    exact k)
  obtain ⟨cl8, Ar8, q8, S8, M8, H8, G8⟩ := id V_b2_6
  have hin8 : ¬ ((2 : Int32) < 0 ∨ cl8.slots.size ≤ ((2 : Int32)).toNatClampNeg) := inb_of S8 ⟨by decide, by decide⟩
  obtain ⟨T8, h8, X8, e8, W8, st8⟩ := stB X6 hx hZ e6 Ar8 (j := (2 : Int32)) hin8 (g := (mkF m 18 #[.val (.long q0), .second, .val (.int p1), .val (.int p2), .unset, .unset] [(.int (61 : Int32)), (.int (2 : Int32)), (.ref b2), (.ref b2)])) rfl rfl (hb hby d1_18)
  have V_b2_8 : Arv Z h8 b2 k2 .byte (8 : Int32) [(.int (nar .byte (60 : Int32))), (.int (nar .byte (124 : Int32))), (.int (nar .byte (61 : Int32))), (.int (0 : Int32)), (.int (0 : Int32)), (.int (0 : Int32)), (.int (0 : Int32)), (.int (0 : Int32))] (.int (0 : Int32)) := Arv.set Ar8 q8 S8 M8 H8 G8 (fits_nar_byte _) W8 2 rfl (Nat.le_of_ble_eq_true rfl)
  have K8 : Keep h0 h8 [] := K6.wr W8 (Or.inr sz_b2)
  have N8 := Fr.snoc X8 N6 g_b2
  have Z8 : n0 ≤ h8.size := Nat.le_trans Z6 (Nat.le_of_eq W8.size.symm)
  have pre9 : ∀ t, Steps p.tables e below (T8.setTop (mkF m 23 #[.val (.long q0), .second, .val (.int p1), .val (.int p2), .unset, .unset] [(.int (62 : Int32)), (.int (3 : Int32)), (.ref b2), (.ref b2)])) t → Steps p.tables e below (s₁.setTop (entryFrame m #[(.long q0), (.int p1), (.int p2)] 6)) t := fun t k => pre7 t (by
    show Steps p.tables e below (T6.setTop (mkF m 18 #[.val (.long q0), .second, .val (.int p1), .val (.int p2), .unset, .unset] [(.int (61 : Int32)), (.int (2 : Int32)), (.ref b2), (.ref b2)])) _
    refine st8 _ ?_
    show Steps p.tables e below (T8.setTop (mkF m 19 #[.val (.long q0), .second, .val (.int p1), .val (.int p2), .unset, .unset] [(.ref b2)])) _
    refine XS.dup X8.here hx rfl (hb hby d1_19) rfl rfl ?_
    show Steps p.tables e below (T8.setTop (mkF m 20 #[.val (.long q0), .second, .val (.int p1), .val (.int p2), .unset, .unset] [(.ref b2), (.ref b2)])) _
    refine XS.iconst X8.here hx rfl (hb hby d1_20) ?_
    show Steps p.tables e below (T8.setTop (mkF m 21 #[.val (.long q0), .second, .val (.int p1), .val (.int p2), .unset, .unset] [(.int (3 : Int32)), (.ref b2), (.ref b2)])) _
    refine XS.bipush X8.here hx rfl (hb hby d1_21) ?_
    exact k)
  obtain ⟨cl10, Ar10, q10, S10, M10, H10, G10⟩ := id V_b2_8
  have hin10 : ¬ ((3 : Int32) < 0 ∨ cl10.slots.size ≤ ((3 : Int32)).toNatClampNeg) := inb_of S10 ⟨by decide, by decide⟩
  obtain ⟨T10, h10, X10, e10, W10, st10⟩ := stB X8 hx hZ e8 Ar10 (j := (3 : Int32)) hin10 (g := (mkF m 23 #[.val (.long q0), .second, .val (.int p1), .val (.int p2), .unset, .unset] [(.int (62 : Int32)), (.int (3 : Int32)), (.ref b2), (.ref b2)])) rfl rfl (hb hby d1_23)
  have V_b2_10 : Arv Z h10 b2 k2 .byte (8 : Int32) [(.int (nar .byte (60 : Int32))), (.int (nar .byte (124 : Int32))), (.int (nar .byte (61 : Int32))), (.int (nar .byte (62 : Int32))), (.int (0 : Int32)), (.int (0 : Int32)), (.int (0 : Int32)), (.int (0 : Int32))] (.int (0 : Int32)) := Arv.set Ar10 q10 S10 M10 H10 G10 (fits_nar_byte _) W10 3 rfl (Nat.le_of_ble_eq_true rfl)
  have K10 : Keep h0 h10 [] := K8.wr W10 (Or.inr sz_b2)
  have N10 := Fr.snoc X10 N8 g_b2
  have Z10 : n0 ≤ h10.size := Nat.le_trans Z8 (Nat.le_of_eq W10.size.symm)
  have pre11 : ∀ t, Steps p.tables e below (T10.setTop (mkF m 28 #[.val (.long q0), .second, .val (.int p1), .val (.int p2), .unset, .unset] [(.int (32 : Int32)), (.int (4 : Int32)), (.ref b2), (.ref b2)])) t → Steps p.tables e below (s₁.setTop (entryFrame m #[(.long q0), (.int p1), (.int p2)] 6)) t := fun t k => pre9 t (by
    show Steps p.tables e below (T8.setTop (mkF m 23 #[.val (.long q0), .second, .val (.int p1), .val (.int p2), .unset, .unset] [(.int (62 : Int32)), (.int (3 : Int32)), (.ref b2), (.ref b2)])) _
    refine st10 _ ?_
    show Steps p.tables e below (T10.setTop (mkF m 24 #[.val (.long q0), .second, .val (.int p1), .val (.int p2), .unset, .unset] [(.ref b2)])) _
    refine XS.dup X10.here hx rfl (hb hby d1_24) rfl rfl ?_
    show Steps p.tables e below (T10.setTop (mkF m 25 #[.val (.long q0), .second, .val (.int p1), .val (.int p2), .unset, .unset] [(.ref b2), (.ref b2)])) _
    refine XS.iconst X10.here hx rfl (hb hby d1_25) ?_
    show Steps p.tables e below (T10.setTop (mkF m 26 #[.val (.long q0), .second, .val (.int p1), .val (.int p2), .unset, .unset] [(.int (4 : Int32)), (.ref b2), (.ref b2)])) _
    refine XS.bipush X10.here hx rfl (hb hby d1_26) ?_
    exact k)
  obtain ⟨cl12, Ar12, q12, S12, M12, H12, G12⟩ := id V_b2_10
  have hin12 : ¬ ((4 : Int32) < 0 ∨ cl12.slots.size ≤ ((4 : Int32)).toNatClampNeg) := inb_of S12 ⟨by decide, by decide⟩
  obtain ⟨T12, h12, X12, e12, W12, st12⟩ := stB X10 hx hZ e10 Ar12 (j := (4 : Int32)) hin12 (g := (mkF m 28 #[.val (.long q0), .second, .val (.int p1), .val (.int p2), .unset, .unset] [(.int (32 : Int32)), (.int (4 : Int32)), (.ref b2), (.ref b2)])) rfl rfl (hb hby d1_28)
  have V_b2_12 : Arv Z h12 b2 k2 .byte (8 : Int32) [(.int (nar .byte (60 : Int32))), (.int (nar .byte (124 : Int32))), (.int (nar .byte (61 : Int32))), (.int (nar .byte (62 : Int32))), (.int (nar .byte (32 : Int32))), (.int (0 : Int32)), (.int (0 : Int32)), (.int (0 : Int32))] (.int (0 : Int32)) := Arv.set Ar12 q12 S12 M12 H12 G12 (fits_nar_byte _) W12 4 rfl (Nat.le_of_ble_eq_true rfl)
  have K12 : Keep h0 h12 [] := K10.wr W12 (Or.inr sz_b2)
  have N12 := Fr.snoc X12 N10 g_b2
  have Z12 : n0 ≤ h12.size := Nat.le_trans Z10 (Nat.le_of_eq W12.size.symm)
  have pre13 : ∀ t, Steps p.tables e below (T12.setTop (mkF m 33 #[.val (.long q0), .second, .val (.int p1), .val (.int p2), .unset, .unset] [(.int (10 : Int32)), (.int (5 : Int32)), (.ref b2), (.ref b2)])) t → Steps p.tables e below (s₁.setTop (entryFrame m #[(.long q0), (.int p1), (.int p2)] 6)) t := fun t k => pre11 t (by
    show Steps p.tables e below (T10.setTop (mkF m 28 #[.val (.long q0), .second, .val (.int p1), .val (.int p2), .unset, .unset] [(.int (32 : Int32)), (.int (4 : Int32)), (.ref b2), (.ref b2)])) _
    refine st12 _ ?_
    show Steps p.tables e below (T12.setTop (mkF m 29 #[.val (.long q0), .second, .val (.int p1), .val (.int p2), .unset, .unset] [(.ref b2)])) _
    refine XS.dup X12.here hx rfl (hb hby d1_29) rfl rfl ?_
    show Steps p.tables e below (T12.setTop (mkF m 30 #[.val (.long q0), .second, .val (.int p1), .val (.int p2), .unset, .unset] [(.ref b2), (.ref b2)])) _
    refine XS.iconst X12.here hx rfl (hb hby d1_30) ?_
    show Steps p.tables e below (T12.setTop (mkF m 31 #[.val (.long q0), .second, .val (.int p1), .val (.int p2), .unset, .unset] [(.int (5 : Int32)), (.ref b2), (.ref b2)])) _
    refine XS.bipush X12.here hx rfl (hb hby d1_31) ?_
    exact k)
  obtain ⟨cl14, Ar14, q14, S14, M14, H14, G14⟩ := id V_b2_12
  have hin14 : ¬ ((5 : Int32) < 0 ∨ cl14.slots.size ≤ ((5 : Int32)).toNatClampNeg) := inb_of S14 ⟨by decide, by decide⟩
  obtain ⟨T14, h14, X14, e14, W14, st14⟩ := stB X12 hx hZ e12 Ar14 (j := (5 : Int32)) hin14 (g := (mkF m 33 #[.val (.long q0), .second, .val (.int p1), .val (.int p2), .unset, .unset] [(.int (10 : Int32)), (.int (5 : Int32)), (.ref b2), (.ref b2)])) rfl rfl (hb hby d1_33)
  have V_b2_14 : Arv Z h14 b2 k2 .byte (8 : Int32) [(.int (nar .byte (60 : Int32))), (.int (nar .byte (124 : Int32))), (.int (nar .byte (61 : Int32))), (.int (nar .byte (62 : Int32))), (.int (nar .byte (32 : Int32))), (.int (nar .byte (10 : Int32))), (.int (0 : Int32)), (.int (0 : Int32))] (.int (0 : Int32)) := Arv.set Ar14 q14 S14 M14 H14 G14 (fits_nar_byte _) W14 5 rfl (Nat.le_of_ble_eq_true rfl)
  have K14 : Keep h0 h14 [] := K12.wr W14 (Or.inr sz_b2)
  have N14 := Fr.snoc X14 N12 g_b2
  have Z14 : n0 ≤ h14.size := Nat.le_trans Z12 (Nat.le_of_eq W14.size.symm)
  have pre15 : ∀ t, Steps p.tables e below (T14.setTop (mkF m 39 #[.val (.long q0), .second, .val (.int p1), .val (.int p2), .unset, .unset] [(.int (13 : Int32)), (.int (6 : Int32)), (.ref b2), (.ref b2)])) t → Steps p.tables e below (s₁.setTop (entryFrame m #[(.long q0), (.int p1), (.int p2)] 6)) t := fun t k => pre13 t (by
    show Steps p.tables e below (T12.setTop (mkF m 33 #[.val (.long q0), .second, .val (.int p1), .val (.int p2), .unset, .unset] [(.int (10 : Int32)), (.int (5 : Int32)), (.ref b2), (.ref b2)])) _
    refine st14 _ ?_
    show Steps p.tables e below (T14.setTop (mkF m 34 #[.val (.long q0), .second, .val (.int p1), .val (.int p2), .unset, .unset] [(.ref b2)])) _
    refine XS.dup X14.here hx rfl (hb hby d1_34) rfl rfl ?_
    show Steps p.tables e below (T14.setTop (mkF m 35 #[.val (.long q0), .second, .val (.int p1), .val (.int p2), .unset, .unset] [(.ref b2), (.ref b2)])) _
    refine XS.bipush X14.here hx rfl (hb hby d1_35) ?_
    show Steps p.tables e below (T14.setTop (mkF m 37 #[.val (.long q0), .second, .val (.int p1), .val (.int p2), .unset, .unset] [(.int (6 : Int32)), (.ref b2), (.ref b2)])) _
    refine XS.bipush X14.here hx rfl (hb hby d1_37) ?_
    exact k)
  obtain ⟨cl16, Ar16, q16, S16, M16, H16, G16⟩ := id V_b2_14
  have hin16 : ¬ ((6 : Int32) < 0 ∨ cl16.slots.size ≤ ((6 : Int32)).toNatClampNeg) := inb_of S16 ⟨by decide, by decide⟩
  obtain ⟨T16, h16, X16, e16, W16, st16⟩ := stB X14 hx hZ e14 Ar16 (j := (6 : Int32)) hin16 (g := (mkF m 39 #[.val (.long q0), .second, .val (.int p1), .val (.int p2), .unset, .unset] [(.int (13 : Int32)), (.int (6 : Int32)), (.ref b2), (.ref b2)])) rfl rfl (hb hby d1_39)
  have V_b2_16 : Arv Z h16 b2 k2 .byte (8 : Int32) [(.int (nar .byte (60 : Int32))), (.int (nar .byte (124 : Int32))), (.int (nar .byte (61 : Int32))), (.int (nar .byte (62 : Int32))), (.int (nar .byte (32 : Int32))), (.int (nar .byte (10 : Int32))), (.int (nar .byte (13 : Int32))), (.int (0 : Int32))] (.int (0 : Int32)) := Arv.set Ar16 q16 S16 M16 H16 G16 (fits_nar_byte _) W16 6 rfl (Nat.le_of_ble_eq_true rfl)
  have K16 : Keep h0 h16 [] := K14.wr W16 (Or.inr sz_b2)
  have N16 := Fr.snoc X16 N14 g_b2
  have Z16 : n0 ≤ h16.size := Nat.le_trans Z14 (Nat.le_of_eq W16.size.symm)
  have pre17 : ∀ t, Steps p.tables e below (T16.setTop (mkF m 45 #[.val (.long q0), .second, .val (.int p1), .val (.int p2), .unset, .unset] [(.int (97 : Int32)), (.int (7 : Int32)), (.ref b2), (.ref b2)])) t → Steps p.tables e below (s₁.setTop (entryFrame m #[(.long q0), (.int p1), (.int p2)] 6)) t := fun t k => pre15 t (by
    show Steps p.tables e below (T14.setTop (mkF m 39 #[.val (.long q0), .second, .val (.int p1), .val (.int p2), .unset, .unset] [(.int (13 : Int32)), (.int (6 : Int32)), (.ref b2), (.ref b2)])) _
    refine st16 _ ?_
    show Steps p.tables e below (T16.setTop (mkF m 40 #[.val (.long q0), .second, .val (.int p1), .val (.int p2), .unset, .unset] [(.ref b2)])) _
    refine XS.dup X16.here hx rfl (hb hby d1_40) rfl rfl ?_
    show Steps p.tables e below (T16.setTop (mkF m 41 #[.val (.long q0), .second, .val (.int p1), .val (.int p2), .unset, .unset] [(.ref b2), (.ref b2)])) _
    refine XS.bipush X16.here hx rfl (hb hby d1_41) ?_
    show Steps p.tables e below (T16.setTop (mkF m 43 #[.val (.long q0), .second, .val (.int p1), .val (.int p2), .unset, .unset] [(.int (7 : Int32)), (.ref b2), (.ref b2)])) _
    refine XS.bipush X16.here hx rfl (hb hby d1_43) ?_
    exact k)
  obtain ⟨cl18, Ar18, q18, S18, M18, H18, G18⟩ := id V_b2_16
  have hin18 : ¬ ((7 : Int32) < 0 ∨ cl18.slots.size ≤ ((7 : Int32)).toNatClampNeg) := inb_of S18 ⟨by decide, by decide⟩
  obtain ⟨T18, h18, X18, e18, W18, st18⟩ := stB X16 hx hZ e16 Ar18 (j := (7 : Int32)) hin18 (g := (mkF m 45 #[.val (.long q0), .second, .val (.int p1), .val (.int p2), .unset, .unset] [(.int (97 : Int32)), (.int (7 : Int32)), (.ref b2), (.ref b2)])) rfl rfl (hb hby d1_45)
  have V_b2_18 : Arv Z h18 b2 k2 .byte (8 : Int32) [(.int (nar .byte (60 : Int32))), (.int (nar .byte (124 : Int32))), (.int (nar .byte (61 : Int32))), (.int (nar .byte (62 : Int32))), (.int (nar .byte (32 : Int32))), (.int (nar .byte (10 : Int32))), (.int (nar .byte (13 : Int32))), (.int (nar .byte (97 : Int32)))] (.int (0 : Int32)) := Arv.set Ar18 q18 S18 M18 H18 G18 (fits_nar_byte _) W18 7 rfl (Nat.le_of_ble_eq_true rfl)
  have K18 : Keep h0 h18 [] := K16.wr W18 (Or.inr sz_b2)
  have N18 := Fr.snoc X18 N16 g_b2
  have Z18 : n0 ≤ h18.size := Nat.le_trans Z16 (Nat.le_of_eq W18.size.symm)
  have pre19 : ∀ t, Steps p.tables e below (T18.setTop (mkF m 55 #[.val (.long q0), .second, .val (.int p1), .val (.int p2), .val (.ref b2), .unset] [(.int (((q0.toUInt64 >>> (((8 : Int32) * p2) &&& 0x3f).toInt64.toUInt64).toInt64).toInt32))])) t → Steps p.tables e below (s₁.setTop (entryFrame m #[(.long q0), (.int p1), (.int p2)] 6)) t := fun t k => pre17 t (by
    show Steps p.tables e below (T16.setTop (mkF m 45 #[.val (.long q0), .second, .val (.int p1), .val (.int p2), .unset, .unset] [(.int (97 : Int32)), (.int (7 : Int32)), (.ref b2), (.ref b2)])) _
    refine st18 _ ?_
    show Steps p.tables e below (T18.setTop (mkF m 46 #[.val (.long q0), .second, .val (.int p1), .val (.int p2), .unset, .unset] [(.ref b2)])) _
    refine XS.astore X18.here hx rfl (hb hby d1_46) rfl rfl (l' := #[.val (.long q0), .second, .val (.int p1), .val (.int p2), .val (.ref b2), .unset]) rfl ?_
    show Steps p.tables e below (T18.setTop (mkF m 48 #[.val (.long q0), .second, .val (.int p1), .val (.int p2), .val (.ref b2), .unset] [])) _
    refine XS.lloadN X18.here hx rfl (hb hby d1_48) rfl ?_
    show Steps p.tables e below (T18.setTop (mkF m 49 #[.val (.long q0), .second, .val (.int p1), .val (.int p2), .val (.ref b2), .unset] [(.long q0)])) _
    refine XS.bipush X18.here hx rfl (hb hby d1_49) ?_
    show Steps p.tables e below (T18.setTop (mkF m 51 #[.val (.long q0), .second, .val (.int p1), .val (.int p2), .val (.ref b2), .unset] [(.int (8 : Int32)), (.long q0)])) _
    refine XS.iloadN X18.here hx rfl (hb hby d1_51) rfl ?_
    show Steps p.tables e below (T18.setTop (mkF m 52 #[.val (.long q0), .second, .val (.int p1), .val (.int p2), .val (.ref b2), .unset] [(.int p2), (.int (8 : Int32)), (.long q0)])) _
    refine XS.imul X18.here hx rfl (hb hby d1_52) rfl ?_
    show Steps p.tables e below (T18.setTop (mkF m 53 #[.val (.long q0), .second, .val (.int p1), .val (.int p2), .val (.ref b2), .unset] [(.int ((8 : Int32) * p2)), (.long q0)])) _
    refine XS.lushr X18.here hx rfl (hb hby d1_53) rfl ?_
    show Steps p.tables e below (T18.setTop (mkF m 54 #[.val (.long q0), .second, .val (.int p1), .val (.int p2), .val (.ref b2), .unset] [(.long ((q0.toUInt64 >>> (((8 : Int32) * p2) &&& 0x3f).toInt64.toUInt64).toInt64))])) _
    refine XS.l2i X18.here hx rfl (hb hby d1_54) rfl ?_
    exact k)
  obtain ⟨v20, hv20⟩ : ∃ z : Int32, z = (((q0.toUInt64 >>> (((8 : Int32) * p2) &&& 0x3f).toInt64.toUInt64).toInt64).toInt32) := ⟨_, rfl⟩
  have pre21 : ∀ t, Steps p.tables e below (T18.setTop (mkF m 55 #[.val (.long q0), .second, .val (.int p1), .val (.int p2), .val (.ref b2), .unset] [(.int v20)])) t → Steps p.tables e below (s₁.setTop (entryFrame m #[(.long q0), (.int p1), (.int p2)] 6)) t := fun t k => pre19 t (by rw [hv20] at k; exact k)
  have pre22 : ∀ t, Steps p.tables e below (T18.setTop (mkF m 62 #[.val (.long q0), .second, .val (.int p1), .val (.int p2), .val (.ref b2), .val (.int v20)] [(.int (((p1.toUInt32 >>> (p2 &&& 31).toUInt32).toInt32) &&& (1 : Int32)))])) t → Steps p.tables e below (s₁.setTop (entryFrame m #[(.long q0), (.int p1), (.int p2)] 6)) t := fun t k => pre21 t (by
    show Steps p.tables e below (T18.setTop (mkF m 55 #[.val (.long q0), .second, .val (.int p1), .val (.int p2), .val (.ref b2), .unset] [(.int v20)])) _
    refine XS.istore X18.here hx rfl (hb hby d1_55) rfl (l' := #[.val (.long q0), .second, .val (.int p1), .val (.int p2), .val (.ref b2), .val (.int v20)]) rfl ?_
    show Steps p.tables e below (T18.setTop (mkF m 57 #[.val (.long q0), .second, .val (.int p1), .val (.int p2), .val (.ref b2), .val (.int v20)] [])) _
    refine XS.iloadN X18.here hx rfl (hb hby d1_57) rfl ?_
    show Steps p.tables e below (T18.setTop (mkF m 58 #[.val (.long q0), .second, .val (.int p1), .val (.int p2), .val (.ref b2), .val (.int v20)] [(.int p1)])) _
    refine XS.iloadN X18.here hx rfl (hb hby d1_58) rfl ?_
    show Steps p.tables e below (T18.setTop (mkF m 59 #[.val (.long q0), .second, .val (.int p1), .val (.int p2), .val (.ref b2), .val (.int v20)] [(.int p2), (.int p1)])) _
    refine XS.iushr X18.here hx rfl (hb hby d1_59) rfl ?_
    show Steps p.tables e below (T18.setTop (mkF m 60 #[.val (.long q0), .second, .val (.int p1), .val (.int p2), .val (.ref b2), .val (.int v20)] [(.int ((p1.toUInt32 >>> (p2 &&& 31).toUInt32).toInt32))])) _
    refine XS.iconst X18.here hx rfl (hb hby d1_60) ?_
    show Steps p.tables e below (T18.setTop (mkF m 61 #[.val (.long q0), .second, .val (.int p1), .val (.int p2), .val (.ref b2), .val (.int v20)] [(.int (1 : Int32)), (.int ((p1.toUInt32 >>> (p2 &&& 31).toUInt32).toInt32))])) _
    refine XS.iand X18.here hx rfl (hb hby d1_61) rfl ?_
    exact k)
  by_cases hc23 : (((p1.toUInt32 >>> (p2 &&& 31).toUInt32).toInt32) &&& (1 : Int32)) = (0 : Int32)
  · have pre24 : ∀ t, Steps p.tables e below (T18.setTop (mkF m 72 #[.val (.long q0), .second, .val (.int p1), .val (.int p2), .val (.ref b2), .val (.int v20)] [(.int (v20 &&& (7 : Int32))), (.ref b2)])) t → Steps p.tables e below (s₁.setTop (entryFrame m #[(.long q0), (.int p1), (.int p2)] 6)) t := fun t k => pre22 t (by
      show Steps p.tables e below (T18.setTop (mkF m 62 #[.val (.long q0), .second, .val (.int p1), .val (.int p2), .val (.ref b2), .val (.int v20)] [(.int (((p1.toUInt32 >>> (p2 &&& 31).toUInt32).toInt32) &&& (1 : Int32)))])) _
      refine XS.ifNo X18.here hx rfl (hb hby d1_62) rfl ((if0 _ _).trans (teq hc23).2) ?_
      show Steps p.tables e below (T18.setTop (mkF m 65 #[.val (.long q0), .second, .val (.int p1), .val (.int p2), .val (.ref b2), .val (.int v20)] [])) _
      refine XS.aload X18.here hx rfl (hb hby d1_65) rfl rfl ?_
      show Steps p.tables e below (T18.setTop (mkF m 67 #[.val (.long q0), .second, .val (.int p1), .val (.int p2), .val (.ref b2), .val (.int v20)] [(.ref b2)])) _
      refine XS.iload X18.here hx rfl (hb hby d1_67) rfl ?_
      show Steps p.tables e below (T18.setTop (mkF m 69 #[.val (.long q0), .second, .val (.int p1), .val (.int p2), .val (.ref b2), .val (.int v20)] [(.int v20), (.ref b2)])) _
      refine XS.bipush X18.here hx rfl (hb hby d1_69) ?_
      show Steps p.tables e below (T18.setTop (mkF m 71 #[.val (.long q0), .second, .val (.int p1), .val (.int p2), .val (.ref b2), .val (.int v20)] [(.int (7 : Int32)), (.int v20), (.ref b2)])) _
      refine XS.iand X18.here hx rfl (hb hby d1_71) rfl ?_
      exact k)
    have kown_in1_72_1 : ¬ (v20 &&& (7 : Int32)) < 0 ∧ (v20 &&& (7 : Int32)) < (8 : Int32) := own_in1_72_1 q0 p1 p2 v20 hv20 hc23
    obtain ⟨cl25, Ar25, q25, S25, M25, H25, G25⟩ := id V_b2_18
    have hin25 : ¬ ((v20 &&& (7 : Int32)) < 0 ∨ cl25.slots.size ≤ ((v20 &&& (7 : Int32))).toNatClampNeg) := inb_of S25 kown_in1_72_1
    have hat25 : cl25.slots[((v20 &&& (7 : Int32))).toNatClampNeg]? = some (.int (own_get [(nar .byte (60 : Int32)), (nar .byte (124 : Int32)), (nar .byte (61 : Int32)), (nar .byte (62 : Int32)), (nar .byte (32 : Int32)), (nar .byte (10 : Int32)), (nar .byte (13 : Int32)), (nar .byte (97 : Int32))] (v20 &&& (7 : Int32)))) := H25.at hin25 (own_getD [(nar .byte (60 : Int32)), (nar .byte (124 : Int32)), (nar .byte (61 : Int32)), (nar .byte (62 : Int32)), (nar .byte (32 : Int32)), (nar .byte (10 : Int32)), (nar .byte (13 : Int32)), (nar .byte (97 : Int32))] (v20 &&& (7 : Int32)))
    obtain ⟨fs, hr, hrun, hended, hW, hsame⟩ := X18.leave (v := some (.int (nar .byte (own_get [(nar .byte (60 : Int32)), (nar .byte (124 : Int32)), (nar .byte (61 : Int32)), (nar .byte (62 : Int32)), (nar .byte (32 : Int32)), (nar .byte (10 : Int32)), (nar .byte (13 : Int32)), (nar .byte (97 : Int32))] (v20 &&& (7 : Int32)))))) (fun h => by rw [Bd.returns] at h; cases h)
    refine ⟨_, _, pre24 _ ?_, hrun, hended, _, _, rfl, ?_, ⟨_, rfl⟩, hW, hsame.mono (by decide) (by decide)⟩
    · show Steps p.tables e below (T18.setTop (mkF m 72 #[.val (.long q0), .second, .val (.int p1), .val (.int p2), .val (.ref b2), .val (.int v20)] [(.int (v20 &&& (7 : Int32))), (.ref b2)])) _
      refine X18.baloadBytes hx (j := (v20 &&& (7 : Int32))) (v := (.int (own_get [(nar .byte (60 : Int32)), (nar .byte (124 : Int32)), (nar .byte (61 : Int32)), (nar .byte (62 : Int32)), (nar .byte (32 : Int32)), (nar .byte (10 : Int32)), (nar .byte (13 : Int32)), (nar .byte (97 : Int32))] (v20 &&& (7 : Int32))))) (by rw [e18]; exact Ar25.1) (State.isArrayOf_alike hZ.alike Ar25.2.1) Ar25.2.2 hin25 hat25 (g := (mkF m 72 #[.val (.long q0), .second, .val (.int p1), .val (.int p2), .val (.ref b2), .val (.int v20)] [(.int (v20 &&& (7 : Int32))), (.ref b2)])) rfl rfl (hb hby d1_72) _ ?_
      show Steps p.tables e below (T18.setTop (mkF m 73 #[.val (.long q0), .second, .val (.int p1), .val (.int p2), .val (.ref b2), .val (.int v20)] [(.int (own_get [(nar .byte (60 : Int32)), (nar .byte (124 : Int32)), (nar .byte (61 : Int32)), (nar .byte (62 : Int32)), (nar .byte (32 : Int32)), (nar .byte (10 : Int32)), (nar .byte (13 : Int32)), (nar .byte (97 : Int32))] (v20 &&& (7 : Int32))))])) _
      exact retN X18 hx (t := .byte) Bd.returns (by simp) (hb hby d1_73) hr
    · show Q1 Z q0 p1 p2 h0 n0 _ T18.heap _
      rw [e18]
      exact ⟨congrArg (fun z => some (Value.int z)) (by subst hv20; simp only [f1, if_pos hc23]), N18, K18⟩
  · obtain ⟨fs, hr, hrun, hended, hW, hsame⟩ := X18.leave (v := some (.int (nar .byte (v20.toInt8.toInt32)))) (fun h => by rw [Bd.returns] at h; cases h)
    refine ⟨_, _, pre22 _ ?_, hrun, hended, _, _, rfl, ?_, ⟨_, rfl⟩, hW, hsame.mono (by decide) (by decide)⟩
    · show Steps p.tables e below (T18.setTop (mkF m 62 #[.val (.long q0), .second, .val (.int p1), .val (.int p2), .val (.ref b2), .val (.int v20)] [(.int (((p1.toUInt32 >>> (p2 &&& 31).toUInt32).toInt32) &&& (1 : Int32)))])) _
      refine XS.ifYes X18.here hx rfl (pc0 := 62) (pc' := 74) rfl (hb hby d1_62) rfl ((if0 _ _).trans (feq hc23).2) (by decide) (by decide) ?_
      show Steps p.tables e below (T18.setTop (mkF m 74 #[.val (.long q0), .second, .val (.int p1), .val (.int p2), .val (.ref b2), .val (.int v20)] [])) _
      refine XS.iload X18.here hx rfl (hb hby d1_74) rfl ?_
      show Steps p.tables e below (T18.setTop (mkF m 76 #[.val (.long q0), .second, .val (.int p1), .val (.int p2), .val (.ref b2), .val (.int v20)] [(.int v20)])) _
      refine XS.i2b X18.here hx rfl (hb hby d1_76) rfl ?_
      show Steps p.tables e below (T18.setTop (mkF m 77 #[.val (.long q0), .second, .val (.int p1), .val (.int p2), .val (.ref b2), .val (.int v20)] [(.int (v20.toInt8.toInt32))])) _
      exact retN X18 hx (t := .byte) Bd.returns (by simp) (hb hby d1_77) hr
    · show Q1 Z q0 p1 p2 h0 n0 _ T18.heap _
      rw [e18]
      exact ⟨congrArg (fun z => some (Value.int z)) (by subst hv20; simp only [f1, if_neg hc23]), N18, K18⟩
theorem pn_0 : plainName "com/example/tercet/tercet/ConflictMarkers" = true := by first | (simp [plainName, overriddenIn]; done) | decide +kernel
theorem d2_0 : decode prog_23_method_6_code 0 = .ok (.iload_n 1, 1) := by decide +kernel
theorem d2_1 : decode prog_23_method_6_code 1 = .ok (.iload_n 2, 1) := by decide +kernel
theorem d2_2 : decode prog_23_method_6_code 2 = .ok (.if_icmp .ne 5, 3) := by decide +kernel
theorem d2_5 : decode prog_23_method_6_code 5 = .ok (.iconst 0, 1) := by decide +kernel
theorem d2_7 : decode prog_23_method_6_code 7 = .ok (.aload_n 0, 1) := by decide +kernel
theorem d2_8 : decode prog_23_method_6_code 8 = .ok (.iload_n 1, 1) := by decide +kernel
theorem d2_9 : decode prog_23_method_6_code 9 = .ok (.baload, 1) := by decide +kernel
theorem d2_10 : decode prog_23_method_6_code 10 = .ok (.istore_n 3, 1) := by decide +kernel
theorem d2_11 : decode prog_23_method_6_code 11 = .ok (.iload_n 3, 1) := by decide +kernel
theorem d2_12 : decode prog_23_method_6_code 12 = .ok (.bipush 60, 2) := by decide +kernel
theorem d2_14 : decode prog_23_method_6_code 14 = .ok (.if_icmp .eq 23, 3) := by decide +kernel
theorem d2_17 : decode prog_23_method_6_code 17 = .ok (.iload_n 3, 1) := by decide +kernel
theorem d2_18 : decode prog_23_method_6_code 18 = .ok (.bipush 124, 2) := by decide +kernel
theorem d2_20 : decode prog_23_method_6_code 20 = .ok (.if_icmp .eq 17, 3) := by decide +kernel
theorem d2_23 : decode prog_23_method_6_code 23 = .ok (.iload_n 3, 1) := by decide +kernel
theorem d2_24 : decode prog_23_method_6_code 24 = .ok (.bipush 61, 2) := by decide +kernel
theorem d2_26 : decode prog_23_method_6_code 26 = .ok (.if_icmp .eq 11, 3) := by decide +kernel
theorem d2_29 : decode prog_23_method_6_code 29 = .ok (.iload_n 3, 1) := by decide +kernel
theorem d2_30 : decode prog_23_method_6_code 30 = .ok (.bipush 62, 2) := by decide +kernel
theorem d2_32 : decode prog_23_method_6_code 32 = .ok (.if_icmp .eq 5, 3) := by decide +kernel
theorem d2_35 : decode prog_23_method_6_code 35 = .ok (.iconst 0, 1) := by decide +kernel
theorem d2_37 : decode prog_23_method_6_code 37 = .ok (.iload_n 1, 1) := by decide +kernel
theorem d2_38 : decode prog_23_method_6_code 38 = .ok (.istore 4, 2) := by decide +kernel
theorem d2_40 : decode prog_23_method_6_code 40 = .ok (.iload 4, 2) := by decide +kernel
theorem d2_42 : decode prog_23_method_6_code 42 = .ok (.iload_n 2, 1) := by decide +kernel
theorem d2_43 : decode prog_23_method_6_code 43 = .ok (.if_icmp .ge 17, 3) := by decide +kernel
theorem d2_46 : decode prog_23_method_6_code 46 = .ok (.aload_n 0, 1) := by decide +kernel
theorem d2_47 : decode prog_23_method_6_code 47 = .ok (.iload 4, 2) := by decide +kernel
theorem d2_49 : decode prog_23_method_6_code 49 = .ok (.baload, 1) := by decide +kernel
theorem d2_50 : decode prog_23_method_6_code 50 = .ok (.iload_n 3, 1) := by decide +kernel
theorem d2_51 : decode prog_23_method_6_code 51 = .ok (.if_icmp .ne 9, 3) := by decide +kernel
theorem d2_54 : decode prog_23_method_6_code 54 = .ok (.iinc 4 1, 3) := by decide +kernel
theorem d2_57 : decode prog_23_method_6_code 57 = .ok (.goto (-17), 3) := by decide +kernel
theorem d2_60 : decode prog_23_method_6_code 60 = .ok (.iload 4, 2) := by decide +kernel
theorem d2_62 : decode prog_23_method_6_code 62 = .ok (.iload_n 2, 1) := by decide +kernel
theorem d2_63 : decode prog_23_method_6_code 63 = .ok (.if_icmp .eq 49, 3) := by decide +kernel
theorem d2_112 : decode prog_23_method_6_code 112 = .ok (.iconst 1, 1) := by decide +kernel
theorem d2_113 : decode prog_23_method_6_code 113 = .ok (.goto 4, 3) := by decide +kernel
theorem d2_66 : decode prog_23_method_6_code 66 = .ok (.aload_n 0, 1) := by decide +kernel
theorem d2_67 : decode prog_23_method_6_code 67 = .ok (.iload 4, 2) := by decide +kernel
theorem d2_69 : decode prog_23_method_6_code 69 = .ok (.baload, 1) := by decide +kernel
theorem d2_70 : decode prog_23_method_6_code 70 = .ok (.bipush 32, 2) := by decide +kernel
theorem d2_72 : decode prog_23_method_6_code 72 = .ok (.if_icmp .eq 40, 3) := by decide +kernel
theorem d2_75 : decode prog_23_method_6_code 75 = .ok (.aload_n 0, 1) := by decide +kernel
theorem d2_76 : decode prog_23_method_6_code 76 = .ok (.iload 4, 2) := by decide +kernel
theorem d2_78 : decode prog_23_method_6_code 78 = .ok (.baload, 1) := by decide +kernel
theorem d2_79 : decode prog_23_method_6_code 79 = .ok (.bipush 10, 2) := by decide +kernel
theorem d2_81 : decode prog_23_method_6_code 81 = .ok (.if_icmp .eq 31, 3) := by decide +kernel
theorem d2_84 : decode prog_23_method_6_code 84 = .ok (.aload_n 0, 1) := by decide +kernel
theorem d2_85 : decode prog_23_method_6_code 85 = .ok (.iload 4, 2) := by decide +kernel
theorem d2_87 : decode prog_23_method_6_code 87 = .ok (.baload, 1) := by decide +kernel
theorem d2_88 : decode prog_23_method_6_code 88 = .ok (.bipush 13, 2) := by decide +kernel
theorem d2_90 : decode prog_23_method_6_code 90 = .ok (.if_icmp .ne 26, 3) := by decide +kernel
theorem d2_93 : decode prog_23_method_6_code 93 = .ok (.iload 4, 2) := by decide +kernel
theorem d2_95 : decode prog_23_method_6_code 95 = .ok (.iconst 2, 1) := by decide +kernel
theorem d2_96 : decode prog_23_method_6_code 96 = .ok (.iadd, 1) := by decide +kernel
theorem d2_97 : decode prog_23_method_6_code 97 = .ok (.iload_n 2, 1) := by decide +kernel
theorem d2_98 : decode prog_23_method_6_code 98 = .ok (.if_icmp .ne 18, 3) := by decide +kernel
theorem d2_101 : decode prog_23_method_6_code 101 = .ok (.aload_n 0, 1) := by decide +kernel
theorem d2_102 : decode prog_23_method_6_code 102 = .ok (.iload 4, 2) := by decide +kernel
theorem d2_104 : decode prog_23_method_6_code 104 = .ok (.iconst 1, 1) := by decide +kernel
theorem d2_105 : decode prog_23_method_6_code 105 = .ok (.iadd, 1) := by decide +kernel
theorem d2_106 : decode prog_23_method_6_code 106 = .ok (.baload, 1) := by decide +kernel
theorem d2_107 : decode prog_23_method_6_code 107 = .ok (.bipush 10, 2) := by decide +kernel
theorem d2_109 : decode prog_23_method_6_code 109 = .ok (.if_icmp .ne 7, 3) := by decide +kernel
theorem d2_116 : decode prog_23_method_6_code 116 = .ok (.iconst 0, 1) := by decide +kernel
theorem d2_117 : decode prog_23_method_6_code 117 = .ok (.istore 5, 2) := by decide +kernel
theorem d2_119 : decode prog_23_method_6_code 119 = .ok (.iload 5, 2) := by decide +kernel
theorem d2_121 : decode prog_23_method_6_code 121 = .ok (.ifCond .eq 10, 3) := by decide +kernel
theorem d2_131 : decode prog_23_method_6_code 131 = .ok (.iconst 0, 1) := by decide +kernel
theorem d2_124 : decode prog_23_method_6_code 124 = .ok (.iload 4, 2) := by decide +kernel
theorem d2_126 : decode prog_23_method_6_code 126 = .ok (.iload_n 1, 1) := by decide +kernel
theorem d2_127 : decode prog_23_method_6_code 127 = .ok (.isub, 1) := by decide +kernel
theorem d2_128 : decode prog_23_method_6_code 128 = .ok (.goto 4, 3) := by decide +kernel
theorem ef_2 (m : MethodId) (x0 : Addr) (x1 : Int32) (x2 : Int32) : entryFrame m #[(.ref x0), (.int x1), (.int x2)] 6 = mkF m 0 #[.val (.ref x0), .val (.int x1), .val (.int x2), .unset, .unset, .unset] [] := by first | (simp [entryFrame, mkF, argsToLocals, Value.category]; done) | rfl
def f2 (p1 : Int32) (p2 : Int32) (vs_a0 : List Int32) : Int32 := (if p1 = p2 then (0 : Int32) else (let v6 : Int32 := (own_get vs_a0 p1); (if v6 = (60 : Int32) ∨ v6 = (124 : Int32) ∨ v6 = (61 : Int32) ∨ v6 = (62 : Int32) then (let j63 : Int32 := (if p1 < p2 then (if (own_get vs_a0 p1) = v6 then (if (p1 + (1 : Int32)) < p2 then (if (own_get vs_a0 (p1 + (1 : Int32))) = v6 then (if ((p1 + (1 : Int32)) + (1 : Int32)) < p2 then (if (own_get vs_a0 ((p1 + (1 : Int32)) + (1 : Int32))) = v6 then (if (((p1 + (1 : Int32)) + (1 : Int32)) + (1 : Int32)) < p2 then (if (own_get vs_a0 (((p1 + (1 : Int32)) + (1 : Int32)) + (1 : Int32))) = v6 then (if ((((p1 + (1 : Int32)) + (1 : Int32)) + (1 : Int32)) + (1 : Int32)) < p2 then (if (own_get vs_a0 ((((p1 + (1 : Int32)) + (1 : Int32)) + (1 : Int32)) + (1 : Int32))) = v6 then (if (((((p1 + (1 : Int32)) + (1 : Int32)) + (1 : Int32)) + (1 : Int32)) + (1 : Int32)) < p2 then (if (own_get vs_a0 (((((p1 + (1 : Int32)) + (1 : Int32)) + (1 : Int32)) + (1 : Int32)) + (1 : Int32))) = v6 then ((((((p1 + (1 : Int32)) + (1 : Int32)) + (1 : Int32)) + (1 : Int32)) + (1 : Int32)) + (1 : Int32)) else (((((p1 + (1 : Int32)) + (1 : Int32)) + (1 : Int32)) + (1 : Int32)) + (1 : Int32))) else (((((p1 + (1 : Int32)) + (1 : Int32)) + (1 : Int32)) + (1 : Int32)) + (1 : Int32))) else ((((p1 + (1 : Int32)) + (1 : Int32)) + (1 : Int32)) + (1 : Int32))) else ((((p1 + (1 : Int32)) + (1 : Int32)) + (1 : Int32)) + (1 : Int32))) else (((p1 + (1 : Int32)) + (1 : Int32)) + (1 : Int32))) else (((p1 + (1 : Int32)) + (1 : Int32)) + (1 : Int32))) else ((p1 + (1 : Int32)) + (1 : Int32))) else ((p1 + (1 : Int32)) + (1 : Int32))) else (p1 + (1 : Int32))) else (p1 + (1 : Int32))) else p1) else p1); (let j85 : Int32 := (if j63 = p2 then (1 : Int32) else (if (own_get vs_a0 j63) = (32 : Int32) then (1 : Int32) else (if (own_get vs_a0 j63) = (10 : Int32) then (1 : Int32) else (if (own_get vs_a0 j63) = (13 : Int32) then (if (j63 + (2 : Int32)) = p2 then (if (own_get vs_a0 (j63 + (1 : Int32))) = (10 : Int32) then (1 : Int32) else (0 : Int32)) else (0 : Int32)) else (0 : Int32))))); (let j89 : Int32 := (if j85 = (0 : Int32) then (0 : Int32) else (j63 - p1)); j89))) else (if v6 = (60 : Int32) then (0 : Int32) else (if v6 = (124 : Int32) then (0 : Int32) else (if v6 = (61 : Int32) then (0 : Int32) else (if v6 = (62 : Int32) then (0 : Int32) else (0 : Int32))))))))
def Q2 (Z : State) (a0 : Addr) (p1 : Int32) (p2 : Int32) (ka_a0 : ClassId) (vs_a0 : List Int32) (h0 : Heap) (n0 : Nat) (v : Option Value) (h : Heap) (L : List Loc) : Prop := v = some (.int (f2 p1 p2 vs_a0)) ∧ Fr n0 L ∧ h = h0
theorem d2_6 : decode prog_23_method_6_code 6 = .ok (.ireturn, 1) := by decide +kernel
theorem d2_132 : decode prog_23_method_6_code 132 = .ok (.ireturn, 1) := by decide +kernel
theorem d2_36 : decode prog_23_method_6_code 36 = .ok (.ireturn, 1) := by decide +kernel
theorem own_in2_9_1 (p1 : Int32) (p2 : Int32) (vs_a0 : List Int32) (hr : 0 ≤ (p1 : Int32).toInt ∧ p1.toInt ≤ p2.toInt ∧ p2.toInt ≤ 6) (hc2 : ¬ (p1 = p2)) : ¬ p1 < 0 ∧ p1 < (6 : Int32) := by
  obtain ⟨r1, r2, r3⟩ := hr
  have k0 : (0 : Int32).toInt = 0 := by decide
  have k6 : (6 : Int32).toInt = 6 := by decide
  have n : ¬ p1.toInt = p2.toInt := fun z => by
    have e := Int32.toInt_inj.mp z
    simp_all
  rw [Int32.lt_iff_toInt_lt, Int32.lt_iff_toInt_lt, k0, k6]
  omega
theorem own_in2_49_1 (p1 : Int32) (p2 : Int32) (vs_a0 : List Int32) (hr : 0 ≤ (p1 : Int32).toInt ∧ p1.toInt ≤ p2.toInt ∧ p2.toInt ≤ 6) (v6 : Int32) (hv6 : v6 = (own_get vs_a0 p1)) (hc2 : ¬ (p1 = p2)) (hg9 : v6 = (60 : Int32) ∨ v6 = (124 : Int32) ∨ v6 = (61 : Int32) ∨ v6 = (62 : Int32)) (hc28 : p1 < p2) : ¬ p1 < 0 ∧ p1 < (6 : Int32) := by
  obtain ⟨r1, r2, r3⟩ := hr
  obtain ⟨a, ha⟩ : ∃ a : Int, p1.toInt = a := ⟨_, rfl⟩
  obtain ⟨b, hb⟩ : ∃ b : Int, p2.toInt = b := ⟨_, rfl⟩
  rw [ha] at r1 r2
  rw [hb] at r2 r3
  have q1 : -2147483648 ≤ a + 1 ∧ a + 1 < 2147483648 := by omega
  have q2 : -2147483648 ≤ a + 1 + 1 ∧ a + 1 + 1 < 2147483648 := by omega
  have q3 : -2147483648 ≤ a + 1 + 1 + 1 ∧ a + 1 + 1 + 1 < 2147483648 := by omega
  have q4 : -2147483648 ≤ a + 1 + 1 + 1 + 1 ∧ a + 1 + 1 + 1 + 1 < 2147483648 := by omega
  have q5 : -2147483648 ≤ a + 1 + 1 + 1 + 1 + 1 ∧ a + 1 + 1 + 1 + 1 + 1 < 2147483648 := by omega
  have q6 : -2147483648 ≤ a + 1 + 1 + 1 + 1 + 1 + 1 ∧ a + 1 + 1 + 1 + 1 + 1 + 1 < 2147483648 := by omega
  have a1 := own_addk p1 1 1 (by decide) ha q1.1 q1.2
  have a2 := own_addk (p1 + 1) 1 1 (by decide) a1 q2.1 q2.2
  have a3 := own_addk (p1 + 1 + 1) 1 1 (by decide) a2 q3.1 q3.2
  have a4 := own_addk (p1 + 1 + 1 + 1) 1 1 (by decide) a3 q4.1 q4.2
  have a5 := own_addk (p1 + 1 + 1 + 1 + 1) 1 1 (by decide) a4 q5.1 q5.2
  have a6 := own_addk (p1 + 1 + 1 + 1 + 1 + 1) 1 1 (by decide) a5 q6.1 q6.2
  have k6 : (6 : Int32).toInt = 6 := by decide
  have k0 : (0 : Int32).toInt = 0 := by decide
  simp only [Int32.lt_iff_toInt_lt, ha, hb, a1, a2, a3, a4, a5, a6, k6, k0] at *
  omega
theorem own_in2_49_2 (p1 : Int32) (p2 : Int32) (vs_a0 : List Int32) (hr : 0 ≤ (p1 : Int32).toInt ∧ p1.toInt ≤ p2.toInt ∧ p2.toInt ≤ 6) (v6 : Int32) (hv6 : v6 = (own_get vs_a0 p1)) (hc2 : ¬ (p1 = p2)) (hg9 : v6 = (60 : Int32) ∨ v6 = (124 : Int32) ∨ v6 = (61 : Int32) ∨ v6 = (62 : Int32)) (hc28 : p1 < p2) (hc32 : (own_get vs_a0 p1) = v6) (hc34 : (p1 + (1 : Int32)) < p2) : ¬ (p1 + (1 : Int32)) < 0 ∧ (p1 + (1 : Int32)) < (6 : Int32) := by
  obtain ⟨r1, r2, r3⟩ := hr
  obtain ⟨a, ha⟩ : ∃ a : Int, p1.toInt = a := ⟨_, rfl⟩
  obtain ⟨b, hb⟩ : ∃ b : Int, p2.toInt = b := ⟨_, rfl⟩
  rw [ha] at r1 r2
  rw [hb] at r2 r3
  have q1 : -2147483648 ≤ a + 1 ∧ a + 1 < 2147483648 := by omega
  have q2 : -2147483648 ≤ a + 1 + 1 ∧ a + 1 + 1 < 2147483648 := by omega
  have q3 : -2147483648 ≤ a + 1 + 1 + 1 ∧ a + 1 + 1 + 1 < 2147483648 := by omega
  have q4 : -2147483648 ≤ a + 1 + 1 + 1 + 1 ∧ a + 1 + 1 + 1 + 1 < 2147483648 := by omega
  have q5 : -2147483648 ≤ a + 1 + 1 + 1 + 1 + 1 ∧ a + 1 + 1 + 1 + 1 + 1 < 2147483648 := by omega
  have q6 : -2147483648 ≤ a + 1 + 1 + 1 + 1 + 1 + 1 ∧ a + 1 + 1 + 1 + 1 + 1 + 1 < 2147483648 := by omega
  have a1 := own_addk p1 1 1 (by decide) ha q1.1 q1.2
  have a2 := own_addk (p1 + 1) 1 1 (by decide) a1 q2.1 q2.2
  have a3 := own_addk (p1 + 1 + 1) 1 1 (by decide) a2 q3.1 q3.2
  have a4 := own_addk (p1 + 1 + 1 + 1) 1 1 (by decide) a3 q4.1 q4.2
  have a5 := own_addk (p1 + 1 + 1 + 1 + 1) 1 1 (by decide) a4 q5.1 q5.2
  have a6 := own_addk (p1 + 1 + 1 + 1 + 1 + 1) 1 1 (by decide) a5 q6.1 q6.2
  have k6 : (6 : Int32).toInt = 6 := by decide
  have k0 : (0 : Int32).toInt = 0 := by decide
  simp only [Int32.lt_iff_toInt_lt, ha, hb, a1, a2, a3, a4, a5, a6, k6, k0] at *
  omega
theorem own_in2_49_3 (p1 : Int32) (p2 : Int32) (vs_a0 : List Int32) (hr : 0 ≤ (p1 : Int32).toInt ∧ p1.toInt ≤ p2.toInt ∧ p2.toInt ≤ 6) (v6 : Int32) (hv6 : v6 = (own_get vs_a0 p1)) (hc2 : ¬ (p1 = p2)) (hg9 : v6 = (60 : Int32) ∨ v6 = (124 : Int32) ∨ v6 = (61 : Int32) ∨ v6 = (62 : Int32)) (hc28 : p1 < p2) (hc32 : (own_get vs_a0 p1) = v6) (hc34 : (p1 + (1 : Int32)) < p2) (hc38 : (own_get vs_a0 (p1 + (1 : Int32))) = v6) (hc40 : ((p1 + (1 : Int32)) + (1 : Int32)) < p2) : ¬ ((p1 + (1 : Int32)) + (1 : Int32)) < 0 ∧ ((p1 + (1 : Int32)) + (1 : Int32)) < (6 : Int32) := by
  obtain ⟨r1, r2, r3⟩ := hr
  obtain ⟨a, ha⟩ : ∃ a : Int, p1.toInt = a := ⟨_, rfl⟩
  obtain ⟨b, hb⟩ : ∃ b : Int, p2.toInt = b := ⟨_, rfl⟩
  rw [ha] at r1 r2
  rw [hb] at r2 r3
  have q1 : -2147483648 ≤ a + 1 ∧ a + 1 < 2147483648 := by omega
  have q2 : -2147483648 ≤ a + 1 + 1 ∧ a + 1 + 1 < 2147483648 := by omega
  have q3 : -2147483648 ≤ a + 1 + 1 + 1 ∧ a + 1 + 1 + 1 < 2147483648 := by omega
  have q4 : -2147483648 ≤ a + 1 + 1 + 1 + 1 ∧ a + 1 + 1 + 1 + 1 < 2147483648 := by omega
  have q5 : -2147483648 ≤ a + 1 + 1 + 1 + 1 + 1 ∧ a + 1 + 1 + 1 + 1 + 1 < 2147483648 := by omega
  have q6 : -2147483648 ≤ a + 1 + 1 + 1 + 1 + 1 + 1 ∧ a + 1 + 1 + 1 + 1 + 1 + 1 < 2147483648 := by omega
  have a1 := own_addk p1 1 1 (by decide) ha q1.1 q1.2
  have a2 := own_addk (p1 + 1) 1 1 (by decide) a1 q2.1 q2.2
  have a3 := own_addk (p1 + 1 + 1) 1 1 (by decide) a2 q3.1 q3.2
  have a4 := own_addk (p1 + 1 + 1 + 1) 1 1 (by decide) a3 q4.1 q4.2
  have a5 := own_addk (p1 + 1 + 1 + 1 + 1) 1 1 (by decide) a4 q5.1 q5.2
  have a6 := own_addk (p1 + 1 + 1 + 1 + 1 + 1) 1 1 (by decide) a5 q6.1 q6.2
  have k6 : (6 : Int32).toInt = 6 := by decide
  have k0 : (0 : Int32).toInt = 0 := by decide
  simp only [Int32.lt_iff_toInt_lt, ha, hb, a1, a2, a3, a4, a5, a6, k6, k0] at *
  omega
theorem own_in2_49_4 (p1 : Int32) (p2 : Int32) (vs_a0 : List Int32) (hr : 0 ≤ (p1 : Int32).toInt ∧ p1.toInt ≤ p2.toInt ∧ p2.toInt ≤ 6) (v6 : Int32) (hv6 : v6 = (own_get vs_a0 p1)) (hc2 : ¬ (p1 = p2)) (hg9 : v6 = (60 : Int32) ∨ v6 = (124 : Int32) ∨ v6 = (61 : Int32) ∨ v6 = (62 : Int32)) (hc28 : p1 < p2) (hc32 : (own_get vs_a0 p1) = v6) (hc34 : (p1 + (1 : Int32)) < p2) (hc38 : (own_get vs_a0 (p1 + (1 : Int32))) = v6) (hc40 : ((p1 + (1 : Int32)) + (1 : Int32)) < p2) (hc44 : (own_get vs_a0 ((p1 + (1 : Int32)) + (1 : Int32))) = v6) (hc46 : (((p1 + (1 : Int32)) + (1 : Int32)) + (1 : Int32)) < p2) : ¬ (((p1 + (1 : Int32)) + (1 : Int32)) + (1 : Int32)) < 0 ∧ (((p1 + (1 : Int32)) + (1 : Int32)) + (1 : Int32)) < (6 : Int32) := by
  obtain ⟨r1, r2, r3⟩ := hr
  obtain ⟨a, ha⟩ : ∃ a : Int, p1.toInt = a := ⟨_, rfl⟩
  obtain ⟨b, hb⟩ : ∃ b : Int, p2.toInt = b := ⟨_, rfl⟩
  rw [ha] at r1 r2
  rw [hb] at r2 r3
  have q1 : -2147483648 ≤ a + 1 ∧ a + 1 < 2147483648 := by omega
  have q2 : -2147483648 ≤ a + 1 + 1 ∧ a + 1 + 1 < 2147483648 := by omega
  have q3 : -2147483648 ≤ a + 1 + 1 + 1 ∧ a + 1 + 1 + 1 < 2147483648 := by omega
  have q4 : -2147483648 ≤ a + 1 + 1 + 1 + 1 ∧ a + 1 + 1 + 1 + 1 < 2147483648 := by omega
  have q5 : -2147483648 ≤ a + 1 + 1 + 1 + 1 + 1 ∧ a + 1 + 1 + 1 + 1 + 1 < 2147483648 := by omega
  have q6 : -2147483648 ≤ a + 1 + 1 + 1 + 1 + 1 + 1 ∧ a + 1 + 1 + 1 + 1 + 1 + 1 < 2147483648 := by omega
  have a1 := own_addk p1 1 1 (by decide) ha q1.1 q1.2
  have a2 := own_addk (p1 + 1) 1 1 (by decide) a1 q2.1 q2.2
  have a3 := own_addk (p1 + 1 + 1) 1 1 (by decide) a2 q3.1 q3.2
  have a4 := own_addk (p1 + 1 + 1 + 1) 1 1 (by decide) a3 q4.1 q4.2
  have a5 := own_addk (p1 + 1 + 1 + 1 + 1) 1 1 (by decide) a4 q5.1 q5.2
  have a6 := own_addk (p1 + 1 + 1 + 1 + 1 + 1) 1 1 (by decide) a5 q6.1 q6.2
  have k6 : (6 : Int32).toInt = 6 := by decide
  have k0 : (0 : Int32).toInt = 0 := by decide
  simp only [Int32.lt_iff_toInt_lt, ha, hb, a1, a2, a3, a4, a5, a6, k6, k0] at *
  omega
theorem own_in2_49_5 (p1 : Int32) (p2 : Int32) (vs_a0 : List Int32) (hr : 0 ≤ (p1 : Int32).toInt ∧ p1.toInt ≤ p2.toInt ∧ p2.toInt ≤ 6) (v6 : Int32) (hv6 : v6 = (own_get vs_a0 p1)) (hc2 : ¬ (p1 = p2)) (hg9 : v6 = (60 : Int32) ∨ v6 = (124 : Int32) ∨ v6 = (61 : Int32) ∨ v6 = (62 : Int32)) (hc28 : p1 < p2) (hc32 : (own_get vs_a0 p1) = v6) (hc34 : (p1 + (1 : Int32)) < p2) (hc38 : (own_get vs_a0 (p1 + (1 : Int32))) = v6) (hc40 : ((p1 + (1 : Int32)) + (1 : Int32)) < p2) (hc44 : (own_get vs_a0 ((p1 + (1 : Int32)) + (1 : Int32))) = v6) (hc46 : (((p1 + (1 : Int32)) + (1 : Int32)) + (1 : Int32)) < p2) (hc50 : (own_get vs_a0 (((p1 + (1 : Int32)) + (1 : Int32)) + (1 : Int32))) = v6) (hc52 : ((((p1 + (1 : Int32)) + (1 : Int32)) + (1 : Int32)) + (1 : Int32)) < p2) : ¬ ((((p1 + (1 : Int32)) + (1 : Int32)) + (1 : Int32)) + (1 : Int32)) < 0 ∧ ((((p1 + (1 : Int32)) + (1 : Int32)) + (1 : Int32)) + (1 : Int32)) < (6 : Int32) := by
  obtain ⟨r1, r2, r3⟩ := hr
  obtain ⟨a, ha⟩ : ∃ a : Int, p1.toInt = a := ⟨_, rfl⟩
  obtain ⟨b, hb⟩ : ∃ b : Int, p2.toInt = b := ⟨_, rfl⟩
  rw [ha] at r1 r2
  rw [hb] at r2 r3
  have q1 : -2147483648 ≤ a + 1 ∧ a + 1 < 2147483648 := by omega
  have q2 : -2147483648 ≤ a + 1 + 1 ∧ a + 1 + 1 < 2147483648 := by omega
  have q3 : -2147483648 ≤ a + 1 + 1 + 1 ∧ a + 1 + 1 + 1 < 2147483648 := by omega
  have q4 : -2147483648 ≤ a + 1 + 1 + 1 + 1 ∧ a + 1 + 1 + 1 + 1 < 2147483648 := by omega
  have q5 : -2147483648 ≤ a + 1 + 1 + 1 + 1 + 1 ∧ a + 1 + 1 + 1 + 1 + 1 < 2147483648 := by omega
  have q6 : -2147483648 ≤ a + 1 + 1 + 1 + 1 + 1 + 1 ∧ a + 1 + 1 + 1 + 1 + 1 + 1 < 2147483648 := by omega
  have a1 := own_addk p1 1 1 (by decide) ha q1.1 q1.2
  have a2 := own_addk (p1 + 1) 1 1 (by decide) a1 q2.1 q2.2
  have a3 := own_addk (p1 + 1 + 1) 1 1 (by decide) a2 q3.1 q3.2
  have a4 := own_addk (p1 + 1 + 1 + 1) 1 1 (by decide) a3 q4.1 q4.2
  have a5 := own_addk (p1 + 1 + 1 + 1 + 1) 1 1 (by decide) a4 q5.1 q5.2
  have a6 := own_addk (p1 + 1 + 1 + 1 + 1 + 1) 1 1 (by decide) a5 q6.1 q6.2
  have k6 : (6 : Int32).toInt = 6 := by decide
  have k0 : (0 : Int32).toInt = 0 := by decide
  simp only [Int32.lt_iff_toInt_lt, ha, hb, a1, a2, a3, a4, a5, a6, k6, k0] at *
  omega
theorem own_in2_49_6 (p1 : Int32) (p2 : Int32) (vs_a0 : List Int32) (hr : 0 ≤ (p1 : Int32).toInt ∧ p1.toInt ≤ p2.toInt ∧ p2.toInt ≤ 6) (v6 : Int32) (hv6 : v6 = (own_get vs_a0 p1)) (hc2 : ¬ (p1 = p2)) (hg9 : v6 = (60 : Int32) ∨ v6 = (124 : Int32) ∨ v6 = (61 : Int32) ∨ v6 = (62 : Int32)) (hc28 : p1 < p2) (hc32 : (own_get vs_a0 p1) = v6) (hc34 : (p1 + (1 : Int32)) < p2) (hc38 : (own_get vs_a0 (p1 + (1 : Int32))) = v6) (hc40 : ((p1 + (1 : Int32)) + (1 : Int32)) < p2) (hc44 : (own_get vs_a0 ((p1 + (1 : Int32)) + (1 : Int32))) = v6) (hc46 : (((p1 + (1 : Int32)) + (1 : Int32)) + (1 : Int32)) < p2) (hc50 : (own_get vs_a0 (((p1 + (1 : Int32)) + (1 : Int32)) + (1 : Int32))) = v6) (hc52 : ((((p1 + (1 : Int32)) + (1 : Int32)) + (1 : Int32)) + (1 : Int32)) < p2) (hc56 : (own_get vs_a0 ((((p1 + (1 : Int32)) + (1 : Int32)) + (1 : Int32)) + (1 : Int32))) = v6) (hc58 : (((((p1 + (1 : Int32)) + (1 : Int32)) + (1 : Int32)) + (1 : Int32)) + (1 : Int32)) < p2) : ¬ (((((p1 + (1 : Int32)) + (1 : Int32)) + (1 : Int32)) + (1 : Int32)) + (1 : Int32)) < 0 ∧ (((((p1 + (1 : Int32)) + (1 : Int32)) + (1 : Int32)) + (1 : Int32)) + (1 : Int32)) < (6 : Int32) := by
  obtain ⟨r1, r2, r3⟩ := hr
  obtain ⟨a, ha⟩ : ∃ a : Int, p1.toInt = a := ⟨_, rfl⟩
  obtain ⟨b, hb⟩ : ∃ b : Int, p2.toInt = b := ⟨_, rfl⟩
  rw [ha] at r1 r2
  rw [hb] at r2 r3
  have q1 : -2147483648 ≤ a + 1 ∧ a + 1 < 2147483648 := by omega
  have q2 : -2147483648 ≤ a + 1 + 1 ∧ a + 1 + 1 < 2147483648 := by omega
  have q3 : -2147483648 ≤ a + 1 + 1 + 1 ∧ a + 1 + 1 + 1 < 2147483648 := by omega
  have q4 : -2147483648 ≤ a + 1 + 1 + 1 + 1 ∧ a + 1 + 1 + 1 + 1 < 2147483648 := by omega
  have q5 : -2147483648 ≤ a + 1 + 1 + 1 + 1 + 1 ∧ a + 1 + 1 + 1 + 1 + 1 < 2147483648 := by omega
  have q6 : -2147483648 ≤ a + 1 + 1 + 1 + 1 + 1 + 1 ∧ a + 1 + 1 + 1 + 1 + 1 + 1 < 2147483648 := by omega
  have a1 := own_addk p1 1 1 (by decide) ha q1.1 q1.2
  have a2 := own_addk (p1 + 1) 1 1 (by decide) a1 q2.1 q2.2
  have a3 := own_addk (p1 + 1 + 1) 1 1 (by decide) a2 q3.1 q3.2
  have a4 := own_addk (p1 + 1 + 1 + 1) 1 1 (by decide) a3 q4.1 q4.2
  have a5 := own_addk (p1 + 1 + 1 + 1 + 1) 1 1 (by decide) a4 q5.1 q5.2
  have a6 := own_addk (p1 + 1 + 1 + 1 + 1 + 1) 1 1 (by decide) a5 q6.1 q6.2
  have k6 : (6 : Int32).toInt = 6 := by decide
  have k0 : (0 : Int32).toInt = 0 := by decide
  simp only [Int32.lt_iff_toInt_lt, ha, hb, a1, a2, a3, a4, a5, a6, k6, k0] at *
  omega
theorem own_end (p1 : Int32) (p2 : Int32) (vs_a0 : List Int32) (hr : 0 ≤ (p1 : Int32).toInt ∧ p1.toInt ≤ p2.toInt ∧ p2.toInt ≤ 6) (v6 : Int32) (hv6 : v6 = (own_get vs_a0 p1)) (hc2 : ¬ (p1 = p2)) (hg9 : v6 = (60 : Int32) ∨ v6 = (124 : Int32) ∨ v6 = (61 : Int32) ∨ v6 = (62 : Int32)) (hc28 : p1 < p2) (hc32 : (own_get vs_a0 p1) = v6) (hc34 : (p1 + (1 : Int32)) < p2) (hc38 : (own_get vs_a0 (p1 + (1 : Int32))) = v6) (hc40 : ((p1 + (1 : Int32)) + (1 : Int32)) < p2) (hc44 : (own_get vs_a0 ((p1 + (1 : Int32)) + (1 : Int32))) = v6) (hc46 : (((p1 + (1 : Int32)) + (1 : Int32)) + (1 : Int32)) < p2) (hc50 : (own_get vs_a0 (((p1 + (1 : Int32)) + (1 : Int32)) + (1 : Int32))) = v6) (hc52 : ((((p1 + (1 : Int32)) + (1 : Int32)) + (1 : Int32)) + (1 : Int32)) < p2) (hc56 : (own_get vs_a0 ((((p1 + (1 : Int32)) + (1 : Int32)) + (1 : Int32)) + (1 : Int32))) = v6) (hc58 : (((((p1 + (1 : Int32)) + (1 : Int32)) + (1 : Int32)) + (1 : Int32)) + (1 : Int32)) < p2) (hc62 : (own_get vs_a0 (((((p1 + (1 : Int32)) + (1 : Int32)) + (1 : Int32)) + (1 : Int32)) + (1 : Int32))) = v6) : ¬ (((((((p1 + (1 : Int32)) + (1 : Int32)) + (1 : Int32)) + (1 : Int32)) + (1 : Int32)) + (1 : Int32)) < p2) := by
  obtain ⟨r1, r2, r3⟩ := hr
  obtain ⟨a, ha⟩ : ∃ a : Int, p1.toInt = a := ⟨_, rfl⟩
  obtain ⟨b, hb⟩ : ∃ b : Int, p2.toInt = b := ⟨_, rfl⟩
  rw [ha] at r1 r2
  rw [hb] at r2 r3
  have q1 : -2147483648 ≤ a + 1 ∧ a + 1 < 2147483648 := by omega
  have q2 : -2147483648 ≤ a + 1 + 1 ∧ a + 1 + 1 < 2147483648 := by omega
  have q3 : -2147483648 ≤ a + 1 + 1 + 1 ∧ a + 1 + 1 + 1 < 2147483648 := by omega
  have q4 : -2147483648 ≤ a + 1 + 1 + 1 + 1 ∧ a + 1 + 1 + 1 + 1 < 2147483648 := by omega
  have q5 : -2147483648 ≤ a + 1 + 1 + 1 + 1 + 1 ∧ a + 1 + 1 + 1 + 1 + 1 < 2147483648 := by omega
  have q6 : -2147483648 ≤ a + 1 + 1 + 1 + 1 + 1 + 1 ∧ a + 1 + 1 + 1 + 1 + 1 + 1 < 2147483648 := by omega
  have a1 := own_addk p1 1 1 (by decide) ha q1.1 q1.2
  have a2 := own_addk (p1 + 1) 1 1 (by decide) a1 q2.1 q2.2
  have a3 := own_addk (p1 + 1 + 1) 1 1 (by decide) a2 q3.1 q3.2
  have a4 := own_addk (p1 + 1 + 1 + 1) 1 1 (by decide) a3 q4.1 q4.2
  have a5 := own_addk (p1 + 1 + 1 + 1 + 1) 1 1 (by decide) a4 q5.1 q5.2
  have a6 := own_addk (p1 + 1 + 1 + 1 + 1 + 1) 1 1 (by decide) a5 q6.1 q6.2
  have k6 : (6 : Int32).toInt = 6 := by decide
  have k0 : (0 : Int32).toInt = 0 := by decide
  simp only [Int32.lt_iff_toInt_lt, ha, hb, a1, a2, a3, a4, a5, a6, k6, k0] at *
  omega
theorem own_rng60 (p1 : Int32) (p2 : Int32) (vs_a0 : List Int32) (hr : 0 ≤ (p1 : Int32).toInt ∧ p1.toInt ≤ p2.toInt ∧ p2.toInt ≤ 6) (v6 : Int32) (hv6 : v6 = (own_get vs_a0 p1)) (j63 : Int32) (hj63 : j63 = (if p1 < p2 then (if (own_get vs_a0 p1) = v6 then (if (p1 + (1 : Int32)) < p2 then (if (own_get vs_a0 (p1 + (1 : Int32))) = v6 then (if ((p1 + (1 : Int32)) + (1 : Int32)) < p2 then (if (own_get vs_a0 ((p1 + (1 : Int32)) + (1 : Int32))) = v6 then (if (((p1 + (1 : Int32)) + (1 : Int32)) + (1 : Int32)) < p2 then (if (own_get vs_a0 (((p1 + (1 : Int32)) + (1 : Int32)) + (1 : Int32))) = v6 then (if ((((p1 + (1 : Int32)) + (1 : Int32)) + (1 : Int32)) + (1 : Int32)) < p2 then (if (own_get vs_a0 ((((p1 + (1 : Int32)) + (1 : Int32)) + (1 : Int32)) + (1 : Int32))) = v6 then (if (((((p1 + (1 : Int32)) + (1 : Int32)) + (1 : Int32)) + (1 : Int32)) + (1 : Int32)) < p2 then (if (own_get vs_a0 (((((p1 + (1 : Int32)) + (1 : Int32)) + (1 : Int32)) + (1 : Int32)) + (1 : Int32))) = v6 then ((((((p1 + (1 : Int32)) + (1 : Int32)) + (1 : Int32)) + (1 : Int32)) + (1 : Int32)) + (1 : Int32)) else (((((p1 + (1 : Int32)) + (1 : Int32)) + (1 : Int32)) + (1 : Int32)) + (1 : Int32))) else (((((p1 + (1 : Int32)) + (1 : Int32)) + (1 : Int32)) + (1 : Int32)) + (1 : Int32))) else ((((p1 + (1 : Int32)) + (1 : Int32)) + (1 : Int32)) + (1 : Int32))) else ((((p1 + (1 : Int32)) + (1 : Int32)) + (1 : Int32)) + (1 : Int32))) else (((p1 + (1 : Int32)) + (1 : Int32)) + (1 : Int32))) else (((p1 + (1 : Int32)) + (1 : Int32)) + (1 : Int32))) else ((p1 + (1 : Int32)) + (1 : Int32))) else ((p1 + (1 : Int32)) + (1 : Int32))) else (p1 + (1 : Int32))) else (p1 + (1 : Int32))) else p1) else p1)) (hc2 : ¬ (p1 = p2)) (hg9 : v6 = (60 : Int32) ∨ v6 = (124 : Int32) ∨ v6 = (61 : Int32) ∨ v6 = (62 : Int32)) : p1.toInt ≤ j63.toInt ∧ j63.toInt ≤ p2.toInt := by
  obtain ⟨r1, r2, r3⟩ := hr
  have e : j63 = own_runI vs_a0 v6 p2 6 p1 := hj63
  obtain ⟨q1, q2, -, -⟩ := own_run_spec vs_a0 v6 p2 r3 6 p1 r1 r2 (by omega)
  rw [e]
  exact ⟨q1, q2⟩
theorem own_in2_69_1 (p1 : Int32) (p2 : Int32) (vs_a0 : List Int32) (hr : 0 ≤ (p1 : Int32).toInt ∧ p1.toInt ≤ p2.toInt ∧ p2.toInt ≤ 6) (v6 : Int32) (hv6 : v6 = (own_get vs_a0 p1)) (j63 : Int32) (hj63 : j63 = (if p1 < p2 then (if (own_get vs_a0 p1) = v6 then (if (p1 + (1 : Int32)) < p2 then (if (own_get vs_a0 (p1 + (1 : Int32))) = v6 then (if ((p1 + (1 : Int32)) + (1 : Int32)) < p2 then (if (own_get vs_a0 ((p1 + (1 : Int32)) + (1 : Int32))) = v6 then (if (((p1 + (1 : Int32)) + (1 : Int32)) + (1 : Int32)) < p2 then (if (own_get vs_a0 (((p1 + (1 : Int32)) + (1 : Int32)) + (1 : Int32))) = v6 then (if ((((p1 + (1 : Int32)) + (1 : Int32)) + (1 : Int32)) + (1 : Int32)) < p2 then (if (own_get vs_a0 ((((p1 + (1 : Int32)) + (1 : Int32)) + (1 : Int32)) + (1 : Int32))) = v6 then (if (((((p1 + (1 : Int32)) + (1 : Int32)) + (1 : Int32)) + (1 : Int32)) + (1 : Int32)) < p2 then (if (own_get vs_a0 (((((p1 + (1 : Int32)) + (1 : Int32)) + (1 : Int32)) + (1 : Int32)) + (1 : Int32))) = v6 then ((((((p1 + (1 : Int32)) + (1 : Int32)) + (1 : Int32)) + (1 : Int32)) + (1 : Int32)) + (1 : Int32)) else (((((p1 + (1 : Int32)) + (1 : Int32)) + (1 : Int32)) + (1 : Int32)) + (1 : Int32))) else (((((p1 + (1 : Int32)) + (1 : Int32)) + (1 : Int32)) + (1 : Int32)) + (1 : Int32))) else ((((p1 + (1 : Int32)) + (1 : Int32)) + (1 : Int32)) + (1 : Int32))) else ((((p1 + (1 : Int32)) + (1 : Int32)) + (1 : Int32)) + (1 : Int32))) else (((p1 + (1 : Int32)) + (1 : Int32)) + (1 : Int32))) else (((p1 + (1 : Int32)) + (1 : Int32)) + (1 : Int32))) else ((p1 + (1 : Int32)) + (1 : Int32))) else ((p1 + (1 : Int32)) + (1 : Int32))) else (p1 + (1 : Int32))) else (p1 + (1 : Int32))) else p1) else p1)) (hc2 : ¬ (p1 = p2)) (hg9 : v6 = (60 : Int32) ∨ v6 = (124 : Int32) ∨ v6 = (61 : Int32) ∨ v6 = (62 : Int32)) (hc66 : ¬ (j63 = p2)) (kown_rng60 : p1.toInt ≤ j63.toInt ∧ j63.toInt ≤ p2.toInt) : ¬ j63 < 0 ∧ j63 < (6 : Int32) := by
  obtain ⟨r1, r2, r3⟩ := hr
  obtain ⟨s1, s2⟩ := kown_rng60
  have k0 : (0 : Int32).toInt = 0 := by decide
  have k6 : (6 : Int32).toInt = 6 := by decide
  have n : ¬ j63.toInt = p2.toInt := fun z => absurd (Int32.toInt_inj.mp z) (by assumption)
  rw [Int32.lt_iff_toInt_lt, Int32.lt_iff_toInt_lt, k0, k6]
  omega
theorem own_in2_78_1 (p1 : Int32) (p2 : Int32) (vs_a0 : List Int32) (hr : 0 ≤ (p1 : Int32).toInt ∧ p1.toInt ≤ p2.toInt ∧ p2.toInt ≤ 6) (v6 : Int32) (hv6 : v6 = (own_get vs_a0 p1)) (j63 : Int32) (hj63 : j63 = (if p1 < p2 then (if (own_get vs_a0 p1) = v6 then (if (p1 + (1 : Int32)) < p2 then (if (own_get vs_a0 (p1 + (1 : Int32))) = v6 then (if ((p1 + (1 : Int32)) + (1 : Int32)) < p2 then (if (own_get vs_a0 ((p1 + (1 : Int32)) + (1 : Int32))) = v6 then (if (((p1 + (1 : Int32)) + (1 : Int32)) + (1 : Int32)) < p2 then (if (own_get vs_a0 (((p1 + (1 : Int32)) + (1 : Int32)) + (1 : Int32))) = v6 then (if ((((p1 + (1 : Int32)) + (1 : Int32)) + (1 : Int32)) + (1 : Int32)) < p2 then (if (own_get vs_a0 ((((p1 + (1 : Int32)) + (1 : Int32)) + (1 : Int32)) + (1 : Int32))) = v6 then (if (((((p1 + (1 : Int32)) + (1 : Int32)) + (1 : Int32)) + (1 : Int32)) + (1 : Int32)) < p2 then (if (own_get vs_a0 (((((p1 + (1 : Int32)) + (1 : Int32)) + (1 : Int32)) + (1 : Int32)) + (1 : Int32))) = v6 then ((((((p1 + (1 : Int32)) + (1 : Int32)) + (1 : Int32)) + (1 : Int32)) + (1 : Int32)) + (1 : Int32)) else (((((p1 + (1 : Int32)) + (1 : Int32)) + (1 : Int32)) + (1 : Int32)) + (1 : Int32))) else (((((p1 + (1 : Int32)) + (1 : Int32)) + (1 : Int32)) + (1 : Int32)) + (1 : Int32))) else ((((p1 + (1 : Int32)) + (1 : Int32)) + (1 : Int32)) + (1 : Int32))) else ((((p1 + (1 : Int32)) + (1 : Int32)) + (1 : Int32)) + (1 : Int32))) else (((p1 + (1 : Int32)) + (1 : Int32)) + (1 : Int32))) else (((p1 + (1 : Int32)) + (1 : Int32)) + (1 : Int32))) else ((p1 + (1 : Int32)) + (1 : Int32))) else ((p1 + (1 : Int32)) + (1 : Int32))) else (p1 + (1 : Int32))) else (p1 + (1 : Int32))) else p1) else p1)) (hc2 : ¬ (p1 = p2)) (hg9 : v6 = (60 : Int32) ∨ v6 = (124 : Int32) ∨ v6 = (61 : Int32) ∨ v6 = (62 : Int32)) (hc66 : ¬ (j63 = p2)) (hc70 : ¬ ((own_get vs_a0 j63) = (32 : Int32))) (kown_rng60 : p1.toInt ≤ j63.toInt ∧ j63.toInt ≤ p2.toInt) : ¬ j63 < 0 ∧ j63 < (6 : Int32) := by
  obtain ⟨r1, r2, r3⟩ := hr
  obtain ⟨s1, s2⟩ := kown_rng60
  have k0 : (0 : Int32).toInt = 0 := by decide
  have k6 : (6 : Int32).toInt = 6 := by decide
  have n : ¬ j63.toInt = p2.toInt := fun z => absurd (Int32.toInt_inj.mp z) (by assumption)
  rw [Int32.lt_iff_toInt_lt, Int32.lt_iff_toInt_lt, k0, k6]
  omega
theorem own_in2_87_1 (p1 : Int32) (p2 : Int32) (vs_a0 : List Int32) (hr : 0 ≤ (p1 : Int32).toInt ∧ p1.toInt ≤ p2.toInt ∧ p2.toInt ≤ 6) (v6 : Int32) (hv6 : v6 = (own_get vs_a0 p1)) (j63 : Int32) (hj63 : j63 = (if p1 < p2 then (if (own_get vs_a0 p1) = v6 then (if (p1 + (1 : Int32)) < p2 then (if (own_get vs_a0 (p1 + (1 : Int32))) = v6 then (if ((p1 + (1 : Int32)) + (1 : Int32)) < p2 then (if (own_get vs_a0 ((p1 + (1 : Int32)) + (1 : Int32))) = v6 then (if (((p1 + (1 : Int32)) + (1 : Int32)) + (1 : Int32)) < p2 then (if (own_get vs_a0 (((p1 + (1 : Int32)) + (1 : Int32)) + (1 : Int32))) = v6 then (if ((((p1 + (1 : Int32)) + (1 : Int32)) + (1 : Int32)) + (1 : Int32)) < p2 then (if (own_get vs_a0 ((((p1 + (1 : Int32)) + (1 : Int32)) + (1 : Int32)) + (1 : Int32))) = v6 then (if (((((p1 + (1 : Int32)) + (1 : Int32)) + (1 : Int32)) + (1 : Int32)) + (1 : Int32)) < p2 then (if (own_get vs_a0 (((((p1 + (1 : Int32)) + (1 : Int32)) + (1 : Int32)) + (1 : Int32)) + (1 : Int32))) = v6 then ((((((p1 + (1 : Int32)) + (1 : Int32)) + (1 : Int32)) + (1 : Int32)) + (1 : Int32)) + (1 : Int32)) else (((((p1 + (1 : Int32)) + (1 : Int32)) + (1 : Int32)) + (1 : Int32)) + (1 : Int32))) else (((((p1 + (1 : Int32)) + (1 : Int32)) + (1 : Int32)) + (1 : Int32)) + (1 : Int32))) else ((((p1 + (1 : Int32)) + (1 : Int32)) + (1 : Int32)) + (1 : Int32))) else ((((p1 + (1 : Int32)) + (1 : Int32)) + (1 : Int32)) + (1 : Int32))) else (((p1 + (1 : Int32)) + (1 : Int32)) + (1 : Int32))) else (((p1 + (1 : Int32)) + (1 : Int32)) + (1 : Int32))) else ((p1 + (1 : Int32)) + (1 : Int32))) else ((p1 + (1 : Int32)) + (1 : Int32))) else (p1 + (1 : Int32))) else (p1 + (1 : Int32))) else p1) else p1)) (hc2 : ¬ (p1 = p2)) (hg9 : v6 = (60 : Int32) ∨ v6 = (124 : Int32) ∨ v6 = (61 : Int32) ∨ v6 = (62 : Int32)) (hc66 : ¬ (j63 = p2)) (hc70 : ¬ ((own_get vs_a0 j63) = (32 : Int32))) (hc74 : ¬ ((own_get vs_a0 j63) = (10 : Int32))) (kown_rng60 : p1.toInt ≤ j63.toInt ∧ j63.toInt ≤ p2.toInt) : ¬ j63 < 0 ∧ j63 < (6 : Int32) := by
  obtain ⟨r1, r2, r3⟩ := hr
  obtain ⟨s1, s2⟩ := kown_rng60
  have k0 : (0 : Int32).toInt = 0 := by decide
  have k6 : (6 : Int32).toInt = 6 := by decide
  have n : ¬ j63.toInt = p2.toInt := fun z => absurd (Int32.toInt_inj.mp z) (by assumption)
  rw [Int32.lt_iff_toInt_lt, Int32.lt_iff_toInt_lt, k0, k6]
  omega
theorem own_in2_106_1 (p1 : Int32) (p2 : Int32) (vs_a0 : List Int32) (hr : 0 ≤ (p1 : Int32).toInt ∧ p1.toInt ≤ p2.toInt ∧ p2.toInt ≤ 6) (v6 : Int32) (hv6 : v6 = (own_get vs_a0 p1)) (j63 : Int32) (hj63 : j63 = (if p1 < p2 then (if (own_get vs_a0 p1) = v6 then (if (p1 + (1 : Int32)) < p2 then (if (own_get vs_a0 (p1 + (1 : Int32))) = v6 then (if ((p1 + (1 : Int32)) + (1 : Int32)) < p2 then (if (own_get vs_a0 ((p1 + (1 : Int32)) + (1 : Int32))) = v6 then (if (((p1 + (1 : Int32)) + (1 : Int32)) + (1 : Int32)) < p2 then (if (own_get vs_a0 (((p1 + (1 : Int32)) + (1 : Int32)) + (1 : Int32))) = v6 then (if ((((p1 + (1 : Int32)) + (1 : Int32)) + (1 : Int32)) + (1 : Int32)) < p2 then (if (own_get vs_a0 ((((p1 + (1 : Int32)) + (1 : Int32)) + (1 : Int32)) + (1 : Int32))) = v6 then (if (((((p1 + (1 : Int32)) + (1 : Int32)) + (1 : Int32)) + (1 : Int32)) + (1 : Int32)) < p2 then (if (own_get vs_a0 (((((p1 + (1 : Int32)) + (1 : Int32)) + (1 : Int32)) + (1 : Int32)) + (1 : Int32))) = v6 then ((((((p1 + (1 : Int32)) + (1 : Int32)) + (1 : Int32)) + (1 : Int32)) + (1 : Int32)) + (1 : Int32)) else (((((p1 + (1 : Int32)) + (1 : Int32)) + (1 : Int32)) + (1 : Int32)) + (1 : Int32))) else (((((p1 + (1 : Int32)) + (1 : Int32)) + (1 : Int32)) + (1 : Int32)) + (1 : Int32))) else ((((p1 + (1 : Int32)) + (1 : Int32)) + (1 : Int32)) + (1 : Int32))) else ((((p1 + (1 : Int32)) + (1 : Int32)) + (1 : Int32)) + (1 : Int32))) else (((p1 + (1 : Int32)) + (1 : Int32)) + (1 : Int32))) else (((p1 + (1 : Int32)) + (1 : Int32)) + (1 : Int32))) else ((p1 + (1 : Int32)) + (1 : Int32))) else ((p1 + (1 : Int32)) + (1 : Int32))) else (p1 + (1 : Int32))) else (p1 + (1 : Int32))) else p1) else p1)) (hc2 : ¬ (p1 = p2)) (hg9 : v6 = (60 : Int32) ∨ v6 = (124 : Int32) ∨ v6 = (61 : Int32) ∨ v6 = (62 : Int32)) (hc66 : ¬ (j63 = p2)) (hc70 : ¬ ((own_get vs_a0 j63) = (32 : Int32))) (hc74 : ¬ ((own_get vs_a0 j63) = (10 : Int32))) (hc78 : (own_get vs_a0 j63) = (13 : Int32)) (hc80 : (j63 + (2 : Int32)) = p2) (kown_rng60 : p1.toInt ≤ j63.toInt ∧ j63.toInt ≤ p2.toInt) : ¬ (j63 + (1 : Int32)) < 0 ∧ (j63 + (1 : Int32)) < (6 : Int32) := by
  obtain ⟨r1, r2, r3⟩ := hr
  obtain ⟨s1, s2⟩ := kown_rng60
  have k0 : (0 : Int32).toInt = 0 := by decide
  have k6 : (6 : Int32).toInt = 6 := by decide
  have a1 := own_addk j63 1 1 (by decide) rfl (by omega) (by omega)
  have a2 := own_addk j63 2 2 (by decide) rfl (by omega) (by omega)
  have n : (j63 + 2).toInt = p2.toInt := congrArg Int32.toInt (by assumption)
  rw [Int32.lt_iff_toInt_lt, Int32.lt_iff_toInt_lt, k0, k6, a1]
  rw [a2] at n
  omega
set_option maxRecDepth 65536 in
set_option maxHeartbeats 40000000 in
theorem rm2 (l : Launch) (Z : State) (aw : Array Value) (hw : ∀ d ∈ tables_1, d.before aw Z = true) (ws : List Jvm.Cond) (a0 : Addr) (p1 : Int32) (p2 : Int32) (ka_a0 : ClassId) (vs_a0 : List Int32) (h0 : Heap) (n0 : Nat) (Z0 : n0 ≤ h0.size) (V_a0 : Arv Z h0 a0 ka_a0 .byte (6 : Int32) (List.map Value.int vs_a0) (.int (0 : Int32))) (hr : 0 ≤ (p1 : Int32).toInt ∧ p1.toInt ≤ p2.toInt ∧ p2.toInt ≤ 6) :
    MetFree l (⟨"com/example/tercet/tercet/ConflictMarkers", "markerRun", "([BII)I"⟩ : MethodName) (head1 (Jvm.Cond.code (⟨"com/example/tercet/tercet/ConflictMarkers", "markerRun", "([BII)I"⟩ : MethodName) prog_23_method_6_code 6 (some .int) :: ws) ({ frames := 0, cells := 0, slots := 0, locals := 0 } : Room)) (fun a U => a = #[(.ref a0), (.int p1), (.int p2)] ∧ Z.Warmed39 U.vm ∧ U.heap = h0) (fun _ _ _ _ _ => True) (fun _ U o U' => ∃ v L, o = .returned v ∧ Q2 Z a0 p1 p2 ka_a0 vs_a0 h0 n0 v U'.heap L ∧ FrameEnd U o U' L ({ frames := 0, cells := 0, slots := 0, locals := 0 } : Room).cells ({ frames := 0, cells := 0, slots := 0, locals := 0 } : Room).slots) := by
  refine MetFree.of_bodySF (plainFor_of_name pn_0) hisR ?_
  intro p e s m args below meth c s₁ Bd hml0 hP hK
  obtain ⟨rfl, hZ, hh⟩ := hP
  have hx := Bd.exec
  have hby := Bd.bytes
  have hml : c.maxLocals = 6 := hml0
  have hown : s.vm.findClass "com/example/tercet/tercet/ConflictMarkers" = some m.cls := findClass_of_methodNamed Bd.named
  have hnm := (name_of_methodNamed Bd.named Bd.method).1
  have X0 : Stand p l e ({ frames := 0, cells := 0, slots := 0, locals := 0 } : Room) s m #[(.ref a0), (.int p1), (.int p2)] below meth c s₁ [] 0 0 := Stand.of_body Bd
  have e0 : s₁.heap = h0 := by rw [← hh, Bd.state]; rfl
  have N0 := Fr.nil n0
  have pre0 : ∀ t, Steps p.tables e below (s₁.setTop (mkF m 0 #[.val (.ref a0), .val (.int p1), .val (.int p2), .unset, .unset, .unset] [])) t → Steps p.tables e below (s₁.setTop (entryFrame m #[(.ref a0), (.int p1), (.int p2)] 6)) t := fun t k => castTop (ef_2 m a0 p1 p2) k
  have pre1 : ∀ t, Steps p.tables e below (s₁.setTop (mkF m 2 #[.val (.ref a0), .val (.int p1), .val (.int p2), .unset, .unset, .unset] [(.int p2), (.int p1)])) t → Steps p.tables e below (s₁.setTop (entryFrame m #[(.ref a0), (.int p1), (.int p2)] 6)) t := fun t k => pre0 t (by
    show Steps p.tables e below (s₁.setTop (mkF m 0 #[.val (.ref a0), .val (.int p1), .val (.int p2), .unset, .unset, .unset] [])) _
    refine XS.iloadN X0.here hx rfl (hb hby d2_0) rfl ?_
    show Steps p.tables e below (s₁.setTop (mkF m 1 #[.val (.ref a0), .val (.int p1), .val (.int p2), .unset, .unset, .unset] [(.int p1)])) _
    refine XS.iloadN X0.here hx rfl (hb hby d2_1) rfl ?_
    exact k)
  by_cases hc2 : p1 = p2
  · obtain ⟨fs, hr, hrun, hended, hW, hsame⟩ := X0.leave (v := some (.int (0 : Int32))) (fun h => by rw [Bd.returns] at h; cases h)
    refine ⟨_, _, pre1 _ ?_, hrun, hended, _, _, rfl, ?_, ⟨_, rfl⟩, hW, hsame.mono (by decide) (by decide)⟩
    · show Steps p.tables e below (s₁.setTop (mkF m 2 #[.val (.ref a0), .val (.int p1), .val (.int p2), .unset, .unset, .unset] [(.int p2), (.int p1)])) _
      refine XS.icmpNo X0.here hx rfl (hb hby d2_2) rfl (teq hc2).2 ?_
      show Steps p.tables e below (s₁.setTop (mkF m 5 #[.val (.ref a0), .val (.int p1), .val (.int p2), .unset, .unset, .unset] [])) _
      refine XS.iconst X0.here hx rfl (hb hby d2_5) ?_
      show Steps p.tables e below (s₁.setTop (mkF m 6 #[.val (.ref a0), .val (.int p1), .val (.int p2), .unset, .unset, .unset] [(.int (0 : Int32))])) _
      exact retI X0 hx Bd.returns (hb hby d2_6) hr
    · show Q2 Z a0 p1 p2 ka_a0 vs_a0 h0 n0 _ s₁.heap _
      rw [e0]
      exact ⟨congrArg (fun z => some (Value.int z)) (by simp only [f2, if_pos hc2]), N0, rfl⟩
  · have pre3 : ∀ t, Steps p.tables e below (s₁.setTop (mkF m 9 #[.val (.ref a0), .val (.int p1), .val (.int p2), .unset, .unset, .unset] [(.int p1), (.ref a0)])) t → Steps p.tables e below (s₁.setTop (entryFrame m #[(.ref a0), (.int p1), (.int p2)] 6)) t := fun t k => pre1 t (by
      show Steps p.tables e below (s₁.setTop (mkF m 2 #[.val (.ref a0), .val (.int p1), .val (.int p2), .unset, .unset, .unset] [(.int p2), (.int p1)])) _
      refine XS.icmpYes X0.here hx rfl (pc0 := 2) (pc' := 7) rfl (hb hby d2_2) rfl (feq hc2).2 (by decide) (by decide) ?_
      show Steps p.tables e below (s₁.setTop (mkF m 7 #[.val (.ref a0), .val (.int p1), .val (.int p2), .unset, .unset, .unset] [])) _
      refine XS.aloadN X0.here hx rfl (hb hby d2_7) rfl rfl ?_
      show Steps p.tables e below (s₁.setTop (mkF m 8 #[.val (.ref a0), .val (.int p1), .val (.int p2), .unset, .unset, .unset] [(.ref a0)])) _
      refine XS.iloadN X0.here hx rfl (hb hby d2_8) rfl ?_
      exact k)
    have kown_in2_9_1 : ¬ p1 < 0 ∧ p1 < (6 : Int32) := own_in2_9_1 p1 p2 vs_a0 hr hc2
    obtain ⟨cl4, Ar4, q4, S4, M4, H4, G4⟩ := id V_a0
    have hin4 : ¬ (p1 < 0 ∨ cl4.slots.size ≤ (p1).toNatClampNeg) := inb_of S4 kown_in2_9_1
    have hat4 : cl4.slots[(p1).toNatClampNeg]? = some (.int (own_get vs_a0 p1)) := H4.at hin4 (own_getD vs_a0 p1)
    have pre5 : ∀ t, Steps p.tables e below (s₁.setTop (mkF m 10 #[.val (.ref a0), .val (.int p1), .val (.int p2), .unset, .unset, .unset] [(.int (own_get vs_a0 p1))])) t → Steps p.tables e below (s₁.setTop (entryFrame m #[(.ref a0), (.int p1), (.int p2)] 6)) t := fun t k => pre3 t (by
      show Steps p.tables e below (s₁.setTop (mkF m 9 #[.val (.ref a0), .val (.int p1), .val (.int p2), .unset, .unset, .unset] [(.int p1), (.ref a0)])) _
      refine X0.baloadBytes hx (j := p1) (v := (.int (own_get vs_a0 p1))) (by rw [e0]; exact Ar4.1) (State.isArrayOf_alike hZ.alike Ar4.2.1) Ar4.2.2 hin4 hat4 (g := (mkF m 9 #[.val (.ref a0), .val (.int p1), .val (.int p2), .unset, .unset, .unset] [(.int p1), (.ref a0)])) rfl rfl (hb hby d2_9) _ ?_
      exact k)
    obtain ⟨v6, hv6⟩ : ∃ z : Int32, z = (own_get vs_a0 p1) := ⟨_, rfl⟩
    have pre7 : ∀ t, Steps p.tables e below (s₁.setTop (mkF m 10 #[.val (.ref a0), .val (.int p1), .val (.int p2), .unset, .unset, .unset] [(.int v6)])) t → Steps p.tables e below (s₁.setTop (entryFrame m #[(.ref a0), (.int p1), (.int p2)] 6)) t := fun t k => pre5 t (by rw [hv6] at k; exact k)
    have pre8 : ∀ t, Steps p.tables e below (s₁.setTop (mkF m 11 #[.val (.ref a0), .val (.int p1), .val (.int p2), .val (.int v6), .unset, .unset] [])) t → Steps p.tables e below (s₁.setTop (entryFrame m #[(.ref a0), (.int p1), (.int p2)] 6)) t := fun t k => pre7 t (by
      show Steps p.tables e below (s₁.setTop (mkF m 10 #[.val (.ref a0), .val (.int p1), .val (.int p2), .unset, .unset, .unset] [(.int v6)])) _
      refine XS.istoreN X0.here hx rfl (hb hby d2_10) rfl (l' := #[.val (.ref a0), .val (.int p1), .val (.int p2), .val (.int v6), .unset, .unset]) rfl ?_
      exact k)
    by_cases hg9 : v6 = (60 : Int32) ∨ v6 = (124 : Int32) ∨ v6 = (61 : Int32) ∨ v6 = (62 : Int32)
    · have pre18 : ∀ t, Steps p.tables e below (s₁.setTop (mkF m 37 #[.val (.ref a0), .val (.int p1), .val (.int p2), .val (.int v6), .unset, .unset] [])) t → Steps p.tables e below (s₁.setTop (entryFrame m #[(.ref a0), (.int p1), (.int p2)] 6)) t := by
        have pre10 : ∀ t, Steps p.tables e below (s₁.setTop (mkF m 14 #[.val (.ref a0), .val (.int p1), .val (.int p2), .val (.int v6), .unset, .unset] [(.int (60 : Int32)), (.int v6)])) t → Steps p.tables e below (s₁.setTop (entryFrame m #[(.ref a0), (.int p1), (.int p2)] 6)) t := fun t k => pre8 t (by
          show Steps p.tables e below (s₁.setTop (mkF m 11 #[.val (.ref a0), .val (.int p1), .val (.int p2), .val (.int v6), .unset, .unset] [])) _
          refine XS.iloadN X0.here hx rfl (hb hby d2_11) rfl ?_
          show Steps p.tables e below (s₁.setTop (mkF m 12 #[.val (.ref a0), .val (.int p1), .val (.int p2), .val (.int v6), .unset, .unset] [(.int v6)])) _
          refine XS.bipush X0.here hx rfl (hb hby d2_12) ?_
          exact k)
        by_cases hc11 : v6 = (60 : Int32)
        · exact fun t k => pre10 t (by
            show Steps p.tables e below (s₁.setTop (mkF m 14 #[.val (.ref a0), .val (.int p1), .val (.int p2), .val (.int v6), .unset, .unset] [(.int (60 : Int32)), (.int v6)])) _
            refine XS.icmpYes X0.here hx rfl (pc0 := 14) (pc' := 37) rfl (hb hby d2_14) rfl (teq hc11).1 (by decide) (by decide) ?_
            exact k)
        · have pre12 : ∀ t, Steps p.tables e below (s₁.setTop (mkF m 20 #[.val (.ref a0), .val (.int p1), .val (.int p2), .val (.int v6), .unset, .unset] [(.int (124 : Int32)), (.int v6)])) t → Steps p.tables e below (s₁.setTop (entryFrame m #[(.ref a0), (.int p1), (.int p2)] 6)) t := fun t k => pre10 t (by
            show Steps p.tables e below (s₁.setTop (mkF m 14 #[.val (.ref a0), .val (.int p1), .val (.int p2), .val (.int v6), .unset, .unset] [(.int (60 : Int32)), (.int v6)])) _
            refine XS.icmpNo X0.here hx rfl (hb hby d2_14) rfl (feq hc11).1 ?_
            show Steps p.tables e below (s₁.setTop (mkF m 17 #[.val (.ref a0), .val (.int p1), .val (.int p2), .val (.int v6), .unset, .unset] [])) _
            refine XS.iloadN X0.here hx rfl (hb hby d2_17) rfl ?_
            show Steps p.tables e below (s₁.setTop (mkF m 18 #[.val (.ref a0), .val (.int p1), .val (.int p2), .val (.int v6), .unset, .unset] [(.int v6)])) _
            refine XS.bipush X0.here hx rfl (hb hby d2_18) ?_
            exact k)
          by_cases hc13 : v6 = (124 : Int32)
          · exact fun t k => pre12 t (by
              show Steps p.tables e below (s₁.setTop (mkF m 20 #[.val (.ref a0), .val (.int p1), .val (.int p2), .val (.int v6), .unset, .unset] [(.int (124 : Int32)), (.int v6)])) _
              refine XS.icmpYes X0.here hx rfl (pc0 := 20) (pc' := 37) rfl (hb hby d2_20) rfl (teq hc13).1 (by decide) (by decide) ?_
              exact k)
          · have pre14 : ∀ t, Steps p.tables e below (s₁.setTop (mkF m 26 #[.val (.ref a0), .val (.int p1), .val (.int p2), .val (.int v6), .unset, .unset] [(.int (61 : Int32)), (.int v6)])) t → Steps p.tables e below (s₁.setTop (entryFrame m #[(.ref a0), (.int p1), (.int p2)] 6)) t := fun t k => pre12 t (by
              show Steps p.tables e below (s₁.setTop (mkF m 20 #[.val (.ref a0), .val (.int p1), .val (.int p2), .val (.int v6), .unset, .unset] [(.int (124 : Int32)), (.int v6)])) _
              refine XS.icmpNo X0.here hx rfl (hb hby d2_20) rfl (feq hc13).1 ?_
              show Steps p.tables e below (s₁.setTop (mkF m 23 #[.val (.ref a0), .val (.int p1), .val (.int p2), .val (.int v6), .unset, .unset] [])) _
              refine XS.iloadN X0.here hx rfl (hb hby d2_23) rfl ?_
              show Steps p.tables e below (s₁.setTop (mkF m 24 #[.val (.ref a0), .val (.int p1), .val (.int p2), .val (.int v6), .unset, .unset] [(.int v6)])) _
              refine XS.bipush X0.here hx rfl (hb hby d2_24) ?_
              exact k)
            by_cases hc15 : v6 = (61 : Int32)
            · exact fun t k => pre14 t (by
                show Steps p.tables e below (s₁.setTop (mkF m 26 #[.val (.ref a0), .val (.int p1), .val (.int p2), .val (.int v6), .unset, .unset] [(.int (61 : Int32)), (.int v6)])) _
                refine XS.icmpYes X0.here hx rfl (pc0 := 26) (pc' := 37) rfl (hb hby d2_26) rfl (teq hc15).1 (by decide) (by decide) ?_
                exact k)
            · have pre16 : ∀ t, Steps p.tables e below (s₁.setTop (mkF m 32 #[.val (.ref a0), .val (.int p1), .val (.int p2), .val (.int v6), .unset, .unset] [(.int (62 : Int32)), (.int v6)])) t → Steps p.tables e below (s₁.setTop (entryFrame m #[(.ref a0), (.int p1), (.int p2)] 6)) t := fun t k => pre14 t (by
                show Steps p.tables e below (s₁.setTop (mkF m 26 #[.val (.ref a0), .val (.int p1), .val (.int p2), .val (.int v6), .unset, .unset] [(.int (61 : Int32)), (.int v6)])) _
                refine XS.icmpNo X0.here hx rfl (hb hby d2_26) rfl (feq hc15).1 ?_
                show Steps p.tables e below (s₁.setTop (mkF m 29 #[.val (.ref a0), .val (.int p1), .val (.int p2), .val (.int v6), .unset, .unset] [])) _
                refine XS.iloadN X0.here hx rfl (hb hby d2_29) rfl ?_
                show Steps p.tables e below (s₁.setTop (mkF m 30 #[.val (.ref a0), .val (.int p1), .val (.int p2), .val (.int v6), .unset, .unset] [(.int v6)])) _
                refine XS.bipush X0.here hx rfl (hb hby d2_30) ?_
                exact k)
              by_cases hc17 : v6 = (62 : Int32)
              · exact fun t k => pre16 t (by
                  show Steps p.tables e below (s₁.setTop (mkF m 32 #[.val (.ref a0), .val (.int p1), .val (.int p2), .val (.int v6), .unset, .unset] [(.int (62 : Int32)), (.int v6)])) _
                  refine XS.icmpYes X0.here hx rfl (pc0 := 32) (pc' := 37) rfl (hb hby d2_32) rfl (teq hc17).1 (by decide) (by decide) ?_
                  exact k)
              · exfalso; simp [hc11, hc13, hc15, hc17] at hg9
      have pre27 : ∀ t, Steps p.tables e below (s₁.setTop (mkF m 43 #[.val (.ref a0), .val (.int p1), .val (.int p2), .val (.int v6), .val (.int p1), .unset] [(.int p2), (.int p1)])) t → Steps p.tables e below (s₁.setTop (entryFrame m #[(.ref a0), (.int p1), (.int p2)] 6)) t := fun t k => pre18 t (by
        show Steps p.tables e below (s₁.setTop (mkF m 37 #[.val (.ref a0), .val (.int p1), .val (.int p2), .val (.int v6), .unset, .unset] [])) _
        refine XS.iloadN X0.here hx rfl (hb hby d2_37) rfl ?_
        show Steps p.tables e below (s₁.setTop (mkF m 38 #[.val (.ref a0), .val (.int p1), .val (.int p2), .val (.int v6), .unset, .unset] [(.int p1)])) _
        refine XS.istore X0.here hx rfl (hb hby d2_38) rfl (l' := #[.val (.ref a0), .val (.int p1), .val (.int p2), .val (.int v6), .val (.int p1), .unset]) rfl ?_
        show Steps p.tables e below (s₁.setTop (mkF m 40 #[.val (.ref a0), .val (.int p1), .val (.int p2), .val (.int v6), .val (.int p1), .unset] [])) _
        refine XS.iload X0.here hx rfl (hb hby d2_40) rfl ?_
        show Steps p.tables e below (s₁.setTop (mkF m 42 #[.val (.ref a0), .val (.int p1), .val (.int p2), .val (.int v6), .val (.int p1), .unset] [(.int p1)])) _
        refine XS.iloadN X0.here hx rfl (hb hby d2_42) rfl ?_
        exact k)
      obtain ⟨j63, hj63, pre64⟩ : ∃ (j63 : Int32), j63 = (if p1 < p2 then (if (own_get vs_a0 p1) = v6 then (if (p1 + (1 : Int32)) < p2 then (if (own_get vs_a0 (p1 + (1 : Int32))) = v6 then (if ((p1 + (1 : Int32)) + (1 : Int32)) < p2 then (if (own_get vs_a0 ((p1 + (1 : Int32)) + (1 : Int32))) = v6 then (if (((p1 + (1 : Int32)) + (1 : Int32)) + (1 : Int32)) < p2 then (if (own_get vs_a0 (((p1 + (1 : Int32)) + (1 : Int32)) + (1 : Int32))) = v6 then (if ((((p1 + (1 : Int32)) + (1 : Int32)) + (1 : Int32)) + (1 : Int32)) < p2 then (if (own_get vs_a0 ((((p1 + (1 : Int32)) + (1 : Int32)) + (1 : Int32)) + (1 : Int32))) = v6 then (if (((((p1 + (1 : Int32)) + (1 : Int32)) + (1 : Int32)) + (1 : Int32)) + (1 : Int32)) < p2 then (if (own_get vs_a0 (((((p1 + (1 : Int32)) + (1 : Int32)) + (1 : Int32)) + (1 : Int32)) + (1 : Int32))) = v6 then ((((((p1 + (1 : Int32)) + (1 : Int32)) + (1 : Int32)) + (1 : Int32)) + (1 : Int32)) + (1 : Int32)) else (((((p1 + (1 : Int32)) + (1 : Int32)) + (1 : Int32)) + (1 : Int32)) + (1 : Int32))) else (((((p1 + (1 : Int32)) + (1 : Int32)) + (1 : Int32)) + (1 : Int32)) + (1 : Int32))) else ((((p1 + (1 : Int32)) + (1 : Int32)) + (1 : Int32)) + (1 : Int32))) else ((((p1 + (1 : Int32)) + (1 : Int32)) + (1 : Int32)) + (1 : Int32))) else (((p1 + (1 : Int32)) + (1 : Int32)) + (1 : Int32))) else (((p1 + (1 : Int32)) + (1 : Int32)) + (1 : Int32))) else ((p1 + (1 : Int32)) + (1 : Int32))) else ((p1 + (1 : Int32)) + (1 : Int32))) else (p1 + (1 : Int32))) else (p1 + (1 : Int32))) else p1) else p1) ∧ ∀ t, Steps p.tables e below (s₁.setTop (mkF m 60 #[.val (.ref a0), .val (.int p1), .val (.int p2), .val (.int v6), .val (.int j63), .unset] [])) t → Steps p.tables e below (s₁.setTop (entryFrame m #[(.ref a0), (.int p1), (.int p2)] 6)) t := by
        by_cases hc28 : p1 < p2
        · have pre29 : ∀ t, Steps p.tables e below (s₁.setTop (mkF m 49 #[.val (.ref a0), .val (.int p1), .val (.int p2), .val (.int v6), .val (.int p1), .unset] [(.int p1), (.ref a0)])) t → Steps p.tables e below (s₁.setTop (entryFrame m #[(.ref a0), (.int p1), (.int p2)] 6)) t := fun t k => pre27 t (by
            show Steps p.tables e below (s₁.setTop (mkF m 43 #[.val (.ref a0), .val (.int p1), .val (.int p2), .val (.int v6), .val (.int p1), .unset] [(.int p2), (.int p1)])) _
            refine XS.icmpNo X0.here hx rfl (hb hby d2_43) rfl (tlt hc28).2.1 ?_
            show Steps p.tables e below (s₁.setTop (mkF m 46 #[.val (.ref a0), .val (.int p1), .val (.int p2), .val (.int v6), .val (.int p1), .unset] [])) _
            refine XS.aloadN X0.here hx rfl (hb hby d2_46) rfl rfl ?_
            show Steps p.tables e below (s₁.setTop (mkF m 47 #[.val (.ref a0), .val (.int p1), .val (.int p2), .val (.int v6), .val (.int p1), .unset] [(.ref a0)])) _
            refine XS.iload X0.here hx rfl (hb hby d2_47) rfl ?_
            exact k)
          have kown_in2_49_1 : ¬ p1 < 0 ∧ p1 < (6 : Int32) := own_in2_49_1 p1 p2 vs_a0 hr v6 hv6 hc2 hg9 hc28
          obtain ⟨cl30, Ar30, q30, S30, M30, H30, G30⟩ := id V_a0
          have hin30 : ¬ (p1 < 0 ∨ cl30.slots.size ≤ (p1).toNatClampNeg) := inb_of S30 kown_in2_49_1
          have hat30 : cl30.slots[(p1).toNatClampNeg]? = some (.int (own_get vs_a0 p1)) := H30.at hin30 (own_getD vs_a0 p1)
          have pre31 : ∀ t, Steps p.tables e below (s₁.setTop (mkF m 51 #[.val (.ref a0), .val (.int p1), .val (.int p2), .val (.int v6), .val (.int p1), .unset] [(.int v6), (.int (own_get vs_a0 p1))])) t → Steps p.tables e below (s₁.setTop (entryFrame m #[(.ref a0), (.int p1), (.int p2)] 6)) t := fun t k => pre29 t (by
            show Steps p.tables e below (s₁.setTop (mkF m 49 #[.val (.ref a0), .val (.int p1), .val (.int p2), .val (.int v6), .val (.int p1), .unset] [(.int p1), (.ref a0)])) _
            refine X0.baloadBytes hx (j := p1) (v := (.int (own_get vs_a0 p1))) (by rw [e0]; exact Ar30.1) (State.isArrayOf_alike hZ.alike Ar30.2.1) Ar30.2.2 hin30 hat30 (g := (mkF m 49 #[.val (.ref a0), .val (.int p1), .val (.int p2), .val (.int v6), .val (.int p1), .unset] [(.int p1), (.ref a0)])) rfl rfl (hb hby d2_49) _ ?_
            show Steps p.tables e below (s₁.setTop (mkF m 50 #[.val (.ref a0), .val (.int p1), .val (.int p2), .val (.int v6), .val (.int p1), .unset] [(.int (own_get vs_a0 p1))])) _
            refine XS.iloadN X0.here hx rfl (hb hby d2_50) rfl ?_
            exact k)
          by_cases hc32 : (own_get vs_a0 p1) = v6
          · have pre33 : ∀ t, Steps p.tables e below (s₁.setTop (mkF m 43 #[.val (.ref a0), .val (.int p1), .val (.int p2), .val (.int v6), .val (.int (p1 + (1 : Int32))), .unset] [(.int p2), (.int (p1 + (1 : Int32)))])) t → Steps p.tables e below (s₁.setTop (entryFrame m #[(.ref a0), (.int p1), (.int p2)] 6)) t := fun t k => pre31 t (by
              show Steps p.tables e below (s₁.setTop (mkF m 51 #[.val (.ref a0), .val (.int p1), .val (.int p2), .val (.int v6), .val (.int p1), .unset] [(.int v6), (.int (own_get vs_a0 p1))])) _
              refine XS.icmpNo X0.here hx rfl (hb hby d2_51) rfl (teq hc32).2 ?_
              show Steps p.tables e below (s₁.setTop (mkF m 54 #[.val (.ref a0), .val (.int p1), .val (.int p2), .val (.int v6), .val (.int p1), .unset] [])) _
              refine XS.iinc X0.here hx rfl (hb hby d2_54) rfl (l' := #[.val (.ref a0), .val (.int p1), .val (.int p2), .val (.int v6), .val (.int (p1 + (1 : Int32))), .unset]) rfl ?_
              show Steps p.tables e below (s₁.setTop (mkF m 57 #[.val (.ref a0), .val (.int p1), .val (.int p2), .val (.int v6), .val (.int (p1 + (1 : Int32))), .unset] [])) _
              refine XS.goto X0.here hx rfl (pc0 := 57) (pc' := 40) rfl (hb hby d2_57) (by decide) (by decide) ?_
              show Steps p.tables e below (s₁.setTop (mkF m 40 #[.val (.ref a0), .val (.int p1), .val (.int p2), .val (.int v6), .val (.int (p1 + (1 : Int32))), .unset] [])) _
              refine XS.iload X0.here hx rfl (hb hby d2_40) rfl ?_
              show Steps p.tables e below (s₁.setTop (mkF m 42 #[.val (.ref a0), .val (.int p1), .val (.int p2), .val (.int v6), .val (.int (p1 + (1 : Int32))), .unset] [(.int (p1 + (1 : Int32)))])) _
              refine XS.iloadN X0.here hx rfl (hb hby d2_42) rfl ?_
              exact k)
            by_cases hc34 : (p1 + (1 : Int32)) < p2
            · have pre35 : ∀ t, Steps p.tables e below (s₁.setTop (mkF m 49 #[.val (.ref a0), .val (.int p1), .val (.int p2), .val (.int v6), .val (.int (p1 + (1 : Int32))), .unset] [(.int (p1 + (1 : Int32))), (.ref a0)])) t → Steps p.tables e below (s₁.setTop (entryFrame m #[(.ref a0), (.int p1), (.int p2)] 6)) t := fun t k => pre33 t (by
                show Steps p.tables e below (s₁.setTop (mkF m 43 #[.val (.ref a0), .val (.int p1), .val (.int p2), .val (.int v6), .val (.int (p1 + (1 : Int32))), .unset] [(.int p2), (.int (p1 + (1 : Int32)))])) _
                refine XS.icmpNo X0.here hx rfl (hb hby d2_43) rfl (tlt hc34).2.1 ?_
                show Steps p.tables e below (s₁.setTop (mkF m 46 #[.val (.ref a0), .val (.int p1), .val (.int p2), .val (.int v6), .val (.int (p1 + (1 : Int32))), .unset] [])) _
                refine XS.aloadN X0.here hx rfl (hb hby d2_46) rfl rfl ?_
                show Steps p.tables e below (s₁.setTop (mkF m 47 #[.val (.ref a0), .val (.int p1), .val (.int p2), .val (.int v6), .val (.int (p1 + (1 : Int32))), .unset] [(.ref a0)])) _
                refine XS.iload X0.here hx rfl (hb hby d2_47) rfl ?_
                exact k)
              have kown_in2_49_2 : ¬ (p1 + (1 : Int32)) < 0 ∧ (p1 + (1 : Int32)) < (6 : Int32) := own_in2_49_2 p1 p2 vs_a0 hr v6 hv6 hc2 hg9 hc28 hc32 hc34
              obtain ⟨cl36, Ar36, q36, S36, M36, H36, G36⟩ := id V_a0
              have hin36 : ¬ ((p1 + (1 : Int32)) < 0 ∨ cl36.slots.size ≤ ((p1 + (1 : Int32))).toNatClampNeg) := inb_of S36 kown_in2_49_2
              have hat36 : cl36.slots[((p1 + (1 : Int32))).toNatClampNeg]? = some (.int (own_get vs_a0 (p1 + (1 : Int32)))) := H36.at hin36 (own_getD vs_a0 (p1 + (1 : Int32)))
              have pre37 : ∀ t, Steps p.tables e below (s₁.setTop (mkF m 51 #[.val (.ref a0), .val (.int p1), .val (.int p2), .val (.int v6), .val (.int (p1 + (1 : Int32))), .unset] [(.int v6), (.int (own_get vs_a0 (p1 + (1 : Int32))))])) t → Steps p.tables e below (s₁.setTop (entryFrame m #[(.ref a0), (.int p1), (.int p2)] 6)) t := fun t k => pre35 t (by
                show Steps p.tables e below (s₁.setTop (mkF m 49 #[.val (.ref a0), .val (.int p1), .val (.int p2), .val (.int v6), .val (.int (p1 + (1 : Int32))), .unset] [(.int (p1 + (1 : Int32))), (.ref a0)])) _
                refine X0.baloadBytes hx (j := (p1 + (1 : Int32))) (v := (.int (own_get vs_a0 (p1 + (1 : Int32))))) (by rw [e0]; exact Ar36.1) (State.isArrayOf_alike hZ.alike Ar36.2.1) Ar36.2.2 hin36 hat36 (g := (mkF m 49 #[.val (.ref a0), .val (.int p1), .val (.int p2), .val (.int v6), .val (.int (p1 + (1 : Int32))), .unset] [(.int (p1 + (1 : Int32))), (.ref a0)])) rfl rfl (hb hby d2_49) _ ?_
                show Steps p.tables e below (s₁.setTop (mkF m 50 #[.val (.ref a0), .val (.int p1), .val (.int p2), .val (.int v6), .val (.int (p1 + (1 : Int32))), .unset] [(.int (own_get vs_a0 (p1 + (1 : Int32))))])) _
                refine XS.iloadN X0.here hx rfl (hb hby d2_50) rfl ?_
                exact k)
              by_cases hc38 : (own_get vs_a0 (p1 + (1 : Int32))) = v6
              · have pre39 : ∀ t, Steps p.tables e below (s₁.setTop (mkF m 43 #[.val (.ref a0), .val (.int p1), .val (.int p2), .val (.int v6), .val (.int ((p1 + (1 : Int32)) + (1 : Int32))), .unset] [(.int p2), (.int ((p1 + (1 : Int32)) + (1 : Int32)))])) t → Steps p.tables e below (s₁.setTop (entryFrame m #[(.ref a0), (.int p1), (.int p2)] 6)) t := fun t k => pre37 t (by
                  show Steps p.tables e below (s₁.setTop (mkF m 51 #[.val (.ref a0), .val (.int p1), .val (.int p2), .val (.int v6), .val (.int (p1 + (1 : Int32))), .unset] [(.int v6), (.int (own_get vs_a0 (p1 + (1 : Int32))))])) _
                  refine XS.icmpNo X0.here hx rfl (hb hby d2_51) rfl (teq hc38).2 ?_
                  show Steps p.tables e below (s₁.setTop (mkF m 54 #[.val (.ref a0), .val (.int p1), .val (.int p2), .val (.int v6), .val (.int (p1 + (1 : Int32))), .unset] [])) _
                  refine XS.iinc X0.here hx rfl (hb hby d2_54) rfl (l' := #[.val (.ref a0), .val (.int p1), .val (.int p2), .val (.int v6), .val (.int ((p1 + (1 : Int32)) + (1 : Int32))), .unset]) rfl ?_
                  show Steps p.tables e below (s₁.setTop (mkF m 57 #[.val (.ref a0), .val (.int p1), .val (.int p2), .val (.int v6), .val (.int ((p1 + (1 : Int32)) + (1 : Int32))), .unset] [])) _
                  refine XS.goto X0.here hx rfl (pc0 := 57) (pc' := 40) rfl (hb hby d2_57) (by decide) (by decide) ?_
                  show Steps p.tables e below (s₁.setTop (mkF m 40 #[.val (.ref a0), .val (.int p1), .val (.int p2), .val (.int v6), .val (.int ((p1 + (1 : Int32)) + (1 : Int32))), .unset] [])) _
                  refine XS.iload X0.here hx rfl (hb hby d2_40) rfl ?_
                  show Steps p.tables e below (s₁.setTop (mkF m 42 #[.val (.ref a0), .val (.int p1), .val (.int p2), .val (.int v6), .val (.int ((p1 + (1 : Int32)) + (1 : Int32))), .unset] [(.int ((p1 + (1 : Int32)) + (1 : Int32)))])) _
                  refine XS.iloadN X0.here hx rfl (hb hby d2_42) rfl ?_
                  exact k)
                by_cases hc40 : ((p1 + (1 : Int32)) + (1 : Int32)) < p2
                · have pre41 : ∀ t, Steps p.tables e below (s₁.setTop (mkF m 49 #[.val (.ref a0), .val (.int p1), .val (.int p2), .val (.int v6), .val (.int ((p1 + (1 : Int32)) + (1 : Int32))), .unset] [(.int ((p1 + (1 : Int32)) + (1 : Int32))), (.ref a0)])) t → Steps p.tables e below (s₁.setTop (entryFrame m #[(.ref a0), (.int p1), (.int p2)] 6)) t := fun t k => pre39 t (by
                    show Steps p.tables e below (s₁.setTop (mkF m 43 #[.val (.ref a0), .val (.int p1), .val (.int p2), .val (.int v6), .val (.int ((p1 + (1 : Int32)) + (1 : Int32))), .unset] [(.int p2), (.int ((p1 + (1 : Int32)) + (1 : Int32)))])) _
                    refine XS.icmpNo X0.here hx rfl (hb hby d2_43) rfl (tlt hc40).2.1 ?_
                    show Steps p.tables e below (s₁.setTop (mkF m 46 #[.val (.ref a0), .val (.int p1), .val (.int p2), .val (.int v6), .val (.int ((p1 + (1 : Int32)) + (1 : Int32))), .unset] [])) _
                    refine XS.aloadN X0.here hx rfl (hb hby d2_46) rfl rfl ?_
                    show Steps p.tables e below (s₁.setTop (mkF m 47 #[.val (.ref a0), .val (.int p1), .val (.int p2), .val (.int v6), .val (.int ((p1 + (1 : Int32)) + (1 : Int32))), .unset] [(.ref a0)])) _
                    refine XS.iload X0.here hx rfl (hb hby d2_47) rfl ?_
                    exact k)
                  have kown_in2_49_3 : ¬ ((p1 + (1 : Int32)) + (1 : Int32)) < 0 ∧ ((p1 + (1 : Int32)) + (1 : Int32)) < (6 : Int32) := own_in2_49_3 p1 p2 vs_a0 hr v6 hv6 hc2 hg9 hc28 hc32 hc34 hc38 hc40
                  obtain ⟨cl42, Ar42, q42, S42, M42, H42, G42⟩ := id V_a0
                  have hin42 : ¬ (((p1 + (1 : Int32)) + (1 : Int32)) < 0 ∨ cl42.slots.size ≤ (((p1 + (1 : Int32)) + (1 : Int32))).toNatClampNeg) := inb_of S42 kown_in2_49_3
                  have hat42 : cl42.slots[(((p1 + (1 : Int32)) + (1 : Int32))).toNatClampNeg]? = some (.int (own_get vs_a0 ((p1 + (1 : Int32)) + (1 : Int32)))) := H42.at hin42 (own_getD vs_a0 ((p1 + (1 : Int32)) + (1 : Int32)))
                  have pre43 : ∀ t, Steps p.tables e below (s₁.setTop (mkF m 51 #[.val (.ref a0), .val (.int p1), .val (.int p2), .val (.int v6), .val (.int ((p1 + (1 : Int32)) + (1 : Int32))), .unset] [(.int v6), (.int (own_get vs_a0 ((p1 + (1 : Int32)) + (1 : Int32))))])) t → Steps p.tables e below (s₁.setTop (entryFrame m #[(.ref a0), (.int p1), (.int p2)] 6)) t := fun t k => pre41 t (by
                    show Steps p.tables e below (s₁.setTop (mkF m 49 #[.val (.ref a0), .val (.int p1), .val (.int p2), .val (.int v6), .val (.int ((p1 + (1 : Int32)) + (1 : Int32))), .unset] [(.int ((p1 + (1 : Int32)) + (1 : Int32))), (.ref a0)])) _
                    refine X0.baloadBytes hx (j := ((p1 + (1 : Int32)) + (1 : Int32))) (v := (.int (own_get vs_a0 ((p1 + (1 : Int32)) + (1 : Int32))))) (by rw [e0]; exact Ar42.1) (State.isArrayOf_alike hZ.alike Ar42.2.1) Ar42.2.2 hin42 hat42 (g := (mkF m 49 #[.val (.ref a0), .val (.int p1), .val (.int p2), .val (.int v6), .val (.int ((p1 + (1 : Int32)) + (1 : Int32))), .unset] [(.int ((p1 + (1 : Int32)) + (1 : Int32))), (.ref a0)])) rfl rfl (hb hby d2_49) _ ?_
                    show Steps p.tables e below (s₁.setTop (mkF m 50 #[.val (.ref a0), .val (.int p1), .val (.int p2), .val (.int v6), .val (.int ((p1 + (1 : Int32)) + (1 : Int32))), .unset] [(.int (own_get vs_a0 ((p1 + (1 : Int32)) + (1 : Int32))))])) _
                    refine XS.iloadN X0.here hx rfl (hb hby d2_50) rfl ?_
                    exact k)
                  by_cases hc44 : (own_get vs_a0 ((p1 + (1 : Int32)) + (1 : Int32))) = v6
                  · have pre45 : ∀ t, Steps p.tables e below (s₁.setTop (mkF m 43 #[.val (.ref a0), .val (.int p1), .val (.int p2), .val (.int v6), .val (.int (((p1 + (1 : Int32)) + (1 : Int32)) + (1 : Int32))), .unset] [(.int p2), (.int (((p1 + (1 : Int32)) + (1 : Int32)) + (1 : Int32)))])) t → Steps p.tables e below (s₁.setTop (entryFrame m #[(.ref a0), (.int p1), (.int p2)] 6)) t := fun t k => pre43 t (by
                      show Steps p.tables e below (s₁.setTop (mkF m 51 #[.val (.ref a0), .val (.int p1), .val (.int p2), .val (.int v6), .val (.int ((p1 + (1 : Int32)) + (1 : Int32))), .unset] [(.int v6), (.int (own_get vs_a0 ((p1 + (1 : Int32)) + (1 : Int32))))])) _
                      refine XS.icmpNo X0.here hx rfl (hb hby d2_51) rfl (teq hc44).2 ?_
                      show Steps p.tables e below (s₁.setTop (mkF m 54 #[.val (.ref a0), .val (.int p1), .val (.int p2), .val (.int v6), .val (.int ((p1 + (1 : Int32)) + (1 : Int32))), .unset] [])) _
                      refine XS.iinc X0.here hx rfl (hb hby d2_54) rfl (l' := #[.val (.ref a0), .val (.int p1), .val (.int p2), .val (.int v6), .val (.int (((p1 + (1 : Int32)) + (1 : Int32)) + (1 : Int32))), .unset]) rfl ?_
                      show Steps p.tables e below (s₁.setTop (mkF m 57 #[.val (.ref a0), .val (.int p1), .val (.int p2), .val (.int v6), .val (.int (((p1 + (1 : Int32)) + (1 : Int32)) + (1 : Int32))), .unset] [])) _
                      refine XS.goto X0.here hx rfl (pc0 := 57) (pc' := 40) rfl (hb hby d2_57) (by decide) (by decide) ?_
                      show Steps p.tables e below (s₁.setTop (mkF m 40 #[.val (.ref a0), .val (.int p1), .val (.int p2), .val (.int v6), .val (.int (((p1 + (1 : Int32)) + (1 : Int32)) + (1 : Int32))), .unset] [])) _
                      refine XS.iload X0.here hx rfl (hb hby d2_40) rfl ?_
                      show Steps p.tables e below (s₁.setTop (mkF m 42 #[.val (.ref a0), .val (.int p1), .val (.int p2), .val (.int v6), .val (.int (((p1 + (1 : Int32)) + (1 : Int32)) + (1 : Int32))), .unset] [(.int (((p1 + (1 : Int32)) + (1 : Int32)) + (1 : Int32)))])) _
                      refine XS.iloadN X0.here hx rfl (hb hby d2_42) rfl ?_
                      exact k)
                    by_cases hc46 : (((p1 + (1 : Int32)) + (1 : Int32)) + (1 : Int32)) < p2
                    · have pre47 : ∀ t, Steps p.tables e below (s₁.setTop (mkF m 49 #[.val (.ref a0), .val (.int p1), .val (.int p2), .val (.int v6), .val (.int (((p1 + (1 : Int32)) + (1 : Int32)) + (1 : Int32))), .unset] [(.int (((p1 + (1 : Int32)) + (1 : Int32)) + (1 : Int32))), (.ref a0)])) t → Steps p.tables e below (s₁.setTop (entryFrame m #[(.ref a0), (.int p1), (.int p2)] 6)) t := fun t k => pre45 t (by
                        show Steps p.tables e below (s₁.setTop (mkF m 43 #[.val (.ref a0), .val (.int p1), .val (.int p2), .val (.int v6), .val (.int (((p1 + (1 : Int32)) + (1 : Int32)) + (1 : Int32))), .unset] [(.int p2), (.int (((p1 + (1 : Int32)) + (1 : Int32)) + (1 : Int32)))])) _
                        refine XS.icmpNo X0.here hx rfl (hb hby d2_43) rfl (tlt hc46).2.1 ?_
                        show Steps p.tables e below (s₁.setTop (mkF m 46 #[.val (.ref a0), .val (.int p1), .val (.int p2), .val (.int v6), .val (.int (((p1 + (1 : Int32)) + (1 : Int32)) + (1 : Int32))), .unset] [])) _
                        refine XS.aloadN X0.here hx rfl (hb hby d2_46) rfl rfl ?_
                        show Steps p.tables e below (s₁.setTop (mkF m 47 #[.val (.ref a0), .val (.int p1), .val (.int p2), .val (.int v6), .val (.int (((p1 + (1 : Int32)) + (1 : Int32)) + (1 : Int32))), .unset] [(.ref a0)])) _
                        refine XS.iload X0.here hx rfl (hb hby d2_47) rfl ?_
                        exact k)
                      have kown_in2_49_4 : ¬ (((p1 + (1 : Int32)) + (1 : Int32)) + (1 : Int32)) < 0 ∧ (((p1 + (1 : Int32)) + (1 : Int32)) + (1 : Int32)) < (6 : Int32) := own_in2_49_4 p1 p2 vs_a0 hr v6 hv6 hc2 hg9 hc28 hc32 hc34 hc38 hc40 hc44 hc46
                      obtain ⟨cl48, Ar48, q48, S48, M48, H48, G48⟩ := id V_a0
                      have hin48 : ¬ ((((p1 + (1 : Int32)) + (1 : Int32)) + (1 : Int32)) < 0 ∨ cl48.slots.size ≤ ((((p1 + (1 : Int32)) + (1 : Int32)) + (1 : Int32))).toNatClampNeg) := inb_of S48 kown_in2_49_4
                      have hat48 : cl48.slots[((((p1 + (1 : Int32)) + (1 : Int32)) + (1 : Int32))).toNatClampNeg]? = some (.int (own_get vs_a0 (((p1 + (1 : Int32)) + (1 : Int32)) + (1 : Int32)))) := H48.at hin48 (own_getD vs_a0 (((p1 + (1 : Int32)) + (1 : Int32)) + (1 : Int32)))
                      have pre49 : ∀ t, Steps p.tables e below (s₁.setTop (mkF m 51 #[.val (.ref a0), .val (.int p1), .val (.int p2), .val (.int v6), .val (.int (((p1 + (1 : Int32)) + (1 : Int32)) + (1 : Int32))), .unset] [(.int v6), (.int (own_get vs_a0 (((p1 + (1 : Int32)) + (1 : Int32)) + (1 : Int32))))])) t → Steps p.tables e below (s₁.setTop (entryFrame m #[(.ref a0), (.int p1), (.int p2)] 6)) t := fun t k => pre47 t (by
                        show Steps p.tables e below (s₁.setTop (mkF m 49 #[.val (.ref a0), .val (.int p1), .val (.int p2), .val (.int v6), .val (.int (((p1 + (1 : Int32)) + (1 : Int32)) + (1 : Int32))), .unset] [(.int (((p1 + (1 : Int32)) + (1 : Int32)) + (1 : Int32))), (.ref a0)])) _
                        refine X0.baloadBytes hx (j := (((p1 + (1 : Int32)) + (1 : Int32)) + (1 : Int32))) (v := (.int (own_get vs_a0 (((p1 + (1 : Int32)) + (1 : Int32)) + (1 : Int32))))) (by rw [e0]; exact Ar48.1) (State.isArrayOf_alike hZ.alike Ar48.2.1) Ar48.2.2 hin48 hat48 (g := (mkF m 49 #[.val (.ref a0), .val (.int p1), .val (.int p2), .val (.int v6), .val (.int (((p1 + (1 : Int32)) + (1 : Int32)) + (1 : Int32))), .unset] [(.int (((p1 + (1 : Int32)) + (1 : Int32)) + (1 : Int32))), (.ref a0)])) rfl rfl (hb hby d2_49) _ ?_
                        show Steps p.tables e below (s₁.setTop (mkF m 50 #[.val (.ref a0), .val (.int p1), .val (.int p2), .val (.int v6), .val (.int (((p1 + (1 : Int32)) + (1 : Int32)) + (1 : Int32))), .unset] [(.int (own_get vs_a0 (((p1 + (1 : Int32)) + (1 : Int32)) + (1 : Int32))))])) _
                        refine XS.iloadN X0.here hx rfl (hb hby d2_50) rfl ?_
                        exact k)
                      by_cases hc50 : (own_get vs_a0 (((p1 + (1 : Int32)) + (1 : Int32)) + (1 : Int32))) = v6
                      · have pre51 : ∀ t, Steps p.tables e below (s₁.setTop (mkF m 43 #[.val (.ref a0), .val (.int p1), .val (.int p2), .val (.int v6), .val (.int ((((p1 + (1 : Int32)) + (1 : Int32)) + (1 : Int32)) + (1 : Int32))), .unset] [(.int p2), (.int ((((p1 + (1 : Int32)) + (1 : Int32)) + (1 : Int32)) + (1 : Int32)))])) t → Steps p.tables e below (s₁.setTop (entryFrame m #[(.ref a0), (.int p1), (.int p2)] 6)) t := fun t k => pre49 t (by
                          show Steps p.tables e below (s₁.setTop (mkF m 51 #[.val (.ref a0), .val (.int p1), .val (.int p2), .val (.int v6), .val (.int (((p1 + (1 : Int32)) + (1 : Int32)) + (1 : Int32))), .unset] [(.int v6), (.int (own_get vs_a0 (((p1 + (1 : Int32)) + (1 : Int32)) + (1 : Int32))))])) _
                          refine XS.icmpNo X0.here hx rfl (hb hby d2_51) rfl (teq hc50).2 ?_
                          show Steps p.tables e below (s₁.setTop (mkF m 54 #[.val (.ref a0), .val (.int p1), .val (.int p2), .val (.int v6), .val (.int (((p1 + (1 : Int32)) + (1 : Int32)) + (1 : Int32))), .unset] [])) _
                          refine XS.iinc X0.here hx rfl (hb hby d2_54) rfl (l' := #[.val (.ref a0), .val (.int p1), .val (.int p2), .val (.int v6), .val (.int ((((p1 + (1 : Int32)) + (1 : Int32)) + (1 : Int32)) + (1 : Int32))), .unset]) rfl ?_
                          show Steps p.tables e below (s₁.setTop (mkF m 57 #[.val (.ref a0), .val (.int p1), .val (.int p2), .val (.int v6), .val (.int ((((p1 + (1 : Int32)) + (1 : Int32)) + (1 : Int32)) + (1 : Int32))), .unset] [])) _
                          refine XS.goto X0.here hx rfl (pc0 := 57) (pc' := 40) rfl (hb hby d2_57) (by decide) (by decide) ?_
                          show Steps p.tables e below (s₁.setTop (mkF m 40 #[.val (.ref a0), .val (.int p1), .val (.int p2), .val (.int v6), .val (.int ((((p1 + (1 : Int32)) + (1 : Int32)) + (1 : Int32)) + (1 : Int32))), .unset] [])) _
                          refine XS.iload X0.here hx rfl (hb hby d2_40) rfl ?_
                          show Steps p.tables e below (s₁.setTop (mkF m 42 #[.val (.ref a0), .val (.int p1), .val (.int p2), .val (.int v6), .val (.int ((((p1 + (1 : Int32)) + (1 : Int32)) + (1 : Int32)) + (1 : Int32))), .unset] [(.int ((((p1 + (1 : Int32)) + (1 : Int32)) + (1 : Int32)) + (1 : Int32)))])) _
                          refine XS.iloadN X0.here hx rfl (hb hby d2_42) rfl ?_
                          exact k)
                        by_cases hc52 : ((((p1 + (1 : Int32)) + (1 : Int32)) + (1 : Int32)) + (1 : Int32)) < p2
                        · have pre53 : ∀ t, Steps p.tables e below (s₁.setTop (mkF m 49 #[.val (.ref a0), .val (.int p1), .val (.int p2), .val (.int v6), .val (.int ((((p1 + (1 : Int32)) + (1 : Int32)) + (1 : Int32)) + (1 : Int32))), .unset] [(.int ((((p1 + (1 : Int32)) + (1 : Int32)) + (1 : Int32)) + (1 : Int32))), (.ref a0)])) t → Steps p.tables e below (s₁.setTop (entryFrame m #[(.ref a0), (.int p1), (.int p2)] 6)) t := fun t k => pre51 t (by
                            show Steps p.tables e below (s₁.setTop (mkF m 43 #[.val (.ref a0), .val (.int p1), .val (.int p2), .val (.int v6), .val (.int ((((p1 + (1 : Int32)) + (1 : Int32)) + (1 : Int32)) + (1 : Int32))), .unset] [(.int p2), (.int ((((p1 + (1 : Int32)) + (1 : Int32)) + (1 : Int32)) + (1 : Int32)))])) _
                            refine XS.icmpNo X0.here hx rfl (hb hby d2_43) rfl (tlt hc52).2.1 ?_
                            show Steps p.tables e below (s₁.setTop (mkF m 46 #[.val (.ref a0), .val (.int p1), .val (.int p2), .val (.int v6), .val (.int ((((p1 + (1 : Int32)) + (1 : Int32)) + (1 : Int32)) + (1 : Int32))), .unset] [])) _
                            refine XS.aloadN X0.here hx rfl (hb hby d2_46) rfl rfl ?_
                            show Steps p.tables e below (s₁.setTop (mkF m 47 #[.val (.ref a0), .val (.int p1), .val (.int p2), .val (.int v6), .val (.int ((((p1 + (1 : Int32)) + (1 : Int32)) + (1 : Int32)) + (1 : Int32))), .unset] [(.ref a0)])) _
                            refine XS.iload X0.here hx rfl (hb hby d2_47) rfl ?_
                            exact k)
                          have kown_in2_49_5 : ¬ ((((p1 + (1 : Int32)) + (1 : Int32)) + (1 : Int32)) + (1 : Int32)) < 0 ∧ ((((p1 + (1 : Int32)) + (1 : Int32)) + (1 : Int32)) + (1 : Int32)) < (6 : Int32) := own_in2_49_5 p1 p2 vs_a0 hr v6 hv6 hc2 hg9 hc28 hc32 hc34 hc38 hc40 hc44 hc46 hc50 hc52
                          obtain ⟨cl54, Ar54, q54, S54, M54, H54, G54⟩ := id V_a0
                          have hin54 : ¬ (((((p1 + (1 : Int32)) + (1 : Int32)) + (1 : Int32)) + (1 : Int32)) < 0 ∨ cl54.slots.size ≤ (((((p1 + (1 : Int32)) + (1 : Int32)) + (1 : Int32)) + (1 : Int32))).toNatClampNeg) := inb_of S54 kown_in2_49_5
                          have hat54 : cl54.slots[(((((p1 + (1 : Int32)) + (1 : Int32)) + (1 : Int32)) + (1 : Int32))).toNatClampNeg]? = some (.int (own_get vs_a0 ((((p1 + (1 : Int32)) + (1 : Int32)) + (1 : Int32)) + (1 : Int32)))) := H54.at hin54 (own_getD vs_a0 ((((p1 + (1 : Int32)) + (1 : Int32)) + (1 : Int32)) + (1 : Int32)))
                          have pre55 : ∀ t, Steps p.tables e below (s₁.setTop (mkF m 51 #[.val (.ref a0), .val (.int p1), .val (.int p2), .val (.int v6), .val (.int ((((p1 + (1 : Int32)) + (1 : Int32)) + (1 : Int32)) + (1 : Int32))), .unset] [(.int v6), (.int (own_get vs_a0 ((((p1 + (1 : Int32)) + (1 : Int32)) + (1 : Int32)) + (1 : Int32))))])) t → Steps p.tables e below (s₁.setTop (entryFrame m #[(.ref a0), (.int p1), (.int p2)] 6)) t := fun t k => pre53 t (by
                            show Steps p.tables e below (s₁.setTop (mkF m 49 #[.val (.ref a0), .val (.int p1), .val (.int p2), .val (.int v6), .val (.int ((((p1 + (1 : Int32)) + (1 : Int32)) + (1 : Int32)) + (1 : Int32))), .unset] [(.int ((((p1 + (1 : Int32)) + (1 : Int32)) + (1 : Int32)) + (1 : Int32))), (.ref a0)])) _
                            refine X0.baloadBytes hx (j := ((((p1 + (1 : Int32)) + (1 : Int32)) + (1 : Int32)) + (1 : Int32))) (v := (.int (own_get vs_a0 ((((p1 + (1 : Int32)) + (1 : Int32)) + (1 : Int32)) + (1 : Int32))))) (by rw [e0]; exact Ar54.1) (State.isArrayOf_alike hZ.alike Ar54.2.1) Ar54.2.2 hin54 hat54 (g := (mkF m 49 #[.val (.ref a0), .val (.int p1), .val (.int p2), .val (.int v6), .val (.int ((((p1 + (1 : Int32)) + (1 : Int32)) + (1 : Int32)) + (1 : Int32))), .unset] [(.int ((((p1 + (1 : Int32)) + (1 : Int32)) + (1 : Int32)) + (1 : Int32))), (.ref a0)])) rfl rfl (hb hby d2_49) _ ?_
                            show Steps p.tables e below (s₁.setTop (mkF m 50 #[.val (.ref a0), .val (.int p1), .val (.int p2), .val (.int v6), .val (.int ((((p1 + (1 : Int32)) + (1 : Int32)) + (1 : Int32)) + (1 : Int32))), .unset] [(.int (own_get vs_a0 ((((p1 + (1 : Int32)) + (1 : Int32)) + (1 : Int32)) + (1 : Int32))))])) _
                            refine XS.iloadN X0.here hx rfl (hb hby d2_50) rfl ?_
                            exact k)
                          by_cases hc56 : (own_get vs_a0 ((((p1 + (1 : Int32)) + (1 : Int32)) + (1 : Int32)) + (1 : Int32))) = v6
                          · have pre57 : ∀ t, Steps p.tables e below (s₁.setTop (mkF m 43 #[.val (.ref a0), .val (.int p1), .val (.int p2), .val (.int v6), .val (.int (((((p1 + (1 : Int32)) + (1 : Int32)) + (1 : Int32)) + (1 : Int32)) + (1 : Int32))), .unset] [(.int p2), (.int (((((p1 + (1 : Int32)) + (1 : Int32)) + (1 : Int32)) + (1 : Int32)) + (1 : Int32)))])) t → Steps p.tables e below (s₁.setTop (entryFrame m #[(.ref a0), (.int p1), (.int p2)] 6)) t := fun t k => pre55 t (by
                              show Steps p.tables e below (s₁.setTop (mkF m 51 #[.val (.ref a0), .val (.int p1), .val (.int p2), .val (.int v6), .val (.int ((((p1 + (1 : Int32)) + (1 : Int32)) + (1 : Int32)) + (1 : Int32))), .unset] [(.int v6), (.int (own_get vs_a0 ((((p1 + (1 : Int32)) + (1 : Int32)) + (1 : Int32)) + (1 : Int32))))])) _
                              refine XS.icmpNo X0.here hx rfl (hb hby d2_51) rfl (teq hc56).2 ?_
                              show Steps p.tables e below (s₁.setTop (mkF m 54 #[.val (.ref a0), .val (.int p1), .val (.int p2), .val (.int v6), .val (.int ((((p1 + (1 : Int32)) + (1 : Int32)) + (1 : Int32)) + (1 : Int32))), .unset] [])) _
                              refine XS.iinc X0.here hx rfl (hb hby d2_54) rfl (l' := #[.val (.ref a0), .val (.int p1), .val (.int p2), .val (.int v6), .val (.int (((((p1 + (1 : Int32)) + (1 : Int32)) + (1 : Int32)) + (1 : Int32)) + (1 : Int32))), .unset]) rfl ?_
                              show Steps p.tables e below (s₁.setTop (mkF m 57 #[.val (.ref a0), .val (.int p1), .val (.int p2), .val (.int v6), .val (.int (((((p1 + (1 : Int32)) + (1 : Int32)) + (1 : Int32)) + (1 : Int32)) + (1 : Int32))), .unset] [])) _
                              refine XS.goto X0.here hx rfl (pc0 := 57) (pc' := 40) rfl (hb hby d2_57) (by decide) (by decide) ?_
                              show Steps p.tables e below (s₁.setTop (mkF m 40 #[.val (.ref a0), .val (.int p1), .val (.int p2), .val (.int v6), .val (.int (((((p1 + (1 : Int32)) + (1 : Int32)) + (1 : Int32)) + (1 : Int32)) + (1 : Int32))), .unset] [])) _
                              refine XS.iload X0.here hx rfl (hb hby d2_40) rfl ?_
                              show Steps p.tables e below (s₁.setTop (mkF m 42 #[.val (.ref a0), .val (.int p1), .val (.int p2), .val (.int v6), .val (.int (((((p1 + (1 : Int32)) + (1 : Int32)) + (1 : Int32)) + (1 : Int32)) + (1 : Int32))), .unset] [(.int (((((p1 + (1 : Int32)) + (1 : Int32)) + (1 : Int32)) + (1 : Int32)) + (1 : Int32)))])) _
                              refine XS.iloadN X0.here hx rfl (hb hby d2_42) rfl ?_
                              exact k)
                            by_cases hc58 : (((((p1 + (1 : Int32)) + (1 : Int32)) + (1 : Int32)) + (1 : Int32)) + (1 : Int32)) < p2
                            · have pre59 : ∀ t, Steps p.tables e below (s₁.setTop (mkF m 49 #[.val (.ref a0), .val (.int p1), .val (.int p2), .val (.int v6), .val (.int (((((p1 + (1 : Int32)) + (1 : Int32)) + (1 : Int32)) + (1 : Int32)) + (1 : Int32))), .unset] [(.int (((((p1 + (1 : Int32)) + (1 : Int32)) + (1 : Int32)) + (1 : Int32)) + (1 : Int32))), (.ref a0)])) t → Steps p.tables e below (s₁.setTop (entryFrame m #[(.ref a0), (.int p1), (.int p2)] 6)) t := fun t k => pre57 t (by
                                show Steps p.tables e below (s₁.setTop (mkF m 43 #[.val (.ref a0), .val (.int p1), .val (.int p2), .val (.int v6), .val (.int (((((p1 + (1 : Int32)) + (1 : Int32)) + (1 : Int32)) + (1 : Int32)) + (1 : Int32))), .unset] [(.int p2), (.int (((((p1 + (1 : Int32)) + (1 : Int32)) + (1 : Int32)) + (1 : Int32)) + (1 : Int32)))])) _
                                refine XS.icmpNo X0.here hx rfl (hb hby d2_43) rfl (tlt hc58).2.1 ?_
                                show Steps p.tables e below (s₁.setTop (mkF m 46 #[.val (.ref a0), .val (.int p1), .val (.int p2), .val (.int v6), .val (.int (((((p1 + (1 : Int32)) + (1 : Int32)) + (1 : Int32)) + (1 : Int32)) + (1 : Int32))), .unset] [])) _
                                refine XS.aloadN X0.here hx rfl (hb hby d2_46) rfl rfl ?_
                                show Steps p.tables e below (s₁.setTop (mkF m 47 #[.val (.ref a0), .val (.int p1), .val (.int p2), .val (.int v6), .val (.int (((((p1 + (1 : Int32)) + (1 : Int32)) + (1 : Int32)) + (1 : Int32)) + (1 : Int32))), .unset] [(.ref a0)])) _
                                refine XS.iload X0.here hx rfl (hb hby d2_47) rfl ?_
                                exact k)
                              have kown_in2_49_6 : ¬ (((((p1 + (1 : Int32)) + (1 : Int32)) + (1 : Int32)) + (1 : Int32)) + (1 : Int32)) < 0 ∧ (((((p1 + (1 : Int32)) + (1 : Int32)) + (1 : Int32)) + (1 : Int32)) + (1 : Int32)) < (6 : Int32) := own_in2_49_6 p1 p2 vs_a0 hr v6 hv6 hc2 hg9 hc28 hc32 hc34 hc38 hc40 hc44 hc46 hc50 hc52 hc56 hc58
                              obtain ⟨cl60, Ar60, q60, S60, M60, H60, G60⟩ := id V_a0
                              have hin60 : ¬ ((((((p1 + (1 : Int32)) + (1 : Int32)) + (1 : Int32)) + (1 : Int32)) + (1 : Int32)) < 0 ∨ cl60.slots.size ≤ ((((((p1 + (1 : Int32)) + (1 : Int32)) + (1 : Int32)) + (1 : Int32)) + (1 : Int32))).toNatClampNeg) := inb_of S60 kown_in2_49_6
                              have hat60 : cl60.slots[((((((p1 + (1 : Int32)) + (1 : Int32)) + (1 : Int32)) + (1 : Int32)) + (1 : Int32))).toNatClampNeg]? = some (.int (own_get vs_a0 (((((p1 + (1 : Int32)) + (1 : Int32)) + (1 : Int32)) + (1 : Int32)) + (1 : Int32)))) := H60.at hin60 (own_getD vs_a0 (((((p1 + (1 : Int32)) + (1 : Int32)) + (1 : Int32)) + (1 : Int32)) + (1 : Int32)))
                              have pre61 : ∀ t, Steps p.tables e below (s₁.setTop (mkF m 51 #[.val (.ref a0), .val (.int p1), .val (.int p2), .val (.int v6), .val (.int (((((p1 + (1 : Int32)) + (1 : Int32)) + (1 : Int32)) + (1 : Int32)) + (1 : Int32))), .unset] [(.int v6), (.int (own_get vs_a0 (((((p1 + (1 : Int32)) + (1 : Int32)) + (1 : Int32)) + (1 : Int32)) + (1 : Int32))))])) t → Steps p.tables e below (s₁.setTop (entryFrame m #[(.ref a0), (.int p1), (.int p2)] 6)) t := fun t k => pre59 t (by
                                show Steps p.tables e below (s₁.setTop (mkF m 49 #[.val (.ref a0), .val (.int p1), .val (.int p2), .val (.int v6), .val (.int (((((p1 + (1 : Int32)) + (1 : Int32)) + (1 : Int32)) + (1 : Int32)) + (1 : Int32))), .unset] [(.int (((((p1 + (1 : Int32)) + (1 : Int32)) + (1 : Int32)) + (1 : Int32)) + (1 : Int32))), (.ref a0)])) _
                                refine X0.baloadBytes hx (j := (((((p1 + (1 : Int32)) + (1 : Int32)) + (1 : Int32)) + (1 : Int32)) + (1 : Int32))) (v := (.int (own_get vs_a0 (((((p1 + (1 : Int32)) + (1 : Int32)) + (1 : Int32)) + (1 : Int32)) + (1 : Int32))))) (by rw [e0]; exact Ar60.1) (State.isArrayOf_alike hZ.alike Ar60.2.1) Ar60.2.2 hin60 hat60 (g := (mkF m 49 #[.val (.ref a0), .val (.int p1), .val (.int p2), .val (.int v6), .val (.int (((((p1 + (1 : Int32)) + (1 : Int32)) + (1 : Int32)) + (1 : Int32)) + (1 : Int32))), .unset] [(.int (((((p1 + (1 : Int32)) + (1 : Int32)) + (1 : Int32)) + (1 : Int32)) + (1 : Int32))), (.ref a0)])) rfl rfl (hb hby d2_49) _ ?_
                                show Steps p.tables e below (s₁.setTop (mkF m 50 #[.val (.ref a0), .val (.int p1), .val (.int p2), .val (.int v6), .val (.int (((((p1 + (1 : Int32)) + (1 : Int32)) + (1 : Int32)) + (1 : Int32)) + (1 : Int32))), .unset] [(.int (own_get vs_a0 (((((p1 + (1 : Int32)) + (1 : Int32)) + (1 : Int32)) + (1 : Int32)) + (1 : Int32))))])) _
                                refine XS.iloadN X0.here hx rfl (hb hby d2_50) rfl ?_
                                exact k)
                              by_cases hc62 : (own_get vs_a0 (((((p1 + (1 : Int32)) + (1 : Int32)) + (1 : Int32)) + (1 : Int32)) + (1 : Int32))) = v6
                              · have kown_end : ¬ (((((((p1 + (1 : Int32)) + (1 : Int32)) + (1 : Int32)) + (1 : Int32)) + (1 : Int32)) + (1 : Int32)) < p2) := own_end p1 p2 vs_a0 hr v6 hv6 hc2 hg9 hc28 hc32 hc34 hc38 hc40 hc44 hc46 hc50 hc52 hc56 hc58 hc62
                                exact ⟨((((((p1 + (1 : Int32)) + (1 : Int32)) + (1 : Int32)) + (1 : Int32)) + (1 : Int32)) + (1 : Int32)), (by rw [if_pos hc28, if_pos hc32, if_pos hc34, if_pos hc38, if_pos hc40, if_pos hc44, if_pos hc46, if_pos hc50, if_pos hc52, if_pos hc56, if_pos hc58, if_pos hc62]), fun t k => pre61 t (by
                                  show Steps p.tables e below (s₁.setTop (mkF m 51 #[.val (.ref a0), .val (.int p1), .val (.int p2), .val (.int v6), .val (.int (((((p1 + (1 : Int32)) + (1 : Int32)) + (1 : Int32)) + (1 : Int32)) + (1 : Int32))), .unset] [(.int v6), (.int (own_get vs_a0 (((((p1 + (1 : Int32)) + (1 : Int32)) + (1 : Int32)) + (1 : Int32)) + (1 : Int32))))])) _
                                  refine XS.icmpNo X0.here hx rfl (hb hby d2_51) rfl (teq hc62).2 ?_
                                  show Steps p.tables e below (s₁.setTop (mkF m 54 #[.val (.ref a0), .val (.int p1), .val (.int p2), .val (.int v6), .val (.int (((((p1 + (1 : Int32)) + (1 : Int32)) + (1 : Int32)) + (1 : Int32)) + (1 : Int32))), .unset] [])) _
                                  refine XS.iinc X0.here hx rfl (hb hby d2_54) rfl (l' := #[.val (.ref a0), .val (.int p1), .val (.int p2), .val (.int v6), .val (.int ((((((p1 + (1 : Int32)) + (1 : Int32)) + (1 : Int32)) + (1 : Int32)) + (1 : Int32)) + (1 : Int32))), .unset]) rfl ?_
                                  show Steps p.tables e below (s₁.setTop (mkF m 57 #[.val (.ref a0), .val (.int p1), .val (.int p2), .val (.int v6), .val (.int ((((((p1 + (1 : Int32)) + (1 : Int32)) + (1 : Int32)) + (1 : Int32)) + (1 : Int32)) + (1 : Int32))), .unset] [])) _
                                  refine XS.goto X0.here hx rfl (pc0 := 57) (pc' := 40) rfl (hb hby d2_57) (by decide) (by decide) ?_
                                  show Steps p.tables e below (s₁.setTop (mkF m 40 #[.val (.ref a0), .val (.int p1), .val (.int p2), .val (.int v6), .val (.int ((((((p1 + (1 : Int32)) + (1 : Int32)) + (1 : Int32)) + (1 : Int32)) + (1 : Int32)) + (1 : Int32))), .unset] [])) _
                                  refine XS.iload X0.here hx rfl (hb hby d2_40) rfl ?_
                                  show Steps p.tables e below (s₁.setTop (mkF m 42 #[.val (.ref a0), .val (.int p1), .val (.int p2), .val (.int v6), .val (.int ((((((p1 + (1 : Int32)) + (1 : Int32)) + (1 : Int32)) + (1 : Int32)) + (1 : Int32)) + (1 : Int32))), .unset] [(.int ((((((p1 + (1 : Int32)) + (1 : Int32)) + (1 : Int32)) + (1 : Int32)) + (1 : Int32)) + (1 : Int32)))])) _
                                  refine XS.iloadN X0.here hx rfl (hb hby d2_42) rfl ?_
                                  show Steps p.tables e below (s₁.setTop (mkF m 43 #[.val (.ref a0), .val (.int p1), .val (.int p2), .val (.int v6), .val (.int ((((((p1 + (1 : Int32)) + (1 : Int32)) + (1 : Int32)) + (1 : Int32)) + (1 : Int32)) + (1 : Int32))), .unset] [(.int p2), (.int ((((((p1 + (1 : Int32)) + (1 : Int32)) + (1 : Int32)) + (1 : Int32)) + (1 : Int32)) + (1 : Int32)))])) _
                                  refine XS.icmpYes X0.here hx rfl (pc0 := 43) (pc' := 60) rfl (hb hby d2_43) rfl (flt (kown_end : ¬ (((((((p1 + (1 : Int32)) + (1 : Int32)) + (1 : Int32)) + (1 : Int32)) + (1 : Int32)) + (1 : Int32)) < p2))).2.1 (by decide) (by decide) ?_
                                  exact k)⟩
                              · exact ⟨(((((p1 + (1 : Int32)) + (1 : Int32)) + (1 : Int32)) + (1 : Int32)) + (1 : Int32)), (by rw [if_pos hc28, if_pos hc32, if_pos hc34, if_pos hc38, if_pos hc40, if_pos hc44, if_pos hc46, if_pos hc50, if_pos hc52, if_pos hc56, if_pos hc58, if_neg hc62]), fun t k => pre61 t (by
                                  show Steps p.tables e below (s₁.setTop (mkF m 51 #[.val (.ref a0), .val (.int p1), .val (.int p2), .val (.int v6), .val (.int (((((p1 + (1 : Int32)) + (1 : Int32)) + (1 : Int32)) + (1 : Int32)) + (1 : Int32))), .unset] [(.int v6), (.int (own_get vs_a0 (((((p1 + (1 : Int32)) + (1 : Int32)) + (1 : Int32)) + (1 : Int32)) + (1 : Int32))))])) _
                                  refine XS.icmpYes X0.here hx rfl (pc0 := 51) (pc' := 60) rfl (hb hby d2_51) rfl (feq hc62).2 (by decide) (by decide) ?_
                                  exact k)⟩
                            · exact ⟨(((((p1 + (1 : Int32)) + (1 : Int32)) + (1 : Int32)) + (1 : Int32)) + (1 : Int32)), (by rw [if_pos hc28, if_pos hc32, if_pos hc34, if_pos hc38, if_pos hc40, if_pos hc44, if_pos hc46, if_pos hc50, if_pos hc52, if_pos hc56, if_neg hc58]), fun t k => pre57 t (by
                                show Steps p.tables e below (s₁.setTop (mkF m 43 #[.val (.ref a0), .val (.int p1), .val (.int p2), .val (.int v6), .val (.int (((((p1 + (1 : Int32)) + (1 : Int32)) + (1 : Int32)) + (1 : Int32)) + (1 : Int32))), .unset] [(.int p2), (.int (((((p1 + (1 : Int32)) + (1 : Int32)) + (1 : Int32)) + (1 : Int32)) + (1 : Int32)))])) _
                                refine XS.icmpYes X0.here hx rfl (pc0 := 43) (pc' := 60) rfl (hb hby d2_43) rfl (flt hc58).2.1 (by decide) (by decide) ?_
                                exact k)⟩
                          · exact ⟨((((p1 + (1 : Int32)) + (1 : Int32)) + (1 : Int32)) + (1 : Int32)), (by rw [if_pos hc28, if_pos hc32, if_pos hc34, if_pos hc38, if_pos hc40, if_pos hc44, if_pos hc46, if_pos hc50, if_pos hc52, if_neg hc56]), fun t k => pre55 t (by
                              show Steps p.tables e below (s₁.setTop (mkF m 51 #[.val (.ref a0), .val (.int p1), .val (.int p2), .val (.int v6), .val (.int ((((p1 + (1 : Int32)) + (1 : Int32)) + (1 : Int32)) + (1 : Int32))), .unset] [(.int v6), (.int (own_get vs_a0 ((((p1 + (1 : Int32)) + (1 : Int32)) + (1 : Int32)) + (1 : Int32))))])) _
                              refine XS.icmpYes X0.here hx rfl (pc0 := 51) (pc' := 60) rfl (hb hby d2_51) rfl (feq hc56).2 (by decide) (by decide) ?_
                              exact k)⟩
                        · exact ⟨((((p1 + (1 : Int32)) + (1 : Int32)) + (1 : Int32)) + (1 : Int32)), (by rw [if_pos hc28, if_pos hc32, if_pos hc34, if_pos hc38, if_pos hc40, if_pos hc44, if_pos hc46, if_pos hc50, if_neg hc52]), fun t k => pre51 t (by
                            show Steps p.tables e below (s₁.setTop (mkF m 43 #[.val (.ref a0), .val (.int p1), .val (.int p2), .val (.int v6), .val (.int ((((p1 + (1 : Int32)) + (1 : Int32)) + (1 : Int32)) + (1 : Int32))), .unset] [(.int p2), (.int ((((p1 + (1 : Int32)) + (1 : Int32)) + (1 : Int32)) + (1 : Int32)))])) _
                            refine XS.icmpYes X0.here hx rfl (pc0 := 43) (pc' := 60) rfl (hb hby d2_43) rfl (flt hc52).2.1 (by decide) (by decide) ?_
                            exact k)⟩
                      · exact ⟨(((p1 + (1 : Int32)) + (1 : Int32)) + (1 : Int32)), (by rw [if_pos hc28, if_pos hc32, if_pos hc34, if_pos hc38, if_pos hc40, if_pos hc44, if_pos hc46, if_neg hc50]), fun t k => pre49 t (by
                          show Steps p.tables e below (s₁.setTop (mkF m 51 #[.val (.ref a0), .val (.int p1), .val (.int p2), .val (.int v6), .val (.int (((p1 + (1 : Int32)) + (1 : Int32)) + (1 : Int32))), .unset] [(.int v6), (.int (own_get vs_a0 (((p1 + (1 : Int32)) + (1 : Int32)) + (1 : Int32))))])) _
                          refine XS.icmpYes X0.here hx rfl (pc0 := 51) (pc' := 60) rfl (hb hby d2_51) rfl (feq hc50).2 (by decide) (by decide) ?_
                          exact k)⟩
                    · exact ⟨(((p1 + (1 : Int32)) + (1 : Int32)) + (1 : Int32)), (by rw [if_pos hc28, if_pos hc32, if_pos hc34, if_pos hc38, if_pos hc40, if_pos hc44, if_neg hc46]), fun t k => pre45 t (by
                        show Steps p.tables e below (s₁.setTop (mkF m 43 #[.val (.ref a0), .val (.int p1), .val (.int p2), .val (.int v6), .val (.int (((p1 + (1 : Int32)) + (1 : Int32)) + (1 : Int32))), .unset] [(.int p2), (.int (((p1 + (1 : Int32)) + (1 : Int32)) + (1 : Int32)))])) _
                        refine XS.icmpYes X0.here hx rfl (pc0 := 43) (pc' := 60) rfl (hb hby d2_43) rfl (flt hc46).2.1 (by decide) (by decide) ?_
                        exact k)⟩
                  · exact ⟨((p1 + (1 : Int32)) + (1 : Int32)), (by rw [if_pos hc28, if_pos hc32, if_pos hc34, if_pos hc38, if_pos hc40, if_neg hc44]), fun t k => pre43 t (by
                      show Steps p.tables e below (s₁.setTop (mkF m 51 #[.val (.ref a0), .val (.int p1), .val (.int p2), .val (.int v6), .val (.int ((p1 + (1 : Int32)) + (1 : Int32))), .unset] [(.int v6), (.int (own_get vs_a0 ((p1 + (1 : Int32)) + (1 : Int32))))])) _
                      refine XS.icmpYes X0.here hx rfl (pc0 := 51) (pc' := 60) rfl (hb hby d2_51) rfl (feq hc44).2 (by decide) (by decide) ?_
                      exact k)⟩
                · exact ⟨((p1 + (1 : Int32)) + (1 : Int32)), (by rw [if_pos hc28, if_pos hc32, if_pos hc34, if_pos hc38, if_neg hc40]), fun t k => pre39 t (by
                    show Steps p.tables e below (s₁.setTop (mkF m 43 #[.val (.ref a0), .val (.int p1), .val (.int p2), .val (.int v6), .val (.int ((p1 + (1 : Int32)) + (1 : Int32))), .unset] [(.int p2), (.int ((p1 + (1 : Int32)) + (1 : Int32)))])) _
                    refine XS.icmpYes X0.here hx rfl (pc0 := 43) (pc' := 60) rfl (hb hby d2_43) rfl (flt hc40).2.1 (by decide) (by decide) ?_
                    exact k)⟩
              · exact ⟨(p1 + (1 : Int32)), (by rw [if_pos hc28, if_pos hc32, if_pos hc34, if_neg hc38]), fun t k => pre37 t (by
                  show Steps p.tables e below (s₁.setTop (mkF m 51 #[.val (.ref a0), .val (.int p1), .val (.int p2), .val (.int v6), .val (.int (p1 + (1 : Int32))), .unset] [(.int v6), (.int (own_get vs_a0 (p1 + (1 : Int32))))])) _
                  refine XS.icmpYes X0.here hx rfl (pc0 := 51) (pc' := 60) rfl (hb hby d2_51) rfl (feq hc38).2 (by decide) (by decide) ?_
                  exact k)⟩
            · exact ⟨(p1 + (1 : Int32)), (by rw [if_pos hc28, if_pos hc32, if_neg hc34]), fun t k => pre33 t (by
                show Steps p.tables e below (s₁.setTop (mkF m 43 #[.val (.ref a0), .val (.int p1), .val (.int p2), .val (.int v6), .val (.int (p1 + (1 : Int32))), .unset] [(.int p2), (.int (p1 + (1 : Int32)))])) _
                refine XS.icmpYes X0.here hx rfl (pc0 := 43) (pc' := 60) rfl (hb hby d2_43) rfl (flt hc34).2.1 (by decide) (by decide) ?_
                exact k)⟩
          · exact ⟨p1, (by rw [if_pos hc28, if_neg hc32]), fun t k => pre31 t (by
              show Steps p.tables e below (s₁.setTop (mkF m 51 #[.val (.ref a0), .val (.int p1), .val (.int p2), .val (.int v6), .val (.int p1), .unset] [(.int v6), (.int (own_get vs_a0 p1))])) _
              refine XS.icmpYes X0.here hx rfl (pc0 := 51) (pc' := 60) rfl (hb hby d2_51) rfl (feq hc32).2 (by decide) (by decide) ?_
              exact k)⟩
        · exact ⟨p1, (by rw [if_neg hc28]), fun t k => pre27 t (by
            show Steps p.tables e below (s₁.setTop (mkF m 43 #[.val (.ref a0), .val (.int p1), .val (.int p2), .val (.int v6), .val (.int p1), .unset] [(.int p2), (.int p1)])) _
            refine XS.icmpYes X0.here hx rfl (pc0 := 43) (pc' := 60) rfl (hb hby d2_43) rfl (flt hc28).2.1 (by decide) (by decide) ?_
            exact k)⟩
      have kown_rng60 : p1.toInt ≤ j63.toInt ∧ j63.toInt ≤ p2.toInt := own_rng60 p1 p2 vs_a0 hr v6 hv6 j63 hj63 hc2 hg9
      have pre65 : ∀ t, Steps p.tables e below (s₁.setTop (mkF m 63 #[.val (.ref a0), .val (.int p1), .val (.int p2), .val (.int v6), .val (.int j63), .unset] [(.int p2), (.int j63)])) t → Steps p.tables e below (s₁.setTop (entryFrame m #[(.ref a0), (.int p1), (.int p2)] 6)) t := fun t k => pre64 t (by
        show Steps p.tables e below (s₁.setTop (mkF m 60 #[.val (.ref a0), .val (.int p1), .val (.int p2), .val (.int v6), .val (.int j63), .unset] [])) _
        refine XS.iload X0.here hx rfl (hb hby d2_60) rfl ?_
        show Steps p.tables e below (s₁.setTop (mkF m 62 #[.val (.ref a0), .val (.int p1), .val (.int p2), .val (.int v6), .val (.int j63), .unset] [(.int j63)])) _
        refine XS.iloadN X0.here hx rfl (hb hby d2_62) rfl ?_
        exact k)
      obtain ⟨j85, hj85, pre86⟩ : ∃ (j85 : Int32), j85 = (if j63 = p2 then (1 : Int32) else (if (own_get vs_a0 j63) = (32 : Int32) then (1 : Int32) else (if (own_get vs_a0 j63) = (10 : Int32) then (1 : Int32) else (if (own_get vs_a0 j63) = (13 : Int32) then (if (j63 + (2 : Int32)) = p2 then (if (own_get vs_a0 (j63 + (1 : Int32))) = (10 : Int32) then (1 : Int32) else (0 : Int32)) else (0 : Int32)) else (0 : Int32))))) ∧ ∀ t, Steps p.tables e below (s₁.setTop (mkF m 117 #[.val (.ref a0), .val (.int p1), .val (.int p2), .val (.int v6), .val (.int j63), .unset] [(.int j85)])) t → Steps p.tables e below (s₁.setTop (entryFrame m #[(.ref a0), (.int p1), (.int p2)] 6)) t := by
        by_cases hc66 : j63 = p2
        · exact ⟨(1 : Int32), (by rw [if_pos hc66]), fun t k => pre65 t (by
            show Steps p.tables e below (s₁.setTop (mkF m 63 #[.val (.ref a0), .val (.int p1), .val (.int p2), .val (.int v6), .val (.int j63), .unset] [(.int p2), (.int j63)])) _
            refine XS.icmpYes X0.here hx rfl (pc0 := 63) (pc' := 112) rfl (hb hby d2_63) rfl (teq hc66).1 (by decide) (by decide) ?_
            show Steps p.tables e below (s₁.setTop (mkF m 112 #[.val (.ref a0), .val (.int p1), .val (.int p2), .val (.int v6), .val (.int j63), .unset] [])) _
            refine XS.iconst X0.here hx rfl (hb hby d2_112) ?_
            show Steps p.tables e below (s₁.setTop (mkF m 113 #[.val (.ref a0), .val (.int p1), .val (.int p2), .val (.int v6), .val (.int j63), .unset] [(.int (1 : Int32))])) _
            refine XS.goto X0.here hx rfl (pc0 := 113) (pc' := 117) rfl (hb hby d2_113) (by decide) (by decide) ?_
            exact k)⟩
        · have pre67 : ∀ t, Steps p.tables e below (s₁.setTop (mkF m 69 #[.val (.ref a0), .val (.int p1), .val (.int p2), .val (.int v6), .val (.int j63), .unset] [(.int j63), (.ref a0)])) t → Steps p.tables e below (s₁.setTop (entryFrame m #[(.ref a0), (.int p1), (.int p2)] 6)) t := fun t k => pre65 t (by
            show Steps p.tables e below (s₁.setTop (mkF m 63 #[.val (.ref a0), .val (.int p1), .val (.int p2), .val (.int v6), .val (.int j63), .unset] [(.int p2), (.int j63)])) _
            refine XS.icmpNo X0.here hx rfl (hb hby d2_63) rfl (feq hc66).1 ?_
            show Steps p.tables e below (s₁.setTop (mkF m 66 #[.val (.ref a0), .val (.int p1), .val (.int p2), .val (.int v6), .val (.int j63), .unset] [])) _
            refine XS.aloadN X0.here hx rfl (hb hby d2_66) rfl rfl ?_
            show Steps p.tables e below (s₁.setTop (mkF m 67 #[.val (.ref a0), .val (.int p1), .val (.int p2), .val (.int v6), .val (.int j63), .unset] [(.ref a0)])) _
            refine XS.iload X0.here hx rfl (hb hby d2_67) rfl ?_
            exact k)
          have kown_in2_69_1 : ¬ j63 < 0 ∧ j63 < (6 : Int32) := own_in2_69_1 p1 p2 vs_a0 hr v6 hv6 j63 hj63 hc2 hg9 hc66 kown_rng60
          obtain ⟨cl68, Ar68, q68, S68, M68, H68, G68⟩ := id V_a0
          have hin68 : ¬ (j63 < 0 ∨ cl68.slots.size ≤ (j63).toNatClampNeg) := inb_of S68 kown_in2_69_1
          have hat68 : cl68.slots[(j63).toNatClampNeg]? = some (.int (own_get vs_a0 j63)) := H68.at hin68 (own_getD vs_a0 j63)
          have pre69 : ∀ t, Steps p.tables e below (s₁.setTop (mkF m 72 #[.val (.ref a0), .val (.int p1), .val (.int p2), .val (.int v6), .val (.int j63), .unset] [(.int (32 : Int32)), (.int (own_get vs_a0 j63))])) t → Steps p.tables e below (s₁.setTop (entryFrame m #[(.ref a0), (.int p1), (.int p2)] 6)) t := fun t k => pre67 t (by
            show Steps p.tables e below (s₁.setTop (mkF m 69 #[.val (.ref a0), .val (.int p1), .val (.int p2), .val (.int v6), .val (.int j63), .unset] [(.int j63), (.ref a0)])) _
            refine X0.baloadBytes hx (j := j63) (v := (.int (own_get vs_a0 j63))) (by rw [e0]; exact Ar68.1) (State.isArrayOf_alike hZ.alike Ar68.2.1) Ar68.2.2 hin68 hat68 (g := (mkF m 69 #[.val (.ref a0), .val (.int p1), .val (.int p2), .val (.int v6), .val (.int j63), .unset] [(.int j63), (.ref a0)])) rfl rfl (hb hby d2_69) _ ?_
            show Steps p.tables e below (s₁.setTop (mkF m 70 #[.val (.ref a0), .val (.int p1), .val (.int p2), .val (.int v6), .val (.int j63), .unset] [(.int (own_get vs_a0 j63))])) _
            refine XS.bipush X0.here hx rfl (hb hby d2_70) ?_
            exact k)
          by_cases hc70 : (own_get vs_a0 j63) = (32 : Int32)
          · exact ⟨(1 : Int32), (by rw [if_neg hc66, if_pos hc70]), fun t k => pre69 t (by
              show Steps p.tables e below (s₁.setTop (mkF m 72 #[.val (.ref a0), .val (.int p1), .val (.int p2), .val (.int v6), .val (.int j63), .unset] [(.int (32 : Int32)), (.int (own_get vs_a0 j63))])) _
              refine XS.icmpYes X0.here hx rfl (pc0 := 72) (pc' := 112) rfl (hb hby d2_72) rfl (teq hc70).1 (by decide) (by decide) ?_
              show Steps p.tables e below (s₁.setTop (mkF m 112 #[.val (.ref a0), .val (.int p1), .val (.int p2), .val (.int v6), .val (.int j63), .unset] [])) _
              refine XS.iconst X0.here hx rfl (hb hby d2_112) ?_
              show Steps p.tables e below (s₁.setTop (mkF m 113 #[.val (.ref a0), .val (.int p1), .val (.int p2), .val (.int v6), .val (.int j63), .unset] [(.int (1 : Int32))])) _
              refine XS.goto X0.here hx rfl (pc0 := 113) (pc' := 117) rfl (hb hby d2_113) (by decide) (by decide) ?_
              exact k)⟩
          · have pre71 : ∀ t, Steps p.tables e below (s₁.setTop (mkF m 78 #[.val (.ref a0), .val (.int p1), .val (.int p2), .val (.int v6), .val (.int j63), .unset] [(.int j63), (.ref a0)])) t → Steps p.tables e below (s₁.setTop (entryFrame m #[(.ref a0), (.int p1), (.int p2)] 6)) t := fun t k => pre69 t (by
              show Steps p.tables e below (s₁.setTop (mkF m 72 #[.val (.ref a0), .val (.int p1), .val (.int p2), .val (.int v6), .val (.int j63), .unset] [(.int (32 : Int32)), (.int (own_get vs_a0 j63))])) _
              refine XS.icmpNo X0.here hx rfl (hb hby d2_72) rfl (feq hc70).1 ?_
              show Steps p.tables e below (s₁.setTop (mkF m 75 #[.val (.ref a0), .val (.int p1), .val (.int p2), .val (.int v6), .val (.int j63), .unset] [])) _
              refine XS.aloadN X0.here hx rfl (hb hby d2_75) rfl rfl ?_
              show Steps p.tables e below (s₁.setTop (mkF m 76 #[.val (.ref a0), .val (.int p1), .val (.int p2), .val (.int v6), .val (.int j63), .unset] [(.ref a0)])) _
              refine XS.iload X0.here hx rfl (hb hby d2_76) rfl ?_
              exact k)
            have kown_in2_78_1 : ¬ j63 < 0 ∧ j63 < (6 : Int32) := own_in2_78_1 p1 p2 vs_a0 hr v6 hv6 j63 hj63 hc2 hg9 hc66 hc70 kown_rng60
            obtain ⟨cl72, Ar72, q72, S72, M72, H72, G72⟩ := id V_a0
            have hin72 : ¬ (j63 < 0 ∨ cl72.slots.size ≤ (j63).toNatClampNeg) := inb_of S72 kown_in2_78_1
            have hat72 : cl72.slots[(j63).toNatClampNeg]? = some (.int (own_get vs_a0 j63)) := H72.at hin72 (own_getD vs_a0 j63)
            have pre73 : ∀ t, Steps p.tables e below (s₁.setTop (mkF m 81 #[.val (.ref a0), .val (.int p1), .val (.int p2), .val (.int v6), .val (.int j63), .unset] [(.int (10 : Int32)), (.int (own_get vs_a0 j63))])) t → Steps p.tables e below (s₁.setTop (entryFrame m #[(.ref a0), (.int p1), (.int p2)] 6)) t := fun t k => pre71 t (by
              show Steps p.tables e below (s₁.setTop (mkF m 78 #[.val (.ref a0), .val (.int p1), .val (.int p2), .val (.int v6), .val (.int j63), .unset] [(.int j63), (.ref a0)])) _
              refine X0.baloadBytes hx (j := j63) (v := (.int (own_get vs_a0 j63))) (by rw [e0]; exact Ar72.1) (State.isArrayOf_alike hZ.alike Ar72.2.1) Ar72.2.2 hin72 hat72 (g := (mkF m 78 #[.val (.ref a0), .val (.int p1), .val (.int p2), .val (.int v6), .val (.int j63), .unset] [(.int j63), (.ref a0)])) rfl rfl (hb hby d2_78) _ ?_
              show Steps p.tables e below (s₁.setTop (mkF m 79 #[.val (.ref a0), .val (.int p1), .val (.int p2), .val (.int v6), .val (.int j63), .unset] [(.int (own_get vs_a0 j63))])) _
              refine XS.bipush X0.here hx rfl (hb hby d2_79) ?_
              exact k)
            by_cases hc74 : (own_get vs_a0 j63) = (10 : Int32)
            · exact ⟨(1 : Int32), (by rw [if_neg hc66, if_neg hc70, if_pos hc74]), fun t k => pre73 t (by
                show Steps p.tables e below (s₁.setTop (mkF m 81 #[.val (.ref a0), .val (.int p1), .val (.int p2), .val (.int v6), .val (.int j63), .unset] [(.int (10 : Int32)), (.int (own_get vs_a0 j63))])) _
                refine XS.icmpYes X0.here hx rfl (pc0 := 81) (pc' := 112) rfl (hb hby d2_81) rfl (teq hc74).1 (by decide) (by decide) ?_
                show Steps p.tables e below (s₁.setTop (mkF m 112 #[.val (.ref a0), .val (.int p1), .val (.int p2), .val (.int v6), .val (.int j63), .unset] [])) _
                refine XS.iconst X0.here hx rfl (hb hby d2_112) ?_
                show Steps p.tables e below (s₁.setTop (mkF m 113 #[.val (.ref a0), .val (.int p1), .val (.int p2), .val (.int v6), .val (.int j63), .unset] [(.int (1 : Int32))])) _
                refine XS.goto X0.here hx rfl (pc0 := 113) (pc' := 117) rfl (hb hby d2_113) (by decide) (by decide) ?_
                exact k)⟩
            · have pre75 : ∀ t, Steps p.tables e below (s₁.setTop (mkF m 87 #[.val (.ref a0), .val (.int p1), .val (.int p2), .val (.int v6), .val (.int j63), .unset] [(.int j63), (.ref a0)])) t → Steps p.tables e below (s₁.setTop (entryFrame m #[(.ref a0), (.int p1), (.int p2)] 6)) t := fun t k => pre73 t (by
                show Steps p.tables e below (s₁.setTop (mkF m 81 #[.val (.ref a0), .val (.int p1), .val (.int p2), .val (.int v6), .val (.int j63), .unset] [(.int (10 : Int32)), (.int (own_get vs_a0 j63))])) _
                refine XS.icmpNo X0.here hx rfl (hb hby d2_81) rfl (feq hc74).1 ?_
                show Steps p.tables e below (s₁.setTop (mkF m 84 #[.val (.ref a0), .val (.int p1), .val (.int p2), .val (.int v6), .val (.int j63), .unset] [])) _
                refine XS.aloadN X0.here hx rfl (hb hby d2_84) rfl rfl ?_
                show Steps p.tables e below (s₁.setTop (mkF m 85 #[.val (.ref a0), .val (.int p1), .val (.int p2), .val (.int v6), .val (.int j63), .unset] [(.ref a0)])) _
                refine XS.iload X0.here hx rfl (hb hby d2_85) rfl ?_
                exact k)
              have kown_in2_87_1 : ¬ j63 < 0 ∧ j63 < (6 : Int32) := own_in2_87_1 p1 p2 vs_a0 hr v6 hv6 j63 hj63 hc2 hg9 hc66 hc70 hc74 kown_rng60
              obtain ⟨cl76, Ar76, q76, S76, M76, H76, G76⟩ := id V_a0
              have hin76 : ¬ (j63 < 0 ∨ cl76.slots.size ≤ (j63).toNatClampNeg) := inb_of S76 kown_in2_87_1
              have hat76 : cl76.slots[(j63).toNatClampNeg]? = some (.int (own_get vs_a0 j63)) := H76.at hin76 (own_getD vs_a0 j63)
              have pre77 : ∀ t, Steps p.tables e below (s₁.setTop (mkF m 90 #[.val (.ref a0), .val (.int p1), .val (.int p2), .val (.int v6), .val (.int j63), .unset] [(.int (13 : Int32)), (.int (own_get vs_a0 j63))])) t → Steps p.tables e below (s₁.setTop (entryFrame m #[(.ref a0), (.int p1), (.int p2)] 6)) t := fun t k => pre75 t (by
                show Steps p.tables e below (s₁.setTop (mkF m 87 #[.val (.ref a0), .val (.int p1), .val (.int p2), .val (.int v6), .val (.int j63), .unset] [(.int j63), (.ref a0)])) _
                refine X0.baloadBytes hx (j := j63) (v := (.int (own_get vs_a0 j63))) (by rw [e0]; exact Ar76.1) (State.isArrayOf_alike hZ.alike Ar76.2.1) Ar76.2.2 hin76 hat76 (g := (mkF m 87 #[.val (.ref a0), .val (.int p1), .val (.int p2), .val (.int v6), .val (.int j63), .unset] [(.int j63), (.ref a0)])) rfl rfl (hb hby d2_87) _ ?_
                show Steps p.tables e below (s₁.setTop (mkF m 88 #[.val (.ref a0), .val (.int p1), .val (.int p2), .val (.int v6), .val (.int j63), .unset] [(.int (own_get vs_a0 j63))])) _
                refine XS.bipush X0.here hx rfl (hb hby d2_88) ?_
                exact k)
              by_cases hc78 : (own_get vs_a0 j63) = (13 : Int32)
              · have pre79 : ∀ t, Steps p.tables e below (s₁.setTop (mkF m 98 #[.val (.ref a0), .val (.int p1), .val (.int p2), .val (.int v6), .val (.int j63), .unset] [(.int p2), (.int (j63 + (2 : Int32)))])) t → Steps p.tables e below (s₁.setTop (entryFrame m #[(.ref a0), (.int p1), (.int p2)] 6)) t := fun t k => pre77 t (by
                  show Steps p.tables e below (s₁.setTop (mkF m 90 #[.val (.ref a0), .val (.int p1), .val (.int p2), .val (.int v6), .val (.int j63), .unset] [(.int (13 : Int32)), (.int (own_get vs_a0 j63))])) _
                  refine XS.icmpNo X0.here hx rfl (hb hby d2_90) rfl (teq hc78).2 ?_
                  show Steps p.tables e below (s₁.setTop (mkF m 93 #[.val (.ref a0), .val (.int p1), .val (.int p2), .val (.int v6), .val (.int j63), .unset] [])) _
                  refine XS.iload X0.here hx rfl (hb hby d2_93) rfl ?_
                  show Steps p.tables e below (s₁.setTop (mkF m 95 #[.val (.ref a0), .val (.int p1), .val (.int p2), .val (.int v6), .val (.int j63), .unset] [(.int j63)])) _
                  refine XS.iconst X0.here hx rfl (hb hby d2_95) ?_
                  show Steps p.tables e below (s₁.setTop (mkF m 96 #[.val (.ref a0), .val (.int p1), .val (.int p2), .val (.int v6), .val (.int j63), .unset] [(.int (2 : Int32)), (.int j63)])) _
                  refine XS.iadd X0.here hx rfl (hb hby d2_96) rfl ?_
                  show Steps p.tables e below (s₁.setTop (mkF m 97 #[.val (.ref a0), .val (.int p1), .val (.int p2), .val (.int v6), .val (.int j63), .unset] [(.int (j63 + (2 : Int32)))])) _
                  refine XS.iloadN X0.here hx rfl (hb hby d2_97) rfl ?_
                  exact k)
                by_cases hc80 : (j63 + (2 : Int32)) = p2
                · have pre81 : ∀ t, Steps p.tables e below (s₁.setTop (mkF m 106 #[.val (.ref a0), .val (.int p1), .val (.int p2), .val (.int v6), .val (.int j63), .unset] [(.int (j63 + (1 : Int32))), (.ref a0)])) t → Steps p.tables e below (s₁.setTop (entryFrame m #[(.ref a0), (.int p1), (.int p2)] 6)) t := fun t k => pre79 t (by
                    show Steps p.tables e below (s₁.setTop (mkF m 98 #[.val (.ref a0), .val (.int p1), .val (.int p2), .val (.int v6), .val (.int j63), .unset] [(.int p2), (.int (j63 + (2 : Int32)))])) _
                    refine XS.icmpNo X0.here hx rfl (hb hby d2_98) rfl (teq hc80).2 ?_
                    show Steps p.tables e below (s₁.setTop (mkF m 101 #[.val (.ref a0), .val (.int p1), .val (.int p2), .val (.int v6), .val (.int j63), .unset] [])) _
                    refine XS.aloadN X0.here hx rfl (hb hby d2_101) rfl rfl ?_
                    show Steps p.tables e below (s₁.setTop (mkF m 102 #[.val (.ref a0), .val (.int p1), .val (.int p2), .val (.int v6), .val (.int j63), .unset] [(.ref a0)])) _
                    refine XS.iload X0.here hx rfl (hb hby d2_102) rfl ?_
                    show Steps p.tables e below (s₁.setTop (mkF m 104 #[.val (.ref a0), .val (.int p1), .val (.int p2), .val (.int v6), .val (.int j63), .unset] [(.int j63), (.ref a0)])) _
                    refine XS.iconst X0.here hx rfl (hb hby d2_104) ?_
                    show Steps p.tables e below (s₁.setTop (mkF m 105 #[.val (.ref a0), .val (.int p1), .val (.int p2), .val (.int v6), .val (.int j63), .unset] [(.int (1 : Int32)), (.int j63), (.ref a0)])) _
                    refine XS.iadd X0.here hx rfl (hb hby d2_105) rfl ?_
                    exact k)
                  have kown_in2_106_1 : ¬ (j63 + (1 : Int32)) < 0 ∧ (j63 + (1 : Int32)) < (6 : Int32) := own_in2_106_1 p1 p2 vs_a0 hr v6 hv6 j63 hj63 hc2 hg9 hc66 hc70 hc74 hc78 hc80 kown_rng60
                  obtain ⟨cl82, Ar82, q82, S82, M82, H82, G82⟩ := id V_a0
                  have hin82 : ¬ ((j63 + (1 : Int32)) < 0 ∨ cl82.slots.size ≤ ((j63 + (1 : Int32))).toNatClampNeg) := inb_of S82 kown_in2_106_1
                  have hat82 : cl82.slots[((j63 + (1 : Int32))).toNatClampNeg]? = some (.int (own_get vs_a0 (j63 + (1 : Int32)))) := H82.at hin82 (own_getD vs_a0 (j63 + (1 : Int32)))
                  have pre83 : ∀ t, Steps p.tables e below (s₁.setTop (mkF m 109 #[.val (.ref a0), .val (.int p1), .val (.int p2), .val (.int v6), .val (.int j63), .unset] [(.int (10 : Int32)), (.int (own_get vs_a0 (j63 + (1 : Int32))))])) t → Steps p.tables e below (s₁.setTop (entryFrame m #[(.ref a0), (.int p1), (.int p2)] 6)) t := fun t k => pre81 t (by
                    show Steps p.tables e below (s₁.setTop (mkF m 106 #[.val (.ref a0), .val (.int p1), .val (.int p2), .val (.int v6), .val (.int j63), .unset] [(.int (j63 + (1 : Int32))), (.ref a0)])) _
                    refine X0.baloadBytes hx (j := (j63 + (1 : Int32))) (v := (.int (own_get vs_a0 (j63 + (1 : Int32))))) (by rw [e0]; exact Ar82.1) (State.isArrayOf_alike hZ.alike Ar82.2.1) Ar82.2.2 hin82 hat82 (g := (mkF m 106 #[.val (.ref a0), .val (.int p1), .val (.int p2), .val (.int v6), .val (.int j63), .unset] [(.int (j63 + (1 : Int32))), (.ref a0)])) rfl rfl (hb hby d2_106) _ ?_
                    show Steps p.tables e below (s₁.setTop (mkF m 107 #[.val (.ref a0), .val (.int p1), .val (.int p2), .val (.int v6), .val (.int j63), .unset] [(.int (own_get vs_a0 (j63 + (1 : Int32))))])) _
                    refine XS.bipush X0.here hx rfl (hb hby d2_107) ?_
                    exact k)
                  by_cases hc84 : (own_get vs_a0 (j63 + (1 : Int32))) = (10 : Int32)
                  · exact ⟨(1 : Int32), (by rw [if_neg hc66, if_neg hc70, if_neg hc74, if_pos hc78, if_pos hc80, if_pos hc84]), fun t k => pre83 t (by
                      show Steps p.tables e below (s₁.setTop (mkF m 109 #[.val (.ref a0), .val (.int p1), .val (.int p2), .val (.int v6), .val (.int j63), .unset] [(.int (10 : Int32)), (.int (own_get vs_a0 (j63 + (1 : Int32))))])) _
                      refine XS.icmpNo X0.here hx rfl (hb hby d2_109) rfl (teq hc84).2 ?_
                      show Steps p.tables e below (s₁.setTop (mkF m 112 #[.val (.ref a0), .val (.int p1), .val (.int p2), .val (.int v6), .val (.int j63), .unset] [])) _
                      refine XS.iconst X0.here hx rfl (hb hby d2_112) ?_
                      show Steps p.tables e below (s₁.setTop (mkF m 113 #[.val (.ref a0), .val (.int p1), .val (.int p2), .val (.int v6), .val (.int j63), .unset] [(.int (1 : Int32))])) _
                      refine XS.goto X0.here hx rfl (pc0 := 113) (pc' := 117) rfl (hb hby d2_113) (by decide) (by decide) ?_
                      exact k)⟩
                  · exact ⟨(0 : Int32), (by rw [if_neg hc66, if_neg hc70, if_neg hc74, if_pos hc78, if_pos hc80, if_neg hc84]), fun t k => pre83 t (by
                      show Steps p.tables e below (s₁.setTop (mkF m 109 #[.val (.ref a0), .val (.int p1), .val (.int p2), .val (.int v6), .val (.int j63), .unset] [(.int (10 : Int32)), (.int (own_get vs_a0 (j63 + (1 : Int32))))])) _
                      refine XS.icmpYes X0.here hx rfl (pc0 := 109) (pc' := 116) rfl (hb hby d2_109) rfl (feq hc84).2 (by decide) (by decide) ?_
                      show Steps p.tables e below (s₁.setTop (mkF m 116 #[.val (.ref a0), .val (.int p1), .val (.int p2), .val (.int v6), .val (.int j63), .unset] [])) _
                      refine XS.iconst X0.here hx rfl (hb hby d2_116) ?_
                      exact k)⟩
                · exact ⟨(0 : Int32), (by rw [if_neg hc66, if_neg hc70, if_neg hc74, if_pos hc78, if_neg hc80]), fun t k => pre79 t (by
                    show Steps p.tables e below (s₁.setTop (mkF m 98 #[.val (.ref a0), .val (.int p1), .val (.int p2), .val (.int v6), .val (.int j63), .unset] [(.int p2), (.int (j63 + (2 : Int32)))])) _
                    refine XS.icmpYes X0.here hx rfl (pc0 := 98) (pc' := 116) rfl (hb hby d2_98) rfl (feq hc80).2 (by decide) (by decide) ?_
                    show Steps p.tables e below (s₁.setTop (mkF m 116 #[.val (.ref a0), .val (.int p1), .val (.int p2), .val (.int v6), .val (.int j63), .unset] [])) _
                    refine XS.iconst X0.here hx rfl (hb hby d2_116) ?_
                    exact k)⟩
              · exact ⟨(0 : Int32), (by rw [if_neg hc66, if_neg hc70, if_neg hc74, if_neg hc78]), fun t k => pre77 t (by
                  show Steps p.tables e below (s₁.setTop (mkF m 90 #[.val (.ref a0), .val (.int p1), .val (.int p2), .val (.int v6), .val (.int j63), .unset] [(.int (13 : Int32)), (.int (own_get vs_a0 j63))])) _
                  refine XS.icmpYes X0.here hx rfl (pc0 := 90) (pc' := 116) rfl (hb hby d2_90) rfl (feq hc78).2 (by decide) (by decide) ?_
                  show Steps p.tables e below (s₁.setTop (mkF m 116 #[.val (.ref a0), .val (.int p1), .val (.int p2), .val (.int v6), .val (.int j63), .unset] [])) _
                  refine XS.iconst X0.here hx rfl (hb hby d2_116) ?_
                  exact k)⟩
      have pre87 : ∀ t, Steps p.tables e below (s₁.setTop (mkF m 121 #[.val (.ref a0), .val (.int p1), .val (.int p2), .val (.int v6), .val (.int j63), .val (.int j85)] [(.int j85)])) t → Steps p.tables e below (s₁.setTop (entryFrame m #[(.ref a0), (.int p1), (.int p2)] 6)) t := fun t k => pre86 t (by
        show Steps p.tables e below (s₁.setTop (mkF m 117 #[.val (.ref a0), .val (.int p1), .val (.int p2), .val (.int v6), .val (.int j63), .unset] [(.int j85)])) _
        refine XS.istore X0.here hx rfl (hb hby d2_117) rfl (l' := #[.val (.ref a0), .val (.int p1), .val (.int p2), .val (.int v6), .val (.int j63), .val (.int j85)]) rfl ?_
        show Steps p.tables e below (s₁.setTop (mkF m 119 #[.val (.ref a0), .val (.int p1), .val (.int p2), .val (.int v6), .val (.int j63), .val (.int j85)] [])) _
        refine XS.iload X0.here hx rfl (hb hby d2_119) rfl ?_
        exact k)
      obtain ⟨j89, hj89, pre90⟩ : ∃ (j89 : Int32), j89 = (if j85 = (0 : Int32) then (0 : Int32) else (j63 - p1)) ∧ ∀ t, Steps p.tables e below (s₁.setTop (mkF m 132 #[.val (.ref a0), .val (.int p1), .val (.int p2), .val (.int v6), .val (.int j63), .val (.int j85)] [(.int j89)])) t → Steps p.tables e below (s₁.setTop (entryFrame m #[(.ref a0), (.int p1), (.int p2)] 6)) t := by
        by_cases hc88 : j85 = (0 : Int32)
        · exact ⟨(0 : Int32), (by rw [if_pos hc88]), fun t k => pre87 t (by
            show Steps p.tables e below (s₁.setTop (mkF m 121 #[.val (.ref a0), .val (.int p1), .val (.int p2), .val (.int v6), .val (.int j63), .val (.int j85)] [(.int j85)])) _
            refine XS.ifYes X0.here hx rfl (pc0 := 121) (pc' := 131) rfl (hb hby d2_121) rfl ((if0 _ _).trans (teq hc88).1) (by decide) (by decide) ?_
            show Steps p.tables e below (s₁.setTop (mkF m 131 #[.val (.ref a0), .val (.int p1), .val (.int p2), .val (.int v6), .val (.int j63), .val (.int j85)] [])) _
            refine XS.iconst X0.here hx rfl (hb hby d2_131) ?_
            exact k)⟩
        · exact ⟨(j63 - p1), (by rw [if_neg hc88]), fun t k => pre87 t (by
            show Steps p.tables e below (s₁.setTop (mkF m 121 #[.val (.ref a0), .val (.int p1), .val (.int p2), .val (.int v6), .val (.int j63), .val (.int j85)] [(.int j85)])) _
            refine XS.ifNo X0.here hx rfl (hb hby d2_121) rfl ((if0 _ _).trans (feq hc88).1) ?_
            show Steps p.tables e below (s₁.setTop (mkF m 124 #[.val (.ref a0), .val (.int p1), .val (.int p2), .val (.int v6), .val (.int j63), .val (.int j85)] [])) _
            refine XS.iload X0.here hx rfl (hb hby d2_124) rfl ?_
            show Steps p.tables e below (s₁.setTop (mkF m 126 #[.val (.ref a0), .val (.int p1), .val (.int p2), .val (.int v6), .val (.int j63), .val (.int j85)] [(.int j63)])) _
            refine XS.iloadN X0.here hx rfl (hb hby d2_126) rfl ?_
            show Steps p.tables e below (s₁.setTop (mkF m 127 #[.val (.ref a0), .val (.int p1), .val (.int p2), .val (.int v6), .val (.int j63), .val (.int j85)] [(.int p1), (.int j63)])) _
            refine XS.isub X0.here hx rfl (hb hby d2_127) rfl ?_
            show Steps p.tables e below (s₁.setTop (mkF m 128 #[.val (.ref a0), .val (.int p1), .val (.int p2), .val (.int v6), .val (.int j63), .val (.int j85)] [(.int (j63 - p1))])) _
            refine XS.goto X0.here hx rfl (pc0 := 128) (pc' := 132) rfl (hb hby d2_128) (by decide) (by decide) ?_
            exact k)⟩
      obtain ⟨fs, hr, hrun, hended, hW, hsame⟩ := X0.leave (v := some (.int j89)) (fun h => by rw [Bd.returns] at h; cases h)
      refine ⟨_, _, pre90 _ ?_, hrun, hended, _, _, rfl, ?_, ⟨_, rfl⟩, hW, hsame.mono (by decide) (by decide)⟩
      · show Steps p.tables e below (s₁.setTop (mkF m 132 #[.val (.ref a0), .val (.int p1), .val (.int p2), .val (.int v6), .val (.int j63), .val (.int j85)] [(.int j89)])) _
        exact retI X0 hx Bd.returns (hb hby d2_132) hr
      · show Q2 Z a0 p1 p2 ka_a0 vs_a0 h0 n0 _ s₁.heap _
        rw [e0]
        exact ⟨congrArg (fun z => some (Value.int z)) (by subst hj89 hj85 hj63 hv6; simp only [f2, if_neg hc2, if_pos hg9]), N0, rfl⟩
    · have pre19 : ∀ t, Steps p.tables e below (s₁.setTop (mkF m 14 #[.val (.ref a0), .val (.int p1), .val (.int p2), .val (.int v6), .unset, .unset] [(.int (60 : Int32)), (.int v6)])) t → Steps p.tables e below (s₁.setTop (entryFrame m #[(.ref a0), (.int p1), (.int p2)] 6)) t := fun t k => pre8 t (by
        show Steps p.tables e below (s₁.setTop (mkF m 11 #[.val (.ref a0), .val (.int p1), .val (.int p2), .val (.int v6), .unset, .unset] [])) _
        refine XS.iloadN X0.here hx rfl (hb hby d2_11) rfl ?_
        show Steps p.tables e below (s₁.setTop (mkF m 12 #[.val (.ref a0), .val (.int p1), .val (.int p2), .val (.int v6), .unset, .unset] [(.int v6)])) _
        refine XS.bipush X0.here hx rfl (hb hby d2_12) ?_
        exact k)
      by_cases hc20 : v6 = (60 : Int32)
      · exact (hg9 (by simp [hc20])).elim
      · have pre21 : ∀ t, Steps p.tables e below (s₁.setTop (mkF m 20 #[.val (.ref a0), .val (.int p1), .val (.int p2), .val (.int v6), .unset, .unset] [(.int (124 : Int32)), (.int v6)])) t → Steps p.tables e below (s₁.setTop (entryFrame m #[(.ref a0), (.int p1), (.int p2)] 6)) t := fun t k => pre19 t (by
          show Steps p.tables e below (s₁.setTop (mkF m 14 #[.val (.ref a0), .val (.int p1), .val (.int p2), .val (.int v6), .unset, .unset] [(.int (60 : Int32)), (.int v6)])) _
          refine XS.icmpNo X0.here hx rfl (hb hby d2_14) rfl (feq hc20).1 ?_
          show Steps p.tables e below (s₁.setTop (mkF m 17 #[.val (.ref a0), .val (.int p1), .val (.int p2), .val (.int v6), .unset, .unset] [])) _
          refine XS.iloadN X0.here hx rfl (hb hby d2_17) rfl ?_
          show Steps p.tables e below (s₁.setTop (mkF m 18 #[.val (.ref a0), .val (.int p1), .val (.int p2), .val (.int v6), .unset, .unset] [(.int v6)])) _
          refine XS.bipush X0.here hx rfl (hb hby d2_18) ?_
          exact k)
        by_cases hc22 : v6 = (124 : Int32)
        · exact (hg9 (by simp [hc20, hc22])).elim
        · have pre23 : ∀ t, Steps p.tables e below (s₁.setTop (mkF m 26 #[.val (.ref a0), .val (.int p1), .val (.int p2), .val (.int v6), .unset, .unset] [(.int (61 : Int32)), (.int v6)])) t → Steps p.tables e below (s₁.setTop (entryFrame m #[(.ref a0), (.int p1), (.int p2)] 6)) t := fun t k => pre21 t (by
            show Steps p.tables e below (s₁.setTop (mkF m 20 #[.val (.ref a0), .val (.int p1), .val (.int p2), .val (.int v6), .unset, .unset] [(.int (124 : Int32)), (.int v6)])) _
            refine XS.icmpNo X0.here hx rfl (hb hby d2_20) rfl (feq hc22).1 ?_
            show Steps p.tables e below (s₁.setTop (mkF m 23 #[.val (.ref a0), .val (.int p1), .val (.int p2), .val (.int v6), .unset, .unset] [])) _
            refine XS.iloadN X0.here hx rfl (hb hby d2_23) rfl ?_
            show Steps p.tables e below (s₁.setTop (mkF m 24 #[.val (.ref a0), .val (.int p1), .val (.int p2), .val (.int v6), .unset, .unset] [(.int v6)])) _
            refine XS.bipush X0.here hx rfl (hb hby d2_24) ?_
            exact k)
          by_cases hc24 : v6 = (61 : Int32)
          · exact (hg9 (by simp [hc20, hc22, hc24])).elim
          · have pre25 : ∀ t, Steps p.tables e below (s₁.setTop (mkF m 32 #[.val (.ref a0), .val (.int p1), .val (.int p2), .val (.int v6), .unset, .unset] [(.int (62 : Int32)), (.int v6)])) t → Steps p.tables e below (s₁.setTop (entryFrame m #[(.ref a0), (.int p1), (.int p2)] 6)) t := fun t k => pre23 t (by
              show Steps p.tables e below (s₁.setTop (mkF m 26 #[.val (.ref a0), .val (.int p1), .val (.int p2), .val (.int v6), .unset, .unset] [(.int (61 : Int32)), (.int v6)])) _
              refine XS.icmpNo X0.here hx rfl (hb hby d2_26) rfl (feq hc24).1 ?_
              show Steps p.tables e below (s₁.setTop (mkF m 29 #[.val (.ref a0), .val (.int p1), .val (.int p2), .val (.int v6), .unset, .unset] [])) _
              refine XS.iloadN X0.here hx rfl (hb hby d2_29) rfl ?_
              show Steps p.tables e below (s₁.setTop (mkF m 30 #[.val (.ref a0), .val (.int p1), .val (.int p2), .val (.int v6), .unset, .unset] [(.int v6)])) _
              refine XS.bipush X0.here hx rfl (hb hby d2_30) ?_
              exact k)
            by_cases hc26 : v6 = (62 : Int32)
            · exact (hg9 (by simp [hc20, hc22, hc24, hc26])).elim
            · obtain ⟨fs, hr, hrun, hended, hW, hsame⟩ := X0.leave (v := some (.int (0 : Int32))) (fun h => by rw [Bd.returns] at h; cases h)
              refine ⟨_, _, pre25 _ ?_, hrun, hended, _, _, rfl, ?_, ⟨_, rfl⟩, hW, hsame.mono (by decide) (by decide)⟩
              · show Steps p.tables e below (s₁.setTop (mkF m 32 #[.val (.ref a0), .val (.int p1), .val (.int p2), .val (.int v6), .unset, .unset] [(.int (62 : Int32)), (.int v6)])) _
                refine XS.icmpNo X0.here hx rfl (hb hby d2_32) rfl (feq hc26).1 ?_
                show Steps p.tables e below (s₁.setTop (mkF m 35 #[.val (.ref a0), .val (.int p1), .val (.int p2), .val (.int v6), .unset, .unset] [])) _
                refine XS.iconst X0.here hx rfl (hb hby d2_35) ?_
                show Steps p.tables e below (s₁.setTop (mkF m 36 #[.val (.ref a0), .val (.int p1), .val (.int p2), .val (.int v6), .unset, .unset] [(.int (0 : Int32))])) _
                exact retI X0 hx Bd.returns (hb hby d2_36) hr
              · show Q2 Z a0 p1 p2 ka_a0 vs_a0 h0 n0 _ s₁.heap _
                rw [e0]
                exact ⟨congrArg (fun z => some (Value.int z)) (by subst hv6; simp only [f2, if_neg hc2, if_neg hg9, if_neg hc20, if_neg hc22, if_neg hc24, if_neg hc26]), N0, rfl⟩
theorem d3_0 : decode method_3_code 0 = .ok (.iload_n 3, 1) := by decide +kernel
theorem d3_1 : decode method_3_code 1 = .ok (.iconst 1, 1) := by decide +kernel
theorem d3_2 : decode method_3_code 2 = .ok (.if_icmp .lt 10, 3) := by decide +kernel
theorem d3_12 : decode method_3_code 12 = .ok (.iconst 0, 1) := by decide +kernel
theorem d3_5 : decode method_3_code 5 = .ok (.iload_n 1, 1) := by decide +kernel
theorem d3_6 : decode method_3_code 6 = .ok (.iload_n 3, 1) := by decide +kernel
theorem d3_7 : decode method_3_code 7 = .ok (.iadd, 1) := by decide +kernel
theorem d3_8 : decode method_3_code 8 = .ok (.iload_n 2, 1) := by decide +kernel
theorem d3_9 : decode method_3_code 9 = .ok (.if_icmp .le 5, 3) := by decide +kernel
theorem d3_14 : decode method_3_code 14 = .ok (.aload_n 0, 1) := by decide +kernel
theorem d3_15 : decode method_3_code 15 = .ok (.iload_n 1, 1) := by decide +kernel
theorem d3_16 : decode method_3_code 16 = .ok (.baload, 1) := by decide +kernel
theorem d3_17 : decode method_3_code 17 = .ok (.istore 4, 2) := by decide +kernel
theorem d3_19 : decode method_3_code 19 = .ok (.iload 4, 2) := by decide +kernel
theorem pd_3 : parseMethodDescriptor "(B)Z" = some ⟨[.byte], some .boolean⟩ := by decide +kernel
theorem d3_21 : decode method_3_code 21 = .ok (.invokestatic 7, 3) := by decide +kernel
theorem d3_24 : decode method_3_code 24 = .ok (.ifCond .ne 5, 3) := by decide +kernel
theorem d3_27 : decode method_3_code 27 = .ok (.iconst 0, 1) := by decide +kernel
theorem d3_29 : decode method_3_code 29 = .ok (.iconst 1, 1) := by decide +kernel
theorem d3_30 : decode method_3_code 30 = .ok (.iload_n 3, 1) := by decide +kernel
theorem d3_31 : decode method_3_code 31 = .ok (.if_icmp .ge 15, 3) := by decide +kernel
theorem d3_34 : decode method_3_code 34 = .ok (.aload_n 0, 1) := by decide +kernel
theorem d3_35 : decode method_3_code 35 = .ok (.iload_n 1, 1) := by decide +kernel
theorem d3_36 : decode method_3_code 36 = .ok (.iconst 1, 1) := by decide +kernel
theorem d3_37 : decode method_3_code 37 = .ok (.iadd, 1) := by decide +kernel
theorem d3_38 : decode method_3_code 38 = .ok (.baload, 1) := by decide +kernel
theorem d3_39 : decode method_3_code 39 = .ok (.iload 4, 2) := by decide +kernel
theorem d3_41 : decode method_3_code 41 = .ok (.if_icmp .eq 5, 3) := by decide +kernel
theorem d3_44 : decode method_3_code 44 = .ok (.iconst 0, 1) := by decide +kernel
theorem d3_46 : decode method_3_code 46 = .ok (.iconst 2, 1) := by decide +kernel
theorem d3_47 : decode method_3_code 47 = .ok (.iload_n 3, 1) := by decide +kernel
theorem d3_48 : decode method_3_code 48 = .ok (.if_icmp .ge 15, 3) := by decide +kernel
theorem d3_51 : decode method_3_code 51 = .ok (.aload_n 0, 1) := by decide +kernel
theorem d3_52 : decode method_3_code 52 = .ok (.iload_n 1, 1) := by decide +kernel
theorem d3_53 : decode method_3_code 53 = .ok (.iconst 2, 1) := by decide +kernel
theorem d3_54 : decode method_3_code 54 = .ok (.iadd, 1) := by decide +kernel
theorem d3_55 : decode method_3_code 55 = .ok (.baload, 1) := by decide +kernel
theorem d3_56 : decode method_3_code 56 = .ok (.iload 4, 2) := by decide +kernel
theorem d3_58 : decode method_3_code 58 = .ok (.if_icmp .eq 5, 3) := by decide +kernel
theorem d3_61 : decode method_3_code 61 = .ok (.iconst 0, 1) := by decide +kernel
theorem d3_63 : decode method_3_code 63 = .ok (.iconst 3, 1) := by decide +kernel
theorem d3_64 : decode method_3_code 64 = .ok (.iload_n 3, 1) := by decide +kernel
theorem d3_65 : decode method_3_code 65 = .ok (.if_icmp .ge 15, 3) := by decide +kernel
theorem d3_68 : decode method_3_code 68 = .ok (.aload_n 0, 1) := by decide +kernel
theorem d3_69 : decode method_3_code 69 = .ok (.iload_n 1, 1) := by decide +kernel
theorem d3_70 : decode method_3_code 70 = .ok (.iconst 3, 1) := by decide +kernel
theorem d3_71 : decode method_3_code 71 = .ok (.iadd, 1) := by decide +kernel
theorem d3_72 : decode method_3_code 72 = .ok (.baload, 1) := by decide +kernel
theorem d3_73 : decode method_3_code 73 = .ok (.iload 4, 2) := by decide +kernel
theorem d3_75 : decode method_3_code 75 = .ok (.if_icmp .eq 5, 3) := by decide +kernel
theorem d3_78 : decode method_3_code 78 = .ok (.iconst 0, 1) := by decide +kernel
theorem d3_80 : decode method_3_code 80 = .ok (.iconst 4, 1) := by decide +kernel
theorem d3_81 : decode method_3_code 81 = .ok (.iload_n 3, 1) := by decide +kernel
theorem d3_82 : decode method_3_code 82 = .ok (.if_icmp .ge 15, 3) := by decide +kernel
theorem d3_85 : decode method_3_code 85 = .ok (.aload_n 0, 1) := by decide +kernel
theorem d3_86 : decode method_3_code 86 = .ok (.iload_n 1, 1) := by decide +kernel
theorem d3_87 : decode method_3_code 87 = .ok (.iconst 4, 1) := by decide +kernel
theorem d3_88 : decode method_3_code 88 = .ok (.iadd, 1) := by decide +kernel
theorem d3_89 : decode method_3_code 89 = .ok (.baload, 1) := by decide +kernel
theorem d3_90 : decode method_3_code 90 = .ok (.iload 4, 2) := by decide +kernel
theorem d3_92 : decode method_3_code 92 = .ok (.if_icmp .eq 5, 3) := by decide +kernel
theorem d3_95 : decode method_3_code 95 = .ok (.iconst 0, 1) := by decide +kernel
theorem d3_97 : decode method_3_code 97 = .ok (.iconst 5, 1) := by decide +kernel
theorem d3_98 : decode method_3_code 98 = .ok (.iload_n 3, 1) := by decide +kernel
theorem d3_99 : decode method_3_code 99 = .ok (.if_icmp .ge 15, 3) := by decide +kernel
theorem d3_102 : decode method_3_code 102 = .ok (.aload_n 0, 1) := by decide +kernel
theorem d3_103 : decode method_3_code 103 = .ok (.iload_n 1, 1) := by decide +kernel
theorem d3_104 : decode method_3_code 104 = .ok (.iconst 5, 1) := by decide +kernel
theorem d3_105 : decode method_3_code 105 = .ok (.iadd, 1) := by decide +kernel
theorem d3_106 : decode method_3_code 106 = .ok (.baload, 1) := by decide +kernel
theorem d3_107 : decode method_3_code 107 = .ok (.iload 4, 2) := by decide +kernel
theorem d3_109 : decode method_3_code 109 = .ok (.if_icmp .eq 5, 3) := by decide +kernel
theorem d3_112 : decode method_3_code 112 = .ok (.iconst 0, 1) := by decide +kernel
theorem d3_114 : decode method_3_code 114 = .ok (.iload_n 1, 1) := by decide +kernel
theorem d3_115 : decode method_3_code 115 = .ok (.iload_n 3, 1) := by decide +kernel
theorem d3_116 : decode method_3_code 116 = .ok (.iadd, 1) := by decide +kernel
theorem d3_117 : decode method_3_code 117 = .ok (.istore 5, 2) := by decide +kernel
theorem d3_119 : decode method_3_code 119 = .ok (.iload 5, 2) := by decide +kernel
theorem d3_121 : decode method_3_code 121 = .ok (.iload_n 2, 1) := by decide +kernel
theorem d3_122 : decode method_3_code 122 = .ok (.if_icmp .ne 5, 3) := by decide +kernel
theorem d3_125 : decode method_3_code 125 = .ok (.iconst 1, 1) := by decide +kernel
theorem d3_127 : decode method_3_code 127 = .ok (.aload_n 0, 1) := by decide +kernel
theorem d3_128 : decode method_3_code 128 = .ok (.iload 5, 2) := by decide +kernel
theorem d3_130 : decode method_3_code 130 = .ok (.baload, 1) := by decide +kernel
theorem d3_131 : decode method_3_code 131 = .ok (.istore 6, 2) := by decide +kernel
theorem d3_133 : decode method_3_code 133 = .ok (.iload 6, 2) := by decide +kernel
theorem d3_135 : decode method_3_code 135 = .ok (.bipush 32, 2) := by decide +kernel
theorem d3_137 : decode method_3_code 137 = .ok (.if_icmp .ne 5, 3) := by decide +kernel
theorem d3_140 : decode method_3_code 140 = .ok (.iconst 1, 1) := by decide +kernel
theorem d3_142 : decode method_3_code 142 = .ok (.iload 6, 2) := by decide +kernel
theorem d3_144 : decode method_3_code 144 = .ok (.bipush 10, 2) := by decide +kernel
theorem d3_146 : decode method_3_code 146 = .ok (.if_icmp .ne 5, 3) := by decide +kernel
theorem d3_149 : decode method_3_code 149 = .ok (.iconst 1, 1) := by decide +kernel
theorem d3_151 : decode method_3_code 151 = .ok (.iload 6, 2) := by decide +kernel
theorem d3_153 : decode method_3_code 153 = .ok (.bipush 13, 2) := by decide +kernel
theorem d3_155 : decode method_3_code 155 = .ok (.if_icmp .ne 24, 3) := by decide +kernel
theorem d3_158 : decode method_3_code 158 = .ok (.iload 5, 2) := by decide +kernel
theorem d3_160 : decode method_3_code 160 = .ok (.iconst 2, 1) := by decide +kernel
theorem d3_161 : decode method_3_code 161 = .ok (.iadd, 1) := by decide +kernel
theorem d3_162 : decode method_3_code 162 = .ok (.iload_n 2, 1) := by decide +kernel
theorem d3_163 : decode method_3_code 163 = .ok (.if_icmp .ne 16, 3) := by decide +kernel
theorem d3_166 : decode method_3_code 166 = .ok (.aload_n 0, 1) := by decide +kernel
theorem d3_167 : decode method_3_code 167 = .ok (.iload 5, 2) := by decide +kernel
theorem d3_169 : decode method_3_code 169 = .ok (.iconst 1, 1) := by decide +kernel
theorem d3_170 : decode method_3_code 170 = .ok (.iadd, 1) := by decide +kernel
theorem d3_171 : decode method_3_code 171 = .ok (.baload, 1) := by decide +kernel
theorem d3_172 : decode method_3_code 172 = .ok (.bipush 10, 2) := by decide +kernel
theorem d3_174 : decode method_3_code 174 = .ok (.if_icmp .ne 5, 3) := by decide +kernel
theorem d3_177 : decode method_3_code 177 = .ok (.iconst 1, 1) := by decide +kernel
theorem d3_179 : decode method_3_code 179 = .ok (.iconst 0, 1) := by decide +kernel
theorem ef_3 (m : MethodId) (x0 : Addr) (x1 : Int32) (x2 : Int32) (x3 : Int32) : entryFrame m #[(.ref x0), (.int x1), (.int x2), (.int x3)] 7 = mkF m 0 #[.val (.ref x0), .val (.int x1), .val (.int x2), .val (.int x3), .unset, .unset, .unset] [] := by first | (simp [entryFrame, mkF, argsToLocals, Value.category]; done) | rfl
def f3 (p1 : Int32) (p2 : Int32) (p3 : Int32) (vs_a0 : List Int32) : Int32 := (if p3 < (1 : Int32) then (0 : Int32) else (if p2 < (p1 + p3) then (0 : Int32) else (let v8 : Int32 := (own_get vs_a0 p1); (if (f4 v8) = (0 : Int32) then (0 : Int32) else (if ¬ ((1 : Int32) < p3 ∧ ¬ ((own_get vs_a0 (p1 + (1 : Int32))) = v8)) then (if ¬ ((2 : Int32) < p3 ∧ ¬ ((own_get vs_a0 (p1 + (2 : Int32))) = v8)) then (if ¬ ((3 : Int32) < p3 ∧ ¬ ((own_get vs_a0 (p1 + (3 : Int32))) = v8)) then (if ¬ ((4 : Int32) < p3 ∧ ¬ ((own_get vs_a0 (p1 + (4 : Int32))) = v8)) then (if ¬ ((5 : Int32) < p3 ∧ ¬ ((own_get vs_a0 (p1 + (5 : Int32))) = v8)) then (let v86 : Int32 := (p1 + p3); (if v86 = p2 then (1 : Int32) else (let v93 : Int32 := (own_get vs_a0 v86); (if v93 = (32 : Int32) then (1 : Int32) else (if v93 = (10 : Int32) then (1 : Int32) else (if v93 = (13 : Int32) then (if (v86 + (2 : Int32)) = p2 then (if (own_get vs_a0 (v86 + (1 : Int32))) = (10 : Int32) then (1 : Int32) else (0 : Int32)) else (0 : Int32)) else (0 : Int32))))))) else (if (5 : Int32) < p3 then (if (own_get vs_a0 (p1 + (5 : Int32))) = v8 then (0 : Int32) else (0 : Int32)) else (0 : Int32))) else (if (4 : Int32) < p3 then (if (own_get vs_a0 (p1 + (4 : Int32))) = v8 then (0 : Int32) else (0 : Int32)) else (0 : Int32))) else (if (3 : Int32) < p3 then (if (own_get vs_a0 (p1 + (3 : Int32))) = v8 then (0 : Int32) else (0 : Int32)) else (0 : Int32))) else (if (2 : Int32) < p3 then (if (own_get vs_a0 (p1 + (2 : Int32))) = v8 then (0 : Int32) else (0 : Int32)) else (0 : Int32))) else (if (1 : Int32) < p3 then (if (own_get vs_a0 (p1 + (1 : Int32))) = v8 then (0 : Int32) else (0 : Int32)) else (0 : Int32)))))))
def Q3 (Z : State) (a0 : Addr) (p1 : Int32) (p2 : Int32) (p3 : Int32) (ka_a0 : ClassId) (vs_a0 : List Int32) (h0 : Heap) (n0 : Nat) (v : Option Value) (h : Heap) (L : List Loc) : Prop := v = some (.int (f3 p1 p2 p3 vs_a0)) ∧ Fr n0 L ∧ h = h0
theorem d3_13 : decode method_3_code 13 = .ok (.ireturn, 1) := by decide +kernel
theorem d3_28 : decode method_3_code 28 = .ok (.ireturn, 1) := by decide +kernel
theorem d3_126 : decode method_3_code 126 = .ok (.ireturn, 1) := by decide +kernel
theorem d3_141 : decode method_3_code 141 = .ok (.ireturn, 1) := by decide +kernel
theorem d3_150 : decode method_3_code 150 = .ok (.ireturn, 1) := by decide +kernel
theorem d3_178 : decode method_3_code 178 = .ok (.ireturn, 1) := by decide +kernel
theorem d3_180 : decode method_3_code 180 = .ok (.ireturn, 1) := by decide +kernel
theorem d3_113 : decode method_3_code 113 = .ok (.ireturn, 1) := by decide +kernel
theorem d3_96 : decode method_3_code 96 = .ok (.ireturn, 1) := by decide +kernel
theorem d3_79 : decode method_3_code 79 = .ok (.ireturn, 1) := by decide +kernel
theorem d3_62 : decode method_3_code 62 = .ok (.ireturn, 1) := by decide +kernel
theorem d3_45 : decode method_3_code 45 = .ok (.ireturn, 1) := by decide +kernel
theorem own_in3_16_1 (p1 : Int32) (p2 : Int32) (p3 : Int32) (vs_a0 : List Int32) (hr : 0 ≤ (p1 : Int32).toInt ∧ p1.toInt ≤ p2.toInt ∧ p2.toInt ≤ 6 ∧ -100 ≤ p3.toInt ∧ p3.toInt ≤ 100) (hc2 : ¬ (p3 < (1 : Int32))) (hc4 : ¬ (p2 < (p1 + p3))) : ¬ p1 < 0 ∧ p1 < (6 : Int32) := by
  obtain ⟨r1, r2, r3, r4, r5⟩ := hr
  obtain ⟨a, ha⟩ : ∃ a : Int, p1.toInt = a := ⟨_, rfl⟩
  obtain ⟨b, hb⟩ : ∃ b : Int, p2.toInt = b := ⟨_, rfl⟩
  obtain ⟨c, hc⟩ : ∃ c : Int, p3.toInt = c := ⟨_, rfl⟩
  rw [ha] at r1 r2
  rw [hb] at r2 r3
  rw [hc] at r4 r5
  have e0 := own_addk p1 p3 c hc ha (by omega) (by omega)
  have q1 : -2147483648 ≤ a + 1 ∧ a + 1 < 2147483648 := by omega
  have q2 : -2147483648 ≤ a + 2 ∧ a + 2 < 2147483648 := by omega
  have q3 : -2147483648 ≤ a + 3 ∧ a + 3 < 2147483648 := by omega
  have q4 : -2147483648 ≤ a + 4 ∧ a + 4 < 2147483648 := by omega
  have q5 : -2147483648 ≤ a + 5 ∧ a + 5 < 2147483648 := by omega
  have a1 := own_addk p1 1 1 (by decide) ha q1.1 q1.2
  have a2 := own_addk p1 2 2 (by decide) ha q2.1 q2.2
  have a3 := own_addk p1 3 3 (by decide) ha q3.1 q3.2
  have a4 := own_addk p1 4 4 (by decide) ha q4.1 q4.2
  have a5 := own_addk p1 5 5 (by decide) ha q5.1 q5.2
  have k0 : (0 : Int32).toInt = 0 := by decide
  have k1 : (1 : Int32).toInt = 1 := by decide
  have k2 : (2 : Int32).toInt = 2 := by decide
  have k3 : (3 : Int32).toInt = 3 := by decide
  have k4 : (4 : Int32).toInt = 4 := by decide
  have k5 : (5 : Int32).toInt = 5 := by decide
  have k6 : (6 : Int32).toInt = 6 := by decide
  simp only [Int32.lt_iff_toInt_lt, ha, hb, hc, e0, a1, a2, a3, a4, a5, k0, k1, k2, k3, k4, k5, k6] at *
  omega
theorem own_in3_38_1 (p1 : Int32) (p2 : Int32) (p3 : Int32) (vs_a0 : List Int32) (hr : 0 ≤ (p1 : Int32).toInt ∧ p1.toInt ≤ p2.toInt ∧ p2.toInt ≤ 6 ∧ -100 ≤ p3.toInt ∧ p3.toInt ≤ 100) (v8 : Int32) (hv8 : v8 = (own_get vs_a0 p1)) (hc2 : ¬ (p3 < (1 : Int32))) (hc4 : ¬ (p2 < (p1 + p3))) (hc13 : ¬ ((f4 v8) = (0 : Int32))) (hc17 : (1 : Int32) < p3) : ¬ (p1 + (1 : Int32)) < 0 ∧ (p1 + (1 : Int32)) < (6 : Int32) := by
  obtain ⟨r1, r2, r3, r4, r5⟩ := hr
  obtain ⟨a, ha⟩ : ∃ a : Int, p1.toInt = a := ⟨_, rfl⟩
  obtain ⟨b, hb⟩ : ∃ b : Int, p2.toInt = b := ⟨_, rfl⟩
  obtain ⟨c, hc⟩ : ∃ c : Int, p3.toInt = c := ⟨_, rfl⟩
  rw [ha] at r1 r2
  rw [hb] at r2 r3
  rw [hc] at r4 r5
  have e0 := own_addk p1 p3 c hc ha (by omega) (by omega)
  have q1 : -2147483648 ≤ a + 1 ∧ a + 1 < 2147483648 := by omega
  have q2 : -2147483648 ≤ a + 2 ∧ a + 2 < 2147483648 := by omega
  have q3 : -2147483648 ≤ a + 3 ∧ a + 3 < 2147483648 := by omega
  have q4 : -2147483648 ≤ a + 4 ∧ a + 4 < 2147483648 := by omega
  have q5 : -2147483648 ≤ a + 5 ∧ a + 5 < 2147483648 := by omega
  have a1 := own_addk p1 1 1 (by decide) ha q1.1 q1.2
  have a2 := own_addk p1 2 2 (by decide) ha q2.1 q2.2
  have a3 := own_addk p1 3 3 (by decide) ha q3.1 q3.2
  have a4 := own_addk p1 4 4 (by decide) ha q4.1 q4.2
  have a5 := own_addk p1 5 5 (by decide) ha q5.1 q5.2
  have k0 : (0 : Int32).toInt = 0 := by decide
  have k1 : (1 : Int32).toInt = 1 := by decide
  have k2 : (2 : Int32).toInt = 2 := by decide
  have k3 : (3 : Int32).toInt = 3 := by decide
  have k4 : (4 : Int32).toInt = 4 := by decide
  have k5 : (5 : Int32).toInt = 5 := by decide
  have k6 : (6 : Int32).toInt = 6 := by decide
  simp only [Int32.lt_iff_toInt_lt, ha, hb, hc, e0, a1, a2, a3, a4, a5, k0, k1, k2, k3, k4, k5, k6] at *
  omega
theorem own_in3_38_2 (p1 : Int32) (p2 : Int32) (p3 : Int32) (vs_a0 : List Int32) (hr : 0 ≤ (p1 : Int32).toInt ∧ p1.toInt ≤ p2.toInt ∧ p2.toInt ≤ 6 ∧ -100 ≤ p3.toInt ∧ p3.toInt ≤ 100) (v8 : Int32) (hv8 : v8 = (own_get vs_a0 p1)) (hc2 : ¬ (p3 < (1 : Int32))) (hc4 : ¬ (p2 < (p1 + p3))) (hc13 : ¬ ((f4 v8) = (0 : Int32))) (hg15 : ¬ (¬ ((1 : Int32) < p3 ∧ ¬ ((own_get vs_a0 (p1 + (1 : Int32))) = v8)))) (hc24 : (1 : Int32) < p3) : ¬ (p1 + (1 : Int32)) < 0 ∧ (p1 + (1 : Int32)) < (6 : Int32) := by
  obtain ⟨r1, r2, r3, r4, r5⟩ := hr
  obtain ⟨a, ha⟩ : ∃ a : Int, p1.toInt = a := ⟨_, rfl⟩
  obtain ⟨b, hb⟩ : ∃ b : Int, p2.toInt = b := ⟨_, rfl⟩
  obtain ⟨c, hc⟩ : ∃ c : Int, p3.toInt = c := ⟨_, rfl⟩
  rw [ha] at r1 r2
  rw [hb] at r2 r3
  rw [hc] at r4 r5
  have e0 := own_addk p1 p3 c hc ha (by omega) (by omega)
  have q1 : -2147483648 ≤ a + 1 ∧ a + 1 < 2147483648 := by omega
  have q2 : -2147483648 ≤ a + 2 ∧ a + 2 < 2147483648 := by omega
  have q3 : -2147483648 ≤ a + 3 ∧ a + 3 < 2147483648 := by omega
  have q4 : -2147483648 ≤ a + 4 ∧ a + 4 < 2147483648 := by omega
  have q5 : -2147483648 ≤ a + 5 ∧ a + 5 < 2147483648 := by omega
  have a1 := own_addk p1 1 1 (by decide) ha q1.1 q1.2
  have a2 := own_addk p1 2 2 (by decide) ha q2.1 q2.2
  have a3 := own_addk p1 3 3 (by decide) ha q3.1 q3.2
  have a4 := own_addk p1 4 4 (by decide) ha q4.1 q4.2
  have a5 := own_addk p1 5 5 (by decide) ha q5.1 q5.2
  have k0 : (0 : Int32).toInt = 0 := by decide
  have k1 : (1 : Int32).toInt = 1 := by decide
  have k2 : (2 : Int32).toInt = 2 := by decide
  have k3 : (3 : Int32).toInt = 3 := by decide
  have k4 : (4 : Int32).toInt = 4 := by decide
  have k5 : (5 : Int32).toInt = 5 := by decide
  have k6 : (6 : Int32).toInt = 6 := by decide
  simp only [Int32.lt_iff_toInt_lt, ha, hb, hc, e0, a1, a2, a3, a4, a5, k0, k1, k2, k3, k4, k5, k6] at *
  omega
theorem own_in3_55_1 (p1 : Int32) (p2 : Int32) (p3 : Int32) (vs_a0 : List Int32) (hr : 0 ≤ (p1 : Int32).toInt ∧ p1.toInt ≤ p2.toInt ∧ p2.toInt ≤ 6 ∧ -100 ≤ p3.toInt ∧ p3.toInt ≤ 100) (v8 : Int32) (hv8 : v8 = (own_get vs_a0 p1)) (hc2 : ¬ (p3 < (1 : Int32))) (hc4 : ¬ (p2 < (p1 + p3))) (hc13 : ¬ ((f4 v8) = (0 : Int32))) (hg15 : ¬ ((1 : Int32) < p3 ∧ ¬ ((own_get vs_a0 (p1 + (1 : Int32))) = v8))) (hc31 : (2 : Int32) < p3) : ¬ (p1 + (2 : Int32)) < 0 ∧ (p1 + (2 : Int32)) < (6 : Int32) := by
  obtain ⟨r1, r2, r3, r4, r5⟩ := hr
  obtain ⟨a, ha⟩ : ∃ a : Int, p1.toInt = a := ⟨_, rfl⟩
  obtain ⟨b, hb⟩ : ∃ b : Int, p2.toInt = b := ⟨_, rfl⟩
  obtain ⟨c, hc⟩ : ∃ c : Int, p3.toInt = c := ⟨_, rfl⟩
  rw [ha] at r1 r2
  rw [hb] at r2 r3
  rw [hc] at r4 r5
  have e0 := own_addk p1 p3 c hc ha (by omega) (by omega)
  have q1 : -2147483648 ≤ a + 1 ∧ a + 1 < 2147483648 := by omega
  have q2 : -2147483648 ≤ a + 2 ∧ a + 2 < 2147483648 := by omega
  have q3 : -2147483648 ≤ a + 3 ∧ a + 3 < 2147483648 := by omega
  have q4 : -2147483648 ≤ a + 4 ∧ a + 4 < 2147483648 := by omega
  have q5 : -2147483648 ≤ a + 5 ∧ a + 5 < 2147483648 := by omega
  have a1 := own_addk p1 1 1 (by decide) ha q1.1 q1.2
  have a2 := own_addk p1 2 2 (by decide) ha q2.1 q2.2
  have a3 := own_addk p1 3 3 (by decide) ha q3.1 q3.2
  have a4 := own_addk p1 4 4 (by decide) ha q4.1 q4.2
  have a5 := own_addk p1 5 5 (by decide) ha q5.1 q5.2
  have k0 : (0 : Int32).toInt = 0 := by decide
  have k1 : (1 : Int32).toInt = 1 := by decide
  have k2 : (2 : Int32).toInt = 2 := by decide
  have k3 : (3 : Int32).toInt = 3 := by decide
  have k4 : (4 : Int32).toInt = 4 := by decide
  have k5 : (5 : Int32).toInt = 5 := by decide
  have k6 : (6 : Int32).toInt = 6 := by decide
  simp only [Int32.lt_iff_toInt_lt, ha, hb, hc, e0, a1, a2, a3, a4, a5, k0, k1, k2, k3, k4, k5, k6] at *
  omega
theorem own_in3_55_2 (p1 : Int32) (p2 : Int32) (p3 : Int32) (vs_a0 : List Int32) (hr : 0 ≤ (p1 : Int32).toInt ∧ p1.toInt ≤ p2.toInt ∧ p2.toInt ≤ 6 ∧ -100 ≤ p3.toInt ∧ p3.toInt ≤ 100) (v8 : Int32) (hv8 : v8 = (own_get vs_a0 p1)) (hc2 : ¬ (p3 < (1 : Int32))) (hc4 : ¬ (p2 < (p1 + p3))) (hc13 : ¬ ((f4 v8) = (0 : Int32))) (hg15 : ¬ ((1 : Int32) < p3 ∧ ¬ ((own_get vs_a0 (p1 + (1 : Int32))) = v8))) (hg29 : ¬ (¬ ((2 : Int32) < p3 ∧ ¬ ((own_get vs_a0 (p1 + (2 : Int32))) = v8)))) (hc38 : (2 : Int32) < p3) : ¬ (p1 + (2 : Int32)) < 0 ∧ (p1 + (2 : Int32)) < (6 : Int32) := by
  obtain ⟨r1, r2, r3, r4, r5⟩ := hr
  obtain ⟨a, ha⟩ : ∃ a : Int, p1.toInt = a := ⟨_, rfl⟩
  obtain ⟨b, hb⟩ : ∃ b : Int, p2.toInt = b := ⟨_, rfl⟩
  obtain ⟨c, hc⟩ : ∃ c : Int, p3.toInt = c := ⟨_, rfl⟩
  rw [ha] at r1 r2
  rw [hb] at r2 r3
  rw [hc] at r4 r5
  have e0 := own_addk p1 p3 c hc ha (by omega) (by omega)
  have q1 : -2147483648 ≤ a + 1 ∧ a + 1 < 2147483648 := by omega
  have q2 : -2147483648 ≤ a + 2 ∧ a + 2 < 2147483648 := by omega
  have q3 : -2147483648 ≤ a + 3 ∧ a + 3 < 2147483648 := by omega
  have q4 : -2147483648 ≤ a + 4 ∧ a + 4 < 2147483648 := by omega
  have q5 : -2147483648 ≤ a + 5 ∧ a + 5 < 2147483648 := by omega
  have a1 := own_addk p1 1 1 (by decide) ha q1.1 q1.2
  have a2 := own_addk p1 2 2 (by decide) ha q2.1 q2.2
  have a3 := own_addk p1 3 3 (by decide) ha q3.1 q3.2
  have a4 := own_addk p1 4 4 (by decide) ha q4.1 q4.2
  have a5 := own_addk p1 5 5 (by decide) ha q5.1 q5.2
  have k0 : (0 : Int32).toInt = 0 := by decide
  have k1 : (1 : Int32).toInt = 1 := by decide
  have k2 : (2 : Int32).toInt = 2 := by decide
  have k3 : (3 : Int32).toInt = 3 := by decide
  have k4 : (4 : Int32).toInt = 4 := by decide
  have k5 : (5 : Int32).toInt = 5 := by decide
  have k6 : (6 : Int32).toInt = 6 := by decide
  simp only [Int32.lt_iff_toInt_lt, ha, hb, hc, e0, a1, a2, a3, a4, a5, k0, k1, k2, k3, k4, k5, k6] at *
  omega
theorem own_in3_72_1 (p1 : Int32) (p2 : Int32) (p3 : Int32) (vs_a0 : List Int32) (hr : 0 ≤ (p1 : Int32).toInt ∧ p1.toInt ≤ p2.toInt ∧ p2.toInt ≤ 6 ∧ -100 ≤ p3.toInt ∧ p3.toInt ≤ 100) (v8 : Int32) (hv8 : v8 = (own_get vs_a0 p1)) (hc2 : ¬ (p3 < (1 : Int32))) (hc4 : ¬ (p2 < (p1 + p3))) (hc13 : ¬ ((f4 v8) = (0 : Int32))) (hg15 : ¬ ((1 : Int32) < p3 ∧ ¬ ((own_get vs_a0 (p1 + (1 : Int32))) = v8))) (hg29 : ¬ ((2 : Int32) < p3 ∧ ¬ ((own_get vs_a0 (p1 + (2 : Int32))) = v8))) (hc45 : (3 : Int32) < p3) : ¬ (p1 + (3 : Int32)) < 0 ∧ (p1 + (3 : Int32)) < (6 : Int32) := by
  obtain ⟨r1, r2, r3, r4, r5⟩ := hr
  obtain ⟨a, ha⟩ : ∃ a : Int, p1.toInt = a := ⟨_, rfl⟩
  obtain ⟨b, hb⟩ : ∃ b : Int, p2.toInt = b := ⟨_, rfl⟩
  obtain ⟨c, hc⟩ : ∃ c : Int, p3.toInt = c := ⟨_, rfl⟩
  rw [ha] at r1 r2
  rw [hb] at r2 r3
  rw [hc] at r4 r5
  have e0 := own_addk p1 p3 c hc ha (by omega) (by omega)
  have q1 : -2147483648 ≤ a + 1 ∧ a + 1 < 2147483648 := by omega
  have q2 : -2147483648 ≤ a + 2 ∧ a + 2 < 2147483648 := by omega
  have q3 : -2147483648 ≤ a + 3 ∧ a + 3 < 2147483648 := by omega
  have q4 : -2147483648 ≤ a + 4 ∧ a + 4 < 2147483648 := by omega
  have q5 : -2147483648 ≤ a + 5 ∧ a + 5 < 2147483648 := by omega
  have a1 := own_addk p1 1 1 (by decide) ha q1.1 q1.2
  have a2 := own_addk p1 2 2 (by decide) ha q2.1 q2.2
  have a3 := own_addk p1 3 3 (by decide) ha q3.1 q3.2
  have a4 := own_addk p1 4 4 (by decide) ha q4.1 q4.2
  have a5 := own_addk p1 5 5 (by decide) ha q5.1 q5.2
  have k0 : (0 : Int32).toInt = 0 := by decide
  have k1 : (1 : Int32).toInt = 1 := by decide
  have k2 : (2 : Int32).toInt = 2 := by decide
  have k3 : (3 : Int32).toInt = 3 := by decide
  have k4 : (4 : Int32).toInt = 4 := by decide
  have k5 : (5 : Int32).toInt = 5 := by decide
  have k6 : (6 : Int32).toInt = 6 := by decide
  simp only [Int32.lt_iff_toInt_lt, ha, hb, hc, e0, a1, a2, a3, a4, a5, k0, k1, k2, k3, k4, k5, k6] at *
  omega
theorem own_in3_72_2 (p1 : Int32) (p2 : Int32) (p3 : Int32) (vs_a0 : List Int32) (hr : 0 ≤ (p1 : Int32).toInt ∧ p1.toInt ≤ p2.toInt ∧ p2.toInt ≤ 6 ∧ -100 ≤ p3.toInt ∧ p3.toInt ≤ 100) (v8 : Int32) (hv8 : v8 = (own_get vs_a0 p1)) (hc2 : ¬ (p3 < (1 : Int32))) (hc4 : ¬ (p2 < (p1 + p3))) (hc13 : ¬ ((f4 v8) = (0 : Int32))) (hg15 : ¬ ((1 : Int32) < p3 ∧ ¬ ((own_get vs_a0 (p1 + (1 : Int32))) = v8))) (hg29 : ¬ ((2 : Int32) < p3 ∧ ¬ ((own_get vs_a0 (p1 + (2 : Int32))) = v8))) (hg43 : ¬ (¬ ((3 : Int32) < p3 ∧ ¬ ((own_get vs_a0 (p1 + (3 : Int32))) = v8)))) (hc52 : (3 : Int32) < p3) : ¬ (p1 + (3 : Int32)) < 0 ∧ (p1 + (3 : Int32)) < (6 : Int32) := by
  obtain ⟨r1, r2, r3, r4, r5⟩ := hr
  obtain ⟨a, ha⟩ : ∃ a : Int, p1.toInt = a := ⟨_, rfl⟩
  obtain ⟨b, hb⟩ : ∃ b : Int, p2.toInt = b := ⟨_, rfl⟩
  obtain ⟨c, hc⟩ : ∃ c : Int, p3.toInt = c := ⟨_, rfl⟩
  rw [ha] at r1 r2
  rw [hb] at r2 r3
  rw [hc] at r4 r5
  have e0 := own_addk p1 p3 c hc ha (by omega) (by omega)
  have q1 : -2147483648 ≤ a + 1 ∧ a + 1 < 2147483648 := by omega
  have q2 : -2147483648 ≤ a + 2 ∧ a + 2 < 2147483648 := by omega
  have q3 : -2147483648 ≤ a + 3 ∧ a + 3 < 2147483648 := by omega
  have q4 : -2147483648 ≤ a + 4 ∧ a + 4 < 2147483648 := by omega
  have q5 : -2147483648 ≤ a + 5 ∧ a + 5 < 2147483648 := by omega
  have a1 := own_addk p1 1 1 (by decide) ha q1.1 q1.2
  have a2 := own_addk p1 2 2 (by decide) ha q2.1 q2.2
  have a3 := own_addk p1 3 3 (by decide) ha q3.1 q3.2
  have a4 := own_addk p1 4 4 (by decide) ha q4.1 q4.2
  have a5 := own_addk p1 5 5 (by decide) ha q5.1 q5.2
  have k0 : (0 : Int32).toInt = 0 := by decide
  have k1 : (1 : Int32).toInt = 1 := by decide
  have k2 : (2 : Int32).toInt = 2 := by decide
  have k3 : (3 : Int32).toInt = 3 := by decide
  have k4 : (4 : Int32).toInt = 4 := by decide
  have k5 : (5 : Int32).toInt = 5 := by decide
  have k6 : (6 : Int32).toInt = 6 := by decide
  simp only [Int32.lt_iff_toInt_lt, ha, hb, hc, e0, a1, a2, a3, a4, a5, k0, k1, k2, k3, k4, k5, k6] at *
  omega
theorem own_in3_89_1 (p1 : Int32) (p2 : Int32) (p3 : Int32) (vs_a0 : List Int32) (hr : 0 ≤ (p1 : Int32).toInt ∧ p1.toInt ≤ p2.toInt ∧ p2.toInt ≤ 6 ∧ -100 ≤ p3.toInt ∧ p3.toInt ≤ 100) (v8 : Int32) (hv8 : v8 = (own_get vs_a0 p1)) (hc2 : ¬ (p3 < (1 : Int32))) (hc4 : ¬ (p2 < (p1 + p3))) (hc13 : ¬ ((f4 v8) = (0 : Int32))) (hg15 : ¬ ((1 : Int32) < p3 ∧ ¬ ((own_get vs_a0 (p1 + (1 : Int32))) = v8))) (hg29 : ¬ ((2 : Int32) < p3 ∧ ¬ ((own_get vs_a0 (p1 + (2 : Int32))) = v8))) (hg43 : ¬ ((3 : Int32) < p3 ∧ ¬ ((own_get vs_a0 (p1 + (3 : Int32))) = v8))) (hc59 : (4 : Int32) < p3) : ¬ (p1 + (4 : Int32)) < 0 ∧ (p1 + (4 : Int32)) < (6 : Int32) := by
  obtain ⟨r1, r2, r3, r4, r5⟩ := hr
  obtain ⟨a, ha⟩ : ∃ a : Int, p1.toInt = a := ⟨_, rfl⟩
  obtain ⟨b, hb⟩ : ∃ b : Int, p2.toInt = b := ⟨_, rfl⟩
  obtain ⟨c, hc⟩ : ∃ c : Int, p3.toInt = c := ⟨_, rfl⟩
  rw [ha] at r1 r2
  rw [hb] at r2 r3
  rw [hc] at r4 r5
  have e0 := own_addk p1 p3 c hc ha (by omega) (by omega)
  have q1 : -2147483648 ≤ a + 1 ∧ a + 1 < 2147483648 := by omega
  have q2 : -2147483648 ≤ a + 2 ∧ a + 2 < 2147483648 := by omega
  have q3 : -2147483648 ≤ a + 3 ∧ a + 3 < 2147483648 := by omega
  have q4 : -2147483648 ≤ a + 4 ∧ a + 4 < 2147483648 := by omega
  have q5 : -2147483648 ≤ a + 5 ∧ a + 5 < 2147483648 := by omega
  have a1 := own_addk p1 1 1 (by decide) ha q1.1 q1.2
  have a2 := own_addk p1 2 2 (by decide) ha q2.1 q2.2
  have a3 := own_addk p1 3 3 (by decide) ha q3.1 q3.2
  have a4 := own_addk p1 4 4 (by decide) ha q4.1 q4.2
  have a5 := own_addk p1 5 5 (by decide) ha q5.1 q5.2
  have k0 : (0 : Int32).toInt = 0 := by decide
  have k1 : (1 : Int32).toInt = 1 := by decide
  have k2 : (2 : Int32).toInt = 2 := by decide
  have k3 : (3 : Int32).toInt = 3 := by decide
  have k4 : (4 : Int32).toInt = 4 := by decide
  have k5 : (5 : Int32).toInt = 5 := by decide
  have k6 : (6 : Int32).toInt = 6 := by decide
  simp only [Int32.lt_iff_toInt_lt, ha, hb, hc, e0, a1, a2, a3, a4, a5, k0, k1, k2, k3, k4, k5, k6] at *
  omega
theorem own_in3_89_2 (p1 : Int32) (p2 : Int32) (p3 : Int32) (vs_a0 : List Int32) (hr : 0 ≤ (p1 : Int32).toInt ∧ p1.toInt ≤ p2.toInt ∧ p2.toInt ≤ 6 ∧ -100 ≤ p3.toInt ∧ p3.toInt ≤ 100) (v8 : Int32) (hv8 : v8 = (own_get vs_a0 p1)) (hc2 : ¬ (p3 < (1 : Int32))) (hc4 : ¬ (p2 < (p1 + p3))) (hc13 : ¬ ((f4 v8) = (0 : Int32))) (hg15 : ¬ ((1 : Int32) < p3 ∧ ¬ ((own_get vs_a0 (p1 + (1 : Int32))) = v8))) (hg29 : ¬ ((2 : Int32) < p3 ∧ ¬ ((own_get vs_a0 (p1 + (2 : Int32))) = v8))) (hg43 : ¬ ((3 : Int32) < p3 ∧ ¬ ((own_get vs_a0 (p1 + (3 : Int32))) = v8))) (hg57 : ¬ (¬ ((4 : Int32) < p3 ∧ ¬ ((own_get vs_a0 (p1 + (4 : Int32))) = v8)))) (hc66 : (4 : Int32) < p3) : ¬ (p1 + (4 : Int32)) < 0 ∧ (p1 + (4 : Int32)) < (6 : Int32) := by
  obtain ⟨r1, r2, r3, r4, r5⟩ := hr
  obtain ⟨a, ha⟩ : ∃ a : Int, p1.toInt = a := ⟨_, rfl⟩
  obtain ⟨b, hb⟩ : ∃ b : Int, p2.toInt = b := ⟨_, rfl⟩
  obtain ⟨c, hc⟩ : ∃ c : Int, p3.toInt = c := ⟨_, rfl⟩
  rw [ha] at r1 r2
  rw [hb] at r2 r3
  rw [hc] at r4 r5
  have e0 := own_addk p1 p3 c hc ha (by omega) (by omega)
  have q1 : -2147483648 ≤ a + 1 ∧ a + 1 < 2147483648 := by omega
  have q2 : -2147483648 ≤ a + 2 ∧ a + 2 < 2147483648 := by omega
  have q3 : -2147483648 ≤ a + 3 ∧ a + 3 < 2147483648 := by omega
  have q4 : -2147483648 ≤ a + 4 ∧ a + 4 < 2147483648 := by omega
  have q5 : -2147483648 ≤ a + 5 ∧ a + 5 < 2147483648 := by omega
  have a1 := own_addk p1 1 1 (by decide) ha q1.1 q1.2
  have a2 := own_addk p1 2 2 (by decide) ha q2.1 q2.2
  have a3 := own_addk p1 3 3 (by decide) ha q3.1 q3.2
  have a4 := own_addk p1 4 4 (by decide) ha q4.1 q4.2
  have a5 := own_addk p1 5 5 (by decide) ha q5.1 q5.2
  have k0 : (0 : Int32).toInt = 0 := by decide
  have k1 : (1 : Int32).toInt = 1 := by decide
  have k2 : (2 : Int32).toInt = 2 := by decide
  have k3 : (3 : Int32).toInt = 3 := by decide
  have k4 : (4 : Int32).toInt = 4 := by decide
  have k5 : (5 : Int32).toInt = 5 := by decide
  have k6 : (6 : Int32).toInt = 6 := by decide
  simp only [Int32.lt_iff_toInt_lt, ha, hb, hc, e0, a1, a2, a3, a4, a5, k0, k1, k2, k3, k4, k5, k6] at *
  omega
theorem own_in3_106_1 (p1 : Int32) (p2 : Int32) (p3 : Int32) (vs_a0 : List Int32) (hr : 0 ≤ (p1 : Int32).toInt ∧ p1.toInt ≤ p2.toInt ∧ p2.toInt ≤ 6 ∧ -100 ≤ p3.toInt ∧ p3.toInt ≤ 100) (v8 : Int32) (hv8 : v8 = (own_get vs_a0 p1)) (hc2 : ¬ (p3 < (1 : Int32))) (hc4 : ¬ (p2 < (p1 + p3))) (hc13 : ¬ ((f4 v8) = (0 : Int32))) (hg15 : ¬ ((1 : Int32) < p3 ∧ ¬ ((own_get vs_a0 (p1 + (1 : Int32))) = v8))) (hg29 : ¬ ((2 : Int32) < p3 ∧ ¬ ((own_get vs_a0 (p1 + (2 : Int32))) = v8))) (hg43 : ¬ ((3 : Int32) < p3 ∧ ¬ ((own_get vs_a0 (p1 + (3 : Int32))) = v8))) (hg57 : ¬ ((4 : Int32) < p3 ∧ ¬ ((own_get vs_a0 (p1 + (4 : Int32))) = v8))) (hc73 : (5 : Int32) < p3) : ¬ (p1 + (5 : Int32)) < 0 ∧ (p1 + (5 : Int32)) < (6 : Int32) := by
  obtain ⟨r1, r2, r3, r4, r5⟩ := hr
  obtain ⟨a, ha⟩ : ∃ a : Int, p1.toInt = a := ⟨_, rfl⟩
  obtain ⟨b, hb⟩ : ∃ b : Int, p2.toInt = b := ⟨_, rfl⟩
  obtain ⟨c, hc⟩ : ∃ c : Int, p3.toInt = c := ⟨_, rfl⟩
  rw [ha] at r1 r2
  rw [hb] at r2 r3
  rw [hc] at r4 r5
  have e0 := own_addk p1 p3 c hc ha (by omega) (by omega)
  have q1 : -2147483648 ≤ a + 1 ∧ a + 1 < 2147483648 := by omega
  have q2 : -2147483648 ≤ a + 2 ∧ a + 2 < 2147483648 := by omega
  have q3 : -2147483648 ≤ a + 3 ∧ a + 3 < 2147483648 := by omega
  have q4 : -2147483648 ≤ a + 4 ∧ a + 4 < 2147483648 := by omega
  have q5 : -2147483648 ≤ a + 5 ∧ a + 5 < 2147483648 := by omega
  have a1 := own_addk p1 1 1 (by decide) ha q1.1 q1.2
  have a2 := own_addk p1 2 2 (by decide) ha q2.1 q2.2
  have a3 := own_addk p1 3 3 (by decide) ha q3.1 q3.2
  have a4 := own_addk p1 4 4 (by decide) ha q4.1 q4.2
  have a5 := own_addk p1 5 5 (by decide) ha q5.1 q5.2
  have k0 : (0 : Int32).toInt = 0 := by decide
  have k1 : (1 : Int32).toInt = 1 := by decide
  have k2 : (2 : Int32).toInt = 2 := by decide
  have k3 : (3 : Int32).toInt = 3 := by decide
  have k4 : (4 : Int32).toInt = 4 := by decide
  have k5 : (5 : Int32).toInt = 5 := by decide
  have k6 : (6 : Int32).toInt = 6 := by decide
  simp only [Int32.lt_iff_toInt_lt, ha, hb, hc, e0, a1, a2, a3, a4, a5, k0, k1, k2, k3, k4, k5, k6] at *
  omega
theorem own_in3_106_2 (p1 : Int32) (p2 : Int32) (p3 : Int32) (vs_a0 : List Int32) (hr : 0 ≤ (p1 : Int32).toInt ∧ p1.toInt ≤ p2.toInt ∧ p2.toInt ≤ 6 ∧ -100 ≤ p3.toInt ∧ p3.toInt ≤ 100) (v8 : Int32) (hv8 : v8 = (own_get vs_a0 p1)) (hc2 : ¬ (p3 < (1 : Int32))) (hc4 : ¬ (p2 < (p1 + p3))) (hc13 : ¬ ((f4 v8) = (0 : Int32))) (hg15 : ¬ ((1 : Int32) < p3 ∧ ¬ ((own_get vs_a0 (p1 + (1 : Int32))) = v8))) (hg29 : ¬ ((2 : Int32) < p3 ∧ ¬ ((own_get vs_a0 (p1 + (2 : Int32))) = v8))) (hg43 : ¬ ((3 : Int32) < p3 ∧ ¬ ((own_get vs_a0 (p1 + (3 : Int32))) = v8))) (hg57 : ¬ ((4 : Int32) < p3 ∧ ¬ ((own_get vs_a0 (p1 + (4 : Int32))) = v8))) (hg71 : ¬ (¬ ((5 : Int32) < p3 ∧ ¬ ((own_get vs_a0 (p1 + (5 : Int32))) = v8)))) (hc80 : (5 : Int32) < p3) : ¬ (p1 + (5 : Int32)) < 0 ∧ (p1 + (5 : Int32)) < (6 : Int32) := by
  obtain ⟨r1, r2, r3, r4, r5⟩ := hr
  obtain ⟨a, ha⟩ : ∃ a : Int, p1.toInt = a := ⟨_, rfl⟩
  obtain ⟨b, hb⟩ : ∃ b : Int, p2.toInt = b := ⟨_, rfl⟩
  obtain ⟨c, hc⟩ : ∃ c : Int, p3.toInt = c := ⟨_, rfl⟩
  rw [ha] at r1 r2
  rw [hb] at r2 r3
  rw [hc] at r4 r5
  have e0 := own_addk p1 p3 c hc ha (by omega) (by omega)
  have q1 : -2147483648 ≤ a + 1 ∧ a + 1 < 2147483648 := by omega
  have q2 : -2147483648 ≤ a + 2 ∧ a + 2 < 2147483648 := by omega
  have q3 : -2147483648 ≤ a + 3 ∧ a + 3 < 2147483648 := by omega
  have q4 : -2147483648 ≤ a + 4 ∧ a + 4 < 2147483648 := by omega
  have q5 : -2147483648 ≤ a + 5 ∧ a + 5 < 2147483648 := by omega
  have a1 := own_addk p1 1 1 (by decide) ha q1.1 q1.2
  have a2 := own_addk p1 2 2 (by decide) ha q2.1 q2.2
  have a3 := own_addk p1 3 3 (by decide) ha q3.1 q3.2
  have a4 := own_addk p1 4 4 (by decide) ha q4.1 q4.2
  have a5 := own_addk p1 5 5 (by decide) ha q5.1 q5.2
  have k0 : (0 : Int32).toInt = 0 := by decide
  have k1 : (1 : Int32).toInt = 1 := by decide
  have k2 : (2 : Int32).toInt = 2 := by decide
  have k3 : (3 : Int32).toInt = 3 := by decide
  have k4 : (4 : Int32).toInt = 4 := by decide
  have k5 : (5 : Int32).toInt = 5 := by decide
  have k6 : (6 : Int32).toInt = 6 := by decide
  simp only [Int32.lt_iff_toInt_lt, ha, hb, hc, e0, a1, a2, a3, a4, a5, k0, k1, k2, k3, k4, k5, k6] at *
  omega
theorem own_in3_130_1 (p1 : Int32) (p2 : Int32) (p3 : Int32) (vs_a0 : List Int32) (hr : 0 ≤ (p1 : Int32).toInt ∧ p1.toInt ≤ p2.toInt ∧ p2.toInt ≤ 6 ∧ -100 ≤ p3.toInt ∧ p3.toInt ≤ 100) (v8 : Int32) (hv8 : v8 = (own_get vs_a0 p1)) (v86 : Int32) (hv86 : v86 = (p1 + p3)) (hc2 : ¬ (p3 < (1 : Int32))) (hc4 : ¬ (p2 < (p1 + p3))) (hc13 : ¬ ((f4 v8) = (0 : Int32))) (hg15 : ¬ ((1 : Int32) < p3 ∧ ¬ ((own_get vs_a0 (p1 + (1 : Int32))) = v8))) (hg29 : ¬ ((2 : Int32) < p3 ∧ ¬ ((own_get vs_a0 (p1 + (2 : Int32))) = v8))) (hg43 : ¬ ((3 : Int32) < p3 ∧ ¬ ((own_get vs_a0 (p1 + (3 : Int32))) = v8))) (hg57 : ¬ ((4 : Int32) < p3 ∧ ¬ ((own_get vs_a0 (p1 + (4 : Int32))) = v8))) (hg71 : ¬ ((5 : Int32) < p3 ∧ ¬ ((own_get vs_a0 (p1 + (5 : Int32))) = v8))) (hc89 : ¬ (v86 = p2)) : ¬ v86 < 0 ∧ v86 < (6 : Int32) := by
  obtain ⟨r1, r2, r3, r4, r5⟩ := hr
  have e0 : v86.toInt = p1.toInt + p3.toInt := by rw [hv86]; exact own_addk p1 p3 _ rfl rfl (by omega) (by omega)
  have k0 : (0 : Int32).toInt = 0 := by decide
  have k1 : (1 : Int32).toInt = 1 := by decide
  have k6 : (6 : Int32).toInt = 6 := by decide
  have n : ¬ v86.toInt = p2.toInt := fun z => by
    have e := Int32.toInt_inj.mp z
    simp_all
  have g1 : ¬ p2.toInt < (p1 + p3).toInt := by rw [← Int32.lt_iff_toInt_lt]; assumption
  have g2 : ¬ p3.toInt < (1 : Int32).toInt := by rw [← Int32.lt_iff_toInt_lt]; assumption
  rw [← hv86] at g1
  rw [Int32.lt_iff_toInt_lt, Int32.lt_iff_toInt_lt, k0, k6]
  omega
theorem own_in3_171_1 (p1 : Int32) (p2 : Int32) (p3 : Int32) (vs_a0 : List Int32) (hr : 0 ≤ (p1 : Int32).toInt ∧ p1.toInt ≤ p2.toInt ∧ p2.toInt ≤ 6 ∧ -100 ≤ p3.toInt ∧ p3.toInt ≤ 100) (v8 : Int32) (hv8 : v8 = (own_get vs_a0 p1)) (v86 : Int32) (hv86 : v86 = (p1 + p3)) (v93 : Int32) (hv93 : v93 = (own_get vs_a0 v86)) (hc2 : ¬ (p3 < (1 : Int32))) (hc4 : ¬ (p2 < (p1 + p3))) (hc13 : ¬ ((f4 v8) = (0 : Int32))) (hg15 : ¬ ((1 : Int32) < p3 ∧ ¬ ((own_get vs_a0 (p1 + (1 : Int32))) = v8))) (hg29 : ¬ ((2 : Int32) < p3 ∧ ¬ ((own_get vs_a0 (p1 + (2 : Int32))) = v8))) (hg43 : ¬ ((3 : Int32) < p3 ∧ ¬ ((own_get vs_a0 (p1 + (3 : Int32))) = v8))) (hg57 : ¬ ((4 : Int32) < p3 ∧ ¬ ((own_get vs_a0 (p1 + (4 : Int32))) = v8))) (hg71 : ¬ ((5 : Int32) < p3 ∧ ¬ ((own_get vs_a0 (p1 + (5 : Int32))) = v8))) (hc89 : ¬ (v86 = p2)) (hc96 : ¬ (v93 = (32 : Int32))) (hc98 : ¬ (v93 = (10 : Int32))) (hc100 : v93 = (13 : Int32)) (hc102 : (v86 + (2 : Int32)) = p2) : ¬ (v86 + (1 : Int32)) < 0 ∧ (v86 + (1 : Int32)) < (6 : Int32) := by
  obtain ⟨r1, r2, r3, r4, r5⟩ := hr
  have e0 : v86.toInt = p1.toInt + p3.toInt := by rw [hv86]; exact own_addk p1 p3 _ rfl rfl (by omega) (by omega)
  have k0 : (0 : Int32).toInt = 0 := by decide
  have k1 : (1 : Int32).toInt = 1 := by decide
  have k6 : (6 : Int32).toInt = 6 := by decide
  have g2 : ¬ p3.toInt < (1 : Int32).toInt := by rw [← Int32.lt_iff_toInt_lt]; assumption
  have a1 := own_addk v86 1 1 (by decide) e0 (by omega) (by omega)
  have a2 := own_addk v86 2 2 (by decide) e0 (by omega) (by omega)
  have n : (v86 + 2).toInt = p2.toInt := congrArg Int32.toInt (by assumption)
  rw [Int32.lt_iff_toInt_lt, Int32.lt_iff_toInt_lt, k0, k6, a1]
  rw [a2] at n
  omega
set_option maxRecDepth 65536 in
set_option maxHeartbeats 40000000 in
theorem rm3 (l : Launch) (Z : State) (aw : Array Value) (hw : ∀ d ∈ tables_1, d.before aw Z = true) (ws : List Jvm.Cond) (a0 : Addr) (p1 : Int32) (p2 : Int32) (p3 : Int32) (ka_a0 : ClassId) (vs_a0 : List Int32) (h0 : Heap) (n0 : Nat) (Z0 : n0 ≤ h0.size) (V_a0 : Arv Z h0 a0 ka_a0 .byte (6 : Int32) (List.map Value.int vs_a0) (.int (0 : Int32))) (hr : 0 ≤ (p1 : Int32).toInt ∧ p1.toInt ≤ p2.toInt ∧ p2.toInt ≤ 6 ∧ -100 ≤ p3.toInt ∧ p3.toInt ≤ 100) :
    MetFree l (⟨"com/example/tercet/tercet/ConflictMarkersMarkerRunPinLaw", "valid", "([BIII)Z"⟩ : MethodName) (head1 (Jvm.Cond.code (⟨"com/example/tercet/tercet/ConflictMarkersMarkerRunPinLaw", "valid", "([BIII)Z"⟩ : MethodName) method_3_code 7 (some .boolean) :: ws) ({ frames := 1, cells := 0, slots := 0, locals := 12 } : Room)) (fun a U => a = #[(.ref a0), (.int p1), (.int p2), (.int p3)] ∧ Z.Warmed39 U.vm ∧ U.heap = h0) (fun _ _ _ _ _ => True) (fun _ U o U' => ∃ v L, o = .returned v ∧ Q3 Z a0 p1 p2 p3 ka_a0 vs_a0 h0 n0 v U'.heap L ∧ FrameEnd U o U' L ({ frames := 1, cells := 0, slots := 0, locals := 12 } : Room).cells ({ frames := 1, cells := 0, slots := 0, locals := 12 } : Room).slots) := by
  refine MetFree.of_bodySF (plainFor_of_name pn_1) hisR ?_
  intro p e s m args below meth c s₁ Bd hml0 hP hK
  obtain ⟨rfl, hZ, hh⟩ := hP
  have hx := Bd.exec
  have hby := Bd.bytes
  have hml : c.maxLocals = 7 := hml0
  have hown : s.vm.findClass "com/example/tercet/tercet/ConflictMarkersMarkerRunPinLaw" = some m.cls := findClass_of_methodNamed Bd.named
  have hnm := (name_of_methodNamed Bd.named Bd.method).1
  have X0 : Stand p l e ({ frames := 1, cells := 0, slots := 0, locals := 12 } : Room) s m #[(.ref a0), (.int p1), (.int p2), (.int p3)] below meth c s₁ [] 0 0 := Stand.of_body Bd
  have e0 : s₁.heap = h0 := by rw [← hh, Bd.state]; rfl
  have N0 := Fr.nil n0
  have pre0 : ∀ t, Steps p.tables e below (s₁.setTop (mkF m 0 #[.val (.ref a0), .val (.int p1), .val (.int p2), .val (.int p3), .unset, .unset, .unset] [])) t → Steps p.tables e below (s₁.setTop (entryFrame m #[(.ref a0), (.int p1), (.int p2), (.int p3)] 7)) t := fun t k => castTop (ef_3 m a0 p1 p2 p3) k
  have pre1 : ∀ t, Steps p.tables e below (s₁.setTop (mkF m 2 #[.val (.ref a0), .val (.int p1), .val (.int p2), .val (.int p3), .unset, .unset, .unset] [(.int (1 : Int32)), (.int p3)])) t → Steps p.tables e below (s₁.setTop (entryFrame m #[(.ref a0), (.int p1), (.int p2), (.int p3)] 7)) t := fun t k => pre0 t (by
    show Steps p.tables e below (s₁.setTop (mkF m 0 #[.val (.ref a0), .val (.int p1), .val (.int p2), .val (.int p3), .unset, .unset, .unset] [])) _
    refine XS.iloadN X0.here hx rfl (hb hby d3_0) rfl ?_
    show Steps p.tables e below (s₁.setTop (mkF m 1 #[.val (.ref a0), .val (.int p1), .val (.int p2), .val (.int p3), .unset, .unset, .unset] [(.int p3)])) _
    refine XS.iconst X0.here hx rfl (hb hby d3_1) ?_
    exact k)
  by_cases hc2 : p3 < (1 : Int32)
  · obtain ⟨fs, hr, hrun, hended, hW, hsame⟩ := X0.leave (v := some (.int (0 : Int32))) (fun h => by rw [Bd.returns] at h; cases h)
    refine ⟨_, _, pre1 _ ?_, hrun, hended, _, _, rfl, ?_, ⟨_, rfl⟩, hW, hsame.mono (by decide) (by decide)⟩
    · show Steps p.tables e below (s₁.setTop (mkF m 2 #[.val (.ref a0), .val (.int p1), .val (.int p2), .val (.int p3), .unset, .unset, .unset] [(.int (1 : Int32)), (.int p3)])) _
      refine XS.icmpYes X0.here hx rfl (pc0 := 2) (pc' := 12) rfl (hb hby d3_2) rfl (tlt hc2).1 (by decide) (by decide) ?_
      show Steps p.tables e below (s₁.setTop (mkF m 12 #[.val (.ref a0), .val (.int p1), .val (.int p2), .val (.int p3), .unset, .unset, .unset] [])) _
      refine XS.iconst X0.here hx rfl (hb hby d3_12) ?_
      show Steps p.tables e below (s₁.setTop (mkF m 13 #[.val (.ref a0), .val (.int p1), .val (.int p2), .val (.int p3), .unset, .unset, .unset] [(.int (0 : Int32))])) _
      exact retN X0 hx (t := .boolean) Bd.returns (by simp) (hb hby d3_13) hr
    · show Q3 Z a0 p1 p2 p3 ka_a0 vs_a0 h0 n0 _ s₁.heap _
      rw [e0]
      exact ⟨congrArg (fun z => some (Value.int z)) (by simp only [f3, if_pos hc2]), N0, rfl⟩
  · have pre3 : ∀ t, Steps p.tables e below (s₁.setTop (mkF m 9 #[.val (.ref a0), .val (.int p1), .val (.int p2), .val (.int p3), .unset, .unset, .unset] [(.int p2), (.int (p1 + p3))])) t → Steps p.tables e below (s₁.setTop (entryFrame m #[(.ref a0), (.int p1), (.int p2), (.int p3)] 7)) t := fun t k => pre1 t (by
      show Steps p.tables e below (s₁.setTop (mkF m 2 #[.val (.ref a0), .val (.int p1), .val (.int p2), .val (.int p3), .unset, .unset, .unset] [(.int (1 : Int32)), (.int p3)])) _
      refine XS.icmpNo X0.here hx rfl (hb hby d3_2) rfl (flt hc2).1 ?_
      show Steps p.tables e below (s₁.setTop (mkF m 5 #[.val (.ref a0), .val (.int p1), .val (.int p2), .val (.int p3), .unset, .unset, .unset] [])) _
      refine XS.iloadN X0.here hx rfl (hb hby d3_5) rfl ?_
      show Steps p.tables e below (s₁.setTop (mkF m 6 #[.val (.ref a0), .val (.int p1), .val (.int p2), .val (.int p3), .unset, .unset, .unset] [(.int p1)])) _
      refine XS.iloadN X0.here hx rfl (hb hby d3_6) rfl ?_
      show Steps p.tables e below (s₁.setTop (mkF m 7 #[.val (.ref a0), .val (.int p1), .val (.int p2), .val (.int p3), .unset, .unset, .unset] [(.int p3), (.int p1)])) _
      refine XS.iadd X0.here hx rfl (hb hby d3_7) rfl ?_
      show Steps p.tables e below (s₁.setTop (mkF m 8 #[.val (.ref a0), .val (.int p1), .val (.int p2), .val (.int p3), .unset, .unset, .unset] [(.int (p1 + p3))])) _
      refine XS.iloadN X0.here hx rfl (hb hby d3_8) rfl ?_
      exact k)
    by_cases hc4 : p2 < (p1 + p3)
    · obtain ⟨fs, hr, hrun, hended, hW, hsame⟩ := X0.leave (v := some (.int (0 : Int32))) (fun h => by rw [Bd.returns] at h; cases h)
      refine ⟨_, _, pre3 _ ?_, hrun, hended, _, _, rfl, ?_, ⟨_, rfl⟩, hW, hsame.mono (by decide) (by decide)⟩
      · show Steps p.tables e below (s₁.setTop (mkF m 9 #[.val (.ref a0), .val (.int p1), .val (.int p2), .val (.int p3), .unset, .unset, .unset] [(.int p2), (.int (p1 + p3))])) _
        refine XS.icmpNo X0.here hx rfl (hb hby d3_9) rfl (tlt hc4).2.2.2 ?_
        show Steps p.tables e below (s₁.setTop (mkF m 12 #[.val (.ref a0), .val (.int p1), .val (.int p2), .val (.int p3), .unset, .unset, .unset] [])) _
        refine XS.iconst X0.here hx rfl (hb hby d3_12) ?_
        show Steps p.tables e below (s₁.setTop (mkF m 13 #[.val (.ref a0), .val (.int p1), .val (.int p2), .val (.int p3), .unset, .unset, .unset] [(.int (0 : Int32))])) _
        exact retN X0 hx (t := .boolean) Bd.returns (by simp) (hb hby d3_13) hr
      · show Q3 Z a0 p1 p2 p3 ka_a0 vs_a0 h0 n0 _ s₁.heap _
        rw [e0]
        exact ⟨congrArg (fun z => some (Value.int z)) (by simp only [f3, if_neg hc2, if_pos hc4]), N0, rfl⟩
    · have pre5 : ∀ t, Steps p.tables e below (s₁.setTop (mkF m 16 #[.val (.ref a0), .val (.int p1), .val (.int p2), .val (.int p3), .unset, .unset, .unset] [(.int p1), (.ref a0)])) t → Steps p.tables e below (s₁.setTop (entryFrame m #[(.ref a0), (.int p1), (.int p2), (.int p3)] 7)) t := fun t k => pre3 t (by
        show Steps p.tables e below (s₁.setTop (mkF m 9 #[.val (.ref a0), .val (.int p1), .val (.int p2), .val (.int p3), .unset, .unset, .unset] [(.int p2), (.int (p1 + p3))])) _
        refine XS.icmpYes X0.here hx rfl (pc0 := 9) (pc' := 14) rfl (hb hby d3_9) rfl (flt hc4).2.2.2 (by decide) (by decide) ?_
        show Steps p.tables e below (s₁.setTop (mkF m 14 #[.val (.ref a0), .val (.int p1), .val (.int p2), .val (.int p3), .unset, .unset, .unset] [])) _
        refine XS.aloadN X0.here hx rfl (hb hby d3_14) rfl rfl ?_
        show Steps p.tables e below (s₁.setTop (mkF m 15 #[.val (.ref a0), .val (.int p1), .val (.int p2), .val (.int p3), .unset, .unset, .unset] [(.ref a0)])) _
        refine XS.iloadN X0.here hx rfl (hb hby d3_15) rfl ?_
        exact k)
      have kown_in3_16_1 : ¬ p1 < 0 ∧ p1 < (6 : Int32) := own_in3_16_1 p1 p2 p3 vs_a0 hr hc2 hc4
      obtain ⟨cl6, Ar6, q6, S6, M6, H6, G6⟩ := id V_a0
      have hin6 : ¬ (p1 < 0 ∨ cl6.slots.size ≤ (p1).toNatClampNeg) := inb_of S6 kown_in3_16_1
      have hat6 : cl6.slots[(p1).toNatClampNeg]? = some (.int (own_get vs_a0 p1)) := H6.at hin6 (own_getD vs_a0 p1)
      have pre7 : ∀ t, Steps p.tables e below (s₁.setTop (mkF m 17 #[.val (.ref a0), .val (.int p1), .val (.int p2), .val (.int p3), .unset, .unset, .unset] [(.int (own_get vs_a0 p1))])) t → Steps p.tables e below (s₁.setTop (entryFrame m #[(.ref a0), (.int p1), (.int p2), (.int p3)] 7)) t := fun t k => pre5 t (by
        show Steps p.tables e below (s₁.setTop (mkF m 16 #[.val (.ref a0), .val (.int p1), .val (.int p2), .val (.int p3), .unset, .unset, .unset] [(.int p1), (.ref a0)])) _
        refine X0.baloadBytes hx (j := p1) (v := (.int (own_get vs_a0 p1))) (by rw [e0]; exact Ar6.1) (State.isArrayOf_alike hZ.alike Ar6.2.1) Ar6.2.2 hin6 hat6 (g := (mkF m 16 #[.val (.ref a0), .val (.int p1), .val (.int p2), .val (.int p3), .unset, .unset, .unset] [(.int p1), (.ref a0)])) rfl rfl (hb hby d3_16) _ ?_
        exact k)
      obtain ⟨v8, hv8⟩ : ∃ z : Int32, z = (own_get vs_a0 p1) := ⟨_, rfl⟩
      have pre9 : ∀ t, Steps p.tables e below (s₁.setTop (mkF m 17 #[.val (.ref a0), .val (.int p1), .val (.int p2), .val (.int p3), .unset, .unset, .unset] [(.int v8)])) t → Steps p.tables e below (s₁.setTop (entryFrame m #[(.ref a0), (.int p1), (.int p2), (.int p3)] 7)) t := fun t k => pre7 t (by rw [hv8] at k; exact k)
      have pre10 : ∀ t, Steps p.tables e below (s₁.setTop (mkF m 21 #[.val (.ref a0), .val (.int p1), .val (.int p2), .val (.int p3), .val (.int v8), .unset, .unset] [(.int v8)])) t → Steps p.tables e below (s₁.setTop (entryFrame m #[(.ref a0), (.int p1), (.int p2), (.int p3)] 7)) t := fun t k => pre9 t (by
        show Steps p.tables e below (s₁.setTop (mkF m 17 #[.val (.ref a0), .val (.int p1), .val (.int p2), .val (.int p3), .unset, .unset, .unset] [(.int v8)])) _
        refine XS.istore X0.here hx rfl (hb hby d3_17) rfl (l' := #[.val (.ref a0), .val (.int p1), .val (.int p2), .val (.int p3), .val (.int v8), .unset, .unset]) rfl ?_
        show Steps p.tables e below (s₁.setTop (mkF m 19 #[.val (.ref a0), .val (.int p1), .val (.int p2), .val (.int p3), .val (.int v8), .unset, .unset] [])) _
        refine XS.iload X0.here hx rfl (hb hby d3_19) rfl ?_
        exact k)
      obtain ⟨_, _, ⟨T11, L11, k11, n11⟩, -, X11, ⟨Lc11, hQ11, l11, y11, z11⟩, st11⟩ := Jvm.LawKit.callS X0 hx (y := (⟨"com/example/tercet/tercet/ConflictMarkersMarkerRunPinLaw", "isMarker", "(B)Z"⟩ : MethodName)) hown (mvT hZ (hw _ (List.mem_of_getElem? (i := 13) rfl))) (mvT hZ (hw _ (List.mem_of_getElem? (i := 14) rfl))) (mvT hZ (hw _ (List.mem_of_getElem? (i := 3) rfl))) (mvT hZ (hw _ (List.mem_of_getElem? (i := 15) rfl))) (by decide) (backOf (W := 0) (rm4 l Z aw hw [] v8 h0 n0 Z0) hZ (hw _ (List.mem_of_getElem? (i := 15) rfl)) (hw _ (List.mem_of_getElem? (i := 3) rfl)) (by decide) (by decide)) (g := (mkF m 21 #[.val (.ref a0), .val (.int p1), .val (.int p2), .val (.int p3), .val (.int v8), .unset, .unset] [(.int v8)])) rfl (by rw [hml]; rfl) (argsL := [(.int v8)]) (rest := []) (lenOf pd_3 rfl) rfl (by show 2 * 0 + _ ≤ _; exact Nat.le_of_eq rfl) (hb hby d3_21) (fun _ _ => ⟨rfl, e0, (by decide : 0 + 0 ≤ _), (by decide : 0 + 0 ≤ _)⟩)
      dsimp only [Pt.U, Pt.locs, Pt.cells, Pt.slots] at X11 l11 y11 z11 st11 hQ11
      subst l11 y11 z11
      obtain ⟨rfl, N11q, e11⟩ := hQ11
      have N11 := Fr.app N0 N11q
      have pre12 : ∀ t, Steps p.tables e below (T11.setTop (mkF m 24 #[.val (.ref a0), .val (.int p1), .val (.int p2), .val (.int p3), .val (.int v8), .unset, .unset] [(.int (f4 v8))])) t → Steps p.tables e below (s₁.setTop (entryFrame m #[(.ref a0), (.int p1), (.int p2), (.int p3)] 7)) t := fun t k => pre10 t (by
        show Steps p.tables e below (s₁.setTop (mkF m 21 #[.val (.ref a0), .val (.int p1), .val (.int p2), .val (.int p3), .val (.int v8), .unset, .unset] [(.int v8)])) _
        refine st11 _ ?_
        exact k)
      by_cases hc13 : (f4 v8) = (0 : Int32)
      · obtain ⟨fs, hr, hrun, hended, hW, hsame⟩ := X11.leave (v := some (.int (0 : Int32))) (fun h => by rw [Bd.returns] at h; cases h)
        refine ⟨_, _, pre12 _ ?_, hrun, hended, _, _, rfl, ?_, ⟨_, rfl⟩, hW, hsame.mono (by decide) (by decide)⟩
        · show Steps p.tables e below (T11.setTop (mkF m 24 #[.val (.ref a0), .val (.int p1), .val (.int p2), .val (.int p3), .val (.int v8), .unset, .unset] [(.int (f4 v8))])) _
          refine XS.ifNo X11.here hx rfl (hb hby d3_24) rfl ((if0 _ _).trans (teq hc13).2) ?_
          show Steps p.tables e below (T11.setTop (mkF m 27 #[.val (.ref a0), .val (.int p1), .val (.int p2), .val (.int p3), .val (.int v8), .unset, .unset] [])) _
          refine XS.iconst X11.here hx rfl (hb hby d3_27) ?_
          show Steps p.tables e below (T11.setTop (mkF m 28 #[.val (.ref a0), .val (.int p1), .val (.int p2), .val (.int p3), .val (.int v8), .unset, .unset] [(.int (0 : Int32))])) _
          exact retN X11 hx (t := .boolean) Bd.returns (by simp) (hb hby d3_28) hr
        · show Q3 Z a0 p1 p2 p3 ka_a0 vs_a0 h0 n0 _ T11.heap _
          rw [e11]
          exact ⟨congrArg (fun z => some (Value.int z)) (by subst hv8; simp only [f3, if_neg hc2, if_neg hc4, if_pos hc13]), N11, rfl⟩
      · have pre14 : ∀ t, Steps p.tables e below (T11.setTop (mkF m 29 #[.val (.ref a0), .val (.int p1), .val (.int p2), .val (.int p3), .val (.int v8), .unset, .unset] [])) t → Steps p.tables e below (s₁.setTop (entryFrame m #[(.ref a0), (.int p1), (.int p2), (.int p3)] 7)) t := fun t k => pre12 t (by
          show Steps p.tables e below (T11.setTop (mkF m 24 #[.val (.ref a0), .val (.int p1), .val (.int p2), .val (.int p3), .val (.int v8), .unset, .unset] [(.int (f4 v8))])) _
          refine XS.ifYes X11.here hx rfl (pc0 := 24) (pc' := 29) rfl (hb hby d3_24) rfl ((if0 _ _).trans (feq hc13).2) (by decide) (by decide) ?_
          exact k)
        by_cases hg15 : ¬ ((1 : Int32) < p3 ∧ ¬ ((own_get vs_a0 (p1 + (1 : Int32))) = v8))
        · have pre22 : ∀ t, Steps p.tables e below (T11.setTop (mkF m 46 #[.val (.ref a0), .val (.int p1), .val (.int p2), .val (.int p3), .val (.int v8), .unset, .unset] [])) t → Steps p.tables e below (s₁.setTop (entryFrame m #[(.ref a0), (.int p1), (.int p2), (.int p3)] 7)) t := by
            have pre16 : ∀ t, Steps p.tables e below (T11.setTop (mkF m 31 #[.val (.ref a0), .val (.int p1), .val (.int p2), .val (.int p3), .val (.int v8), .unset, .unset] [(.int p3), (.int (1 : Int32))])) t → Steps p.tables e below (s₁.setTop (entryFrame m #[(.ref a0), (.int p1), (.int p2), (.int p3)] 7)) t := fun t k => pre14 t (by
              show Steps p.tables e below (T11.setTop (mkF m 29 #[.val (.ref a0), .val (.int p1), .val (.int p2), .val (.int p3), .val (.int v8), .unset, .unset] [])) _
              refine XS.iconst X11.here hx rfl (hb hby d3_29) ?_
              show Steps p.tables e below (T11.setTop (mkF m 30 #[.val (.ref a0), .val (.int p1), .val (.int p2), .val (.int p3), .val (.int v8), .unset, .unset] [(.int (1 : Int32))])) _
              refine XS.iloadN X11.here hx rfl (hb hby d3_30) rfl ?_
              exact k)
            by_cases hc17 : (1 : Int32) < p3
            · have pre18 : ∀ t, Steps p.tables e below (T11.setTop (mkF m 38 #[.val (.ref a0), .val (.int p1), .val (.int p2), .val (.int p3), .val (.int v8), .unset, .unset] [(.int (p1 + (1 : Int32))), (.ref a0)])) t → Steps p.tables e below (s₁.setTop (entryFrame m #[(.ref a0), (.int p1), (.int p2), (.int p3)] 7)) t := fun t k => pre16 t (by
                show Steps p.tables e below (T11.setTop (mkF m 31 #[.val (.ref a0), .val (.int p1), .val (.int p2), .val (.int p3), .val (.int v8), .unset, .unset] [(.int p3), (.int (1 : Int32))])) _
                refine XS.icmpNo X11.here hx rfl (hb hby d3_31) rfl (tlt hc17).2.1 ?_
                show Steps p.tables e below (T11.setTop (mkF m 34 #[.val (.ref a0), .val (.int p1), .val (.int p2), .val (.int p3), .val (.int v8), .unset, .unset] [])) _
                refine XS.aloadN X11.here hx rfl (hb hby d3_34) rfl rfl ?_
                show Steps p.tables e below (T11.setTop (mkF m 35 #[.val (.ref a0), .val (.int p1), .val (.int p2), .val (.int p3), .val (.int v8), .unset, .unset] [(.ref a0)])) _
                refine XS.iloadN X11.here hx rfl (hb hby d3_35) rfl ?_
                show Steps p.tables e below (T11.setTop (mkF m 36 #[.val (.ref a0), .val (.int p1), .val (.int p2), .val (.int p3), .val (.int v8), .unset, .unset] [(.int p1), (.ref a0)])) _
                refine XS.iconst X11.here hx rfl (hb hby d3_36) ?_
                show Steps p.tables e below (T11.setTop (mkF m 37 #[.val (.ref a0), .val (.int p1), .val (.int p2), .val (.int p3), .val (.int v8), .unset, .unset] [(.int (1 : Int32)), (.int p1), (.ref a0)])) _
                refine XS.iadd X11.here hx rfl (hb hby d3_37) rfl ?_
                exact k)
              have kown_in3_38_1 : ¬ (p1 + (1 : Int32)) < 0 ∧ (p1 + (1 : Int32)) < (6 : Int32) := own_in3_38_1 p1 p2 p3 vs_a0 hr v8 hv8 hc2 hc4 hc13 hc17
              obtain ⟨cl19, Ar19, q19, S19, M19, H19, G19⟩ := id V_a0
              have hin19 : ¬ ((p1 + (1 : Int32)) < 0 ∨ cl19.slots.size ≤ ((p1 + (1 : Int32))).toNatClampNeg) := inb_of S19 kown_in3_38_1
              have hat19 : cl19.slots[((p1 + (1 : Int32))).toNatClampNeg]? = some (.int (own_get vs_a0 (p1 + (1 : Int32)))) := H19.at hin19 (own_getD vs_a0 (p1 + (1 : Int32)))
              have pre20 : ∀ t, Steps p.tables e below (T11.setTop (mkF m 41 #[.val (.ref a0), .val (.int p1), .val (.int p2), .val (.int p3), .val (.int v8), .unset, .unset] [(.int v8), (.int (own_get vs_a0 (p1 + (1 : Int32))))])) t → Steps p.tables e below (s₁.setTop (entryFrame m #[(.ref a0), (.int p1), (.int p2), (.int p3)] 7)) t := fun t k => pre18 t (by
                show Steps p.tables e below (T11.setTop (mkF m 38 #[.val (.ref a0), .val (.int p1), .val (.int p2), .val (.int p3), .val (.int v8), .unset, .unset] [(.int (p1 + (1 : Int32))), (.ref a0)])) _
                refine X11.baloadBytes hx (j := (p1 + (1 : Int32))) (v := (.int (own_get vs_a0 (p1 + (1 : Int32))))) (by rw [e11]; exact Ar19.1) (State.isArrayOf_alike hZ.alike Ar19.2.1) Ar19.2.2 hin19 hat19 (g := (mkF m 38 #[.val (.ref a0), .val (.int p1), .val (.int p2), .val (.int p3), .val (.int v8), .unset, .unset] [(.int (p1 + (1 : Int32))), (.ref a0)])) rfl rfl (hb hby d3_38) _ ?_
                show Steps p.tables e below (T11.setTop (mkF m 39 #[.val (.ref a0), .val (.int p1), .val (.int p2), .val (.int p3), .val (.int v8), .unset, .unset] [(.int (own_get vs_a0 (p1 + (1 : Int32))))])) _
                refine XS.iload X11.here hx rfl (hb hby d3_39) rfl ?_
                exact k)
              by_cases hc21 : (own_get vs_a0 (p1 + (1 : Int32))) = v8
              · exact fun t k => pre20 t (by
                  show Steps p.tables e below (T11.setTop (mkF m 41 #[.val (.ref a0), .val (.int p1), .val (.int p2), .val (.int p3), .val (.int v8), .unset, .unset] [(.int v8), (.int (own_get vs_a0 (p1 + (1 : Int32))))])) _
                  refine XS.icmpYes X11.here hx rfl (pc0 := 41) (pc' := 46) rfl (hb hby d3_41) rfl (teq hc21).1 (by decide) (by decide) ?_
                  exact k)
              · exfalso; simp [hc17, hc21] at hg15
            · exact fun t k => pre16 t (by
                show Steps p.tables e below (T11.setTop (mkF m 31 #[.val (.ref a0), .val (.int p1), .val (.int p2), .val (.int p3), .val (.int v8), .unset, .unset] [(.int p3), (.int (1 : Int32))])) _
                refine XS.icmpYes X11.here hx rfl (pc0 := 31) (pc' := 46) rfl (hb hby d3_31) rfl (flt hc17).2.1 (by decide) (by decide) ?_
                exact k)
          by_cases hg29 : ¬ ((2 : Int32) < p3 ∧ ¬ ((own_get vs_a0 (p1 + (2 : Int32))) = v8))
          · have pre36 : ∀ t, Steps p.tables e below (T11.setTop (mkF m 63 #[.val (.ref a0), .val (.int p1), .val (.int p2), .val (.int p3), .val (.int v8), .unset, .unset] [])) t → Steps p.tables e below (s₁.setTop (entryFrame m #[(.ref a0), (.int p1), (.int p2), (.int p3)] 7)) t := by
              have pre30 : ∀ t, Steps p.tables e below (T11.setTop (mkF m 48 #[.val (.ref a0), .val (.int p1), .val (.int p2), .val (.int p3), .val (.int v8), .unset, .unset] [(.int p3), (.int (2 : Int32))])) t → Steps p.tables e below (s₁.setTop (entryFrame m #[(.ref a0), (.int p1), (.int p2), (.int p3)] 7)) t := fun t k => pre22 t (by
                show Steps p.tables e below (T11.setTop (mkF m 46 #[.val (.ref a0), .val (.int p1), .val (.int p2), .val (.int p3), .val (.int v8), .unset, .unset] [])) _
                refine XS.iconst X11.here hx rfl (hb hby d3_46) ?_
                show Steps p.tables e below (T11.setTop (mkF m 47 #[.val (.ref a0), .val (.int p1), .val (.int p2), .val (.int p3), .val (.int v8), .unset, .unset] [(.int (2 : Int32))])) _
                refine XS.iloadN X11.here hx rfl (hb hby d3_47) rfl ?_
                exact k)
              by_cases hc31 : (2 : Int32) < p3
              · have pre32 : ∀ t, Steps p.tables e below (T11.setTop (mkF m 55 #[.val (.ref a0), .val (.int p1), .val (.int p2), .val (.int p3), .val (.int v8), .unset, .unset] [(.int (p1 + (2 : Int32))), (.ref a0)])) t → Steps p.tables e below (s₁.setTop (entryFrame m #[(.ref a0), (.int p1), (.int p2), (.int p3)] 7)) t := fun t k => pre30 t (by
                  show Steps p.tables e below (T11.setTop (mkF m 48 #[.val (.ref a0), .val (.int p1), .val (.int p2), .val (.int p3), .val (.int v8), .unset, .unset] [(.int p3), (.int (2 : Int32))])) _
                  refine XS.icmpNo X11.here hx rfl (hb hby d3_48) rfl (tlt hc31).2.1 ?_
                  show Steps p.tables e below (T11.setTop (mkF m 51 #[.val (.ref a0), .val (.int p1), .val (.int p2), .val (.int p3), .val (.int v8), .unset, .unset] [])) _
                  refine XS.aloadN X11.here hx rfl (hb hby d3_51) rfl rfl ?_
                  show Steps p.tables e below (T11.setTop (mkF m 52 #[.val (.ref a0), .val (.int p1), .val (.int p2), .val (.int p3), .val (.int v8), .unset, .unset] [(.ref a0)])) _
                  refine XS.iloadN X11.here hx rfl (hb hby d3_52) rfl ?_
                  show Steps p.tables e below (T11.setTop (mkF m 53 #[.val (.ref a0), .val (.int p1), .val (.int p2), .val (.int p3), .val (.int v8), .unset, .unset] [(.int p1), (.ref a0)])) _
                  refine XS.iconst X11.here hx rfl (hb hby d3_53) ?_
                  show Steps p.tables e below (T11.setTop (mkF m 54 #[.val (.ref a0), .val (.int p1), .val (.int p2), .val (.int p3), .val (.int v8), .unset, .unset] [(.int (2 : Int32)), (.int p1), (.ref a0)])) _
                  refine XS.iadd X11.here hx rfl (hb hby d3_54) rfl ?_
                  exact k)
                have kown_in3_55_1 : ¬ (p1 + (2 : Int32)) < 0 ∧ (p1 + (2 : Int32)) < (6 : Int32) := own_in3_55_1 p1 p2 p3 vs_a0 hr v8 hv8 hc2 hc4 hc13 hg15 hc31
                obtain ⟨cl33, Ar33, q33, S33, M33, H33, G33⟩ := id V_a0
                have hin33 : ¬ ((p1 + (2 : Int32)) < 0 ∨ cl33.slots.size ≤ ((p1 + (2 : Int32))).toNatClampNeg) := inb_of S33 kown_in3_55_1
                have hat33 : cl33.slots[((p1 + (2 : Int32))).toNatClampNeg]? = some (.int (own_get vs_a0 (p1 + (2 : Int32)))) := H33.at hin33 (own_getD vs_a0 (p1 + (2 : Int32)))
                have pre34 : ∀ t, Steps p.tables e below (T11.setTop (mkF m 58 #[.val (.ref a0), .val (.int p1), .val (.int p2), .val (.int p3), .val (.int v8), .unset, .unset] [(.int v8), (.int (own_get vs_a0 (p1 + (2 : Int32))))])) t → Steps p.tables e below (s₁.setTop (entryFrame m #[(.ref a0), (.int p1), (.int p2), (.int p3)] 7)) t := fun t k => pre32 t (by
                  show Steps p.tables e below (T11.setTop (mkF m 55 #[.val (.ref a0), .val (.int p1), .val (.int p2), .val (.int p3), .val (.int v8), .unset, .unset] [(.int (p1 + (2 : Int32))), (.ref a0)])) _
                  refine X11.baloadBytes hx (j := (p1 + (2 : Int32))) (v := (.int (own_get vs_a0 (p1 + (2 : Int32))))) (by rw [e11]; exact Ar33.1) (State.isArrayOf_alike hZ.alike Ar33.2.1) Ar33.2.2 hin33 hat33 (g := (mkF m 55 #[.val (.ref a0), .val (.int p1), .val (.int p2), .val (.int p3), .val (.int v8), .unset, .unset] [(.int (p1 + (2 : Int32))), (.ref a0)])) rfl rfl (hb hby d3_55) _ ?_
                  show Steps p.tables e below (T11.setTop (mkF m 56 #[.val (.ref a0), .val (.int p1), .val (.int p2), .val (.int p3), .val (.int v8), .unset, .unset] [(.int (own_get vs_a0 (p1 + (2 : Int32))))])) _
                  refine XS.iload X11.here hx rfl (hb hby d3_56) rfl ?_
                  exact k)
                by_cases hc35 : (own_get vs_a0 (p1 + (2 : Int32))) = v8
                · exact fun t k => pre34 t (by
                    show Steps p.tables e below (T11.setTop (mkF m 58 #[.val (.ref a0), .val (.int p1), .val (.int p2), .val (.int p3), .val (.int v8), .unset, .unset] [(.int v8), (.int (own_get vs_a0 (p1 + (2 : Int32))))])) _
                    refine XS.icmpYes X11.here hx rfl (pc0 := 58) (pc' := 63) rfl (hb hby d3_58) rfl (teq hc35).1 (by decide) (by decide) ?_
                    exact k)
                · exfalso; simp [hc31, hc35] at hg29
              · exact fun t k => pre30 t (by
                  show Steps p.tables e below (T11.setTop (mkF m 48 #[.val (.ref a0), .val (.int p1), .val (.int p2), .val (.int p3), .val (.int v8), .unset, .unset] [(.int p3), (.int (2 : Int32))])) _
                  refine XS.icmpYes X11.here hx rfl (pc0 := 48) (pc' := 63) rfl (hb hby d3_48) rfl (flt hc31).2.1 (by decide) (by decide) ?_
                  exact k)
            by_cases hg43 : ¬ ((3 : Int32) < p3 ∧ ¬ ((own_get vs_a0 (p1 + (3 : Int32))) = v8))
            · have pre50 : ∀ t, Steps p.tables e below (T11.setTop (mkF m 80 #[.val (.ref a0), .val (.int p1), .val (.int p2), .val (.int p3), .val (.int v8), .unset, .unset] [])) t → Steps p.tables e below (s₁.setTop (entryFrame m #[(.ref a0), (.int p1), (.int p2), (.int p3)] 7)) t := by
                have pre44 : ∀ t, Steps p.tables e below (T11.setTop (mkF m 65 #[.val (.ref a0), .val (.int p1), .val (.int p2), .val (.int p3), .val (.int v8), .unset, .unset] [(.int p3), (.int (3 : Int32))])) t → Steps p.tables e below (s₁.setTop (entryFrame m #[(.ref a0), (.int p1), (.int p2), (.int p3)] 7)) t := fun t k => pre36 t (by
                  show Steps p.tables e below (T11.setTop (mkF m 63 #[.val (.ref a0), .val (.int p1), .val (.int p2), .val (.int p3), .val (.int v8), .unset, .unset] [])) _
                  refine XS.iconst X11.here hx rfl (hb hby d3_63) ?_
                  show Steps p.tables e below (T11.setTop (mkF m 64 #[.val (.ref a0), .val (.int p1), .val (.int p2), .val (.int p3), .val (.int v8), .unset, .unset] [(.int (3 : Int32))])) _
                  refine XS.iloadN X11.here hx rfl (hb hby d3_64) rfl ?_
                  exact k)
                by_cases hc45 : (3 : Int32) < p3
                · have pre46 : ∀ t, Steps p.tables e below (T11.setTop (mkF m 72 #[.val (.ref a0), .val (.int p1), .val (.int p2), .val (.int p3), .val (.int v8), .unset, .unset] [(.int (p1 + (3 : Int32))), (.ref a0)])) t → Steps p.tables e below (s₁.setTop (entryFrame m #[(.ref a0), (.int p1), (.int p2), (.int p3)] 7)) t := fun t k => pre44 t (by
                    show Steps p.tables e below (T11.setTop (mkF m 65 #[.val (.ref a0), .val (.int p1), .val (.int p2), .val (.int p3), .val (.int v8), .unset, .unset] [(.int p3), (.int (3 : Int32))])) _
                    refine XS.icmpNo X11.here hx rfl (hb hby d3_65) rfl (tlt hc45).2.1 ?_
                    show Steps p.tables e below (T11.setTop (mkF m 68 #[.val (.ref a0), .val (.int p1), .val (.int p2), .val (.int p3), .val (.int v8), .unset, .unset] [])) _
                    refine XS.aloadN X11.here hx rfl (hb hby d3_68) rfl rfl ?_
                    show Steps p.tables e below (T11.setTop (mkF m 69 #[.val (.ref a0), .val (.int p1), .val (.int p2), .val (.int p3), .val (.int v8), .unset, .unset] [(.ref a0)])) _
                    refine XS.iloadN X11.here hx rfl (hb hby d3_69) rfl ?_
                    show Steps p.tables e below (T11.setTop (mkF m 70 #[.val (.ref a0), .val (.int p1), .val (.int p2), .val (.int p3), .val (.int v8), .unset, .unset] [(.int p1), (.ref a0)])) _
                    refine XS.iconst X11.here hx rfl (hb hby d3_70) ?_
                    show Steps p.tables e below (T11.setTop (mkF m 71 #[.val (.ref a0), .val (.int p1), .val (.int p2), .val (.int p3), .val (.int v8), .unset, .unset] [(.int (3 : Int32)), (.int p1), (.ref a0)])) _
                    refine XS.iadd X11.here hx rfl (hb hby d3_71) rfl ?_
                    exact k)
                  have kown_in3_72_1 : ¬ (p1 + (3 : Int32)) < 0 ∧ (p1 + (3 : Int32)) < (6 : Int32) := own_in3_72_1 p1 p2 p3 vs_a0 hr v8 hv8 hc2 hc4 hc13 hg15 hg29 hc45
                  obtain ⟨cl47, Ar47, q47, S47, M47, H47, G47⟩ := id V_a0
                  have hin47 : ¬ ((p1 + (3 : Int32)) < 0 ∨ cl47.slots.size ≤ ((p1 + (3 : Int32))).toNatClampNeg) := inb_of S47 kown_in3_72_1
                  have hat47 : cl47.slots[((p1 + (3 : Int32))).toNatClampNeg]? = some (.int (own_get vs_a0 (p1 + (3 : Int32)))) := H47.at hin47 (own_getD vs_a0 (p1 + (3 : Int32)))
                  have pre48 : ∀ t, Steps p.tables e below (T11.setTop (mkF m 75 #[.val (.ref a0), .val (.int p1), .val (.int p2), .val (.int p3), .val (.int v8), .unset, .unset] [(.int v8), (.int (own_get vs_a0 (p1 + (3 : Int32))))])) t → Steps p.tables e below (s₁.setTop (entryFrame m #[(.ref a0), (.int p1), (.int p2), (.int p3)] 7)) t := fun t k => pre46 t (by
                    show Steps p.tables e below (T11.setTop (mkF m 72 #[.val (.ref a0), .val (.int p1), .val (.int p2), .val (.int p3), .val (.int v8), .unset, .unset] [(.int (p1 + (3 : Int32))), (.ref a0)])) _
                    refine X11.baloadBytes hx (j := (p1 + (3 : Int32))) (v := (.int (own_get vs_a0 (p1 + (3 : Int32))))) (by rw [e11]; exact Ar47.1) (State.isArrayOf_alike hZ.alike Ar47.2.1) Ar47.2.2 hin47 hat47 (g := (mkF m 72 #[.val (.ref a0), .val (.int p1), .val (.int p2), .val (.int p3), .val (.int v8), .unset, .unset] [(.int (p1 + (3 : Int32))), (.ref a0)])) rfl rfl (hb hby d3_72) _ ?_
                    show Steps p.tables e below (T11.setTop (mkF m 73 #[.val (.ref a0), .val (.int p1), .val (.int p2), .val (.int p3), .val (.int v8), .unset, .unset] [(.int (own_get vs_a0 (p1 + (3 : Int32))))])) _
                    refine XS.iload X11.here hx rfl (hb hby d3_73) rfl ?_
                    exact k)
                  by_cases hc49 : (own_get vs_a0 (p1 + (3 : Int32))) = v8
                  · exact fun t k => pre48 t (by
                      show Steps p.tables e below (T11.setTop (mkF m 75 #[.val (.ref a0), .val (.int p1), .val (.int p2), .val (.int p3), .val (.int v8), .unset, .unset] [(.int v8), (.int (own_get vs_a0 (p1 + (3 : Int32))))])) _
                      refine XS.icmpYes X11.here hx rfl (pc0 := 75) (pc' := 80) rfl (hb hby d3_75) rfl (teq hc49).1 (by decide) (by decide) ?_
                      exact k)
                  · exfalso; simp [hc45, hc49] at hg43
                · exact fun t k => pre44 t (by
                    show Steps p.tables e below (T11.setTop (mkF m 65 #[.val (.ref a0), .val (.int p1), .val (.int p2), .val (.int p3), .val (.int v8), .unset, .unset] [(.int p3), (.int (3 : Int32))])) _
                    refine XS.icmpYes X11.here hx rfl (pc0 := 65) (pc' := 80) rfl (hb hby d3_65) rfl (flt hc45).2.1 (by decide) (by decide) ?_
                    exact k)
              by_cases hg57 : ¬ ((4 : Int32) < p3 ∧ ¬ ((own_get vs_a0 (p1 + (4 : Int32))) = v8))
              · have pre64 : ∀ t, Steps p.tables e below (T11.setTop (mkF m 97 #[.val (.ref a0), .val (.int p1), .val (.int p2), .val (.int p3), .val (.int v8), .unset, .unset] [])) t → Steps p.tables e below (s₁.setTop (entryFrame m #[(.ref a0), (.int p1), (.int p2), (.int p3)] 7)) t := by
                  have pre58 : ∀ t, Steps p.tables e below (T11.setTop (mkF m 82 #[.val (.ref a0), .val (.int p1), .val (.int p2), .val (.int p3), .val (.int v8), .unset, .unset] [(.int p3), (.int (4 : Int32))])) t → Steps p.tables e below (s₁.setTop (entryFrame m #[(.ref a0), (.int p1), (.int p2), (.int p3)] 7)) t := fun t k => pre50 t (by
                    show Steps p.tables e below (T11.setTop (mkF m 80 #[.val (.ref a0), .val (.int p1), .val (.int p2), .val (.int p3), .val (.int v8), .unset, .unset] [])) _
                    refine XS.iconst X11.here hx rfl (hb hby d3_80) ?_
                    show Steps p.tables e below (T11.setTop (mkF m 81 #[.val (.ref a0), .val (.int p1), .val (.int p2), .val (.int p3), .val (.int v8), .unset, .unset] [(.int (4 : Int32))])) _
                    refine XS.iloadN X11.here hx rfl (hb hby d3_81) rfl ?_
                    exact k)
                  by_cases hc59 : (4 : Int32) < p3
                  · have pre60 : ∀ t, Steps p.tables e below (T11.setTop (mkF m 89 #[.val (.ref a0), .val (.int p1), .val (.int p2), .val (.int p3), .val (.int v8), .unset, .unset] [(.int (p1 + (4 : Int32))), (.ref a0)])) t → Steps p.tables e below (s₁.setTop (entryFrame m #[(.ref a0), (.int p1), (.int p2), (.int p3)] 7)) t := fun t k => pre58 t (by
                      show Steps p.tables e below (T11.setTop (mkF m 82 #[.val (.ref a0), .val (.int p1), .val (.int p2), .val (.int p3), .val (.int v8), .unset, .unset] [(.int p3), (.int (4 : Int32))])) _
                      refine XS.icmpNo X11.here hx rfl (hb hby d3_82) rfl (tlt hc59).2.1 ?_
                      show Steps p.tables e below (T11.setTop (mkF m 85 #[.val (.ref a0), .val (.int p1), .val (.int p2), .val (.int p3), .val (.int v8), .unset, .unset] [])) _
                      refine XS.aloadN X11.here hx rfl (hb hby d3_85) rfl rfl ?_
                      show Steps p.tables e below (T11.setTop (mkF m 86 #[.val (.ref a0), .val (.int p1), .val (.int p2), .val (.int p3), .val (.int v8), .unset, .unset] [(.ref a0)])) _
                      refine XS.iloadN X11.here hx rfl (hb hby d3_86) rfl ?_
                      show Steps p.tables e below (T11.setTop (mkF m 87 #[.val (.ref a0), .val (.int p1), .val (.int p2), .val (.int p3), .val (.int v8), .unset, .unset] [(.int p1), (.ref a0)])) _
                      refine XS.iconst X11.here hx rfl (hb hby d3_87) ?_
                      show Steps p.tables e below (T11.setTop (mkF m 88 #[.val (.ref a0), .val (.int p1), .val (.int p2), .val (.int p3), .val (.int v8), .unset, .unset] [(.int (4 : Int32)), (.int p1), (.ref a0)])) _
                      refine XS.iadd X11.here hx rfl (hb hby d3_88) rfl ?_
                      exact k)
                    have kown_in3_89_1 : ¬ (p1 + (4 : Int32)) < 0 ∧ (p1 + (4 : Int32)) < (6 : Int32) := own_in3_89_1 p1 p2 p3 vs_a0 hr v8 hv8 hc2 hc4 hc13 hg15 hg29 hg43 hc59
                    obtain ⟨cl61, Ar61, q61, S61, M61, H61, G61⟩ := id V_a0
                    have hin61 : ¬ ((p1 + (4 : Int32)) < 0 ∨ cl61.slots.size ≤ ((p1 + (4 : Int32))).toNatClampNeg) := inb_of S61 kown_in3_89_1
                    have hat61 : cl61.slots[((p1 + (4 : Int32))).toNatClampNeg]? = some (.int (own_get vs_a0 (p1 + (4 : Int32)))) := H61.at hin61 (own_getD vs_a0 (p1 + (4 : Int32)))
                    have pre62 : ∀ t, Steps p.tables e below (T11.setTop (mkF m 92 #[.val (.ref a0), .val (.int p1), .val (.int p2), .val (.int p3), .val (.int v8), .unset, .unset] [(.int v8), (.int (own_get vs_a0 (p1 + (4 : Int32))))])) t → Steps p.tables e below (s₁.setTop (entryFrame m #[(.ref a0), (.int p1), (.int p2), (.int p3)] 7)) t := fun t k => pre60 t (by
                      show Steps p.tables e below (T11.setTop (mkF m 89 #[.val (.ref a0), .val (.int p1), .val (.int p2), .val (.int p3), .val (.int v8), .unset, .unset] [(.int (p1 + (4 : Int32))), (.ref a0)])) _
                      refine X11.baloadBytes hx (j := (p1 + (4 : Int32))) (v := (.int (own_get vs_a0 (p1 + (4 : Int32))))) (by rw [e11]; exact Ar61.1) (State.isArrayOf_alike hZ.alike Ar61.2.1) Ar61.2.2 hin61 hat61 (g := (mkF m 89 #[.val (.ref a0), .val (.int p1), .val (.int p2), .val (.int p3), .val (.int v8), .unset, .unset] [(.int (p1 + (4 : Int32))), (.ref a0)])) rfl rfl (hb hby d3_89) _ ?_
                      show Steps p.tables e below (T11.setTop (mkF m 90 #[.val (.ref a0), .val (.int p1), .val (.int p2), .val (.int p3), .val (.int v8), .unset, .unset] [(.int (own_get vs_a0 (p1 + (4 : Int32))))])) _
                      refine XS.iload X11.here hx rfl (hb hby d3_90) rfl ?_
                      exact k)
                    by_cases hc63 : (own_get vs_a0 (p1 + (4 : Int32))) = v8
                    · exact fun t k => pre62 t (by
                        show Steps p.tables e below (T11.setTop (mkF m 92 #[.val (.ref a0), .val (.int p1), .val (.int p2), .val (.int p3), .val (.int v8), .unset, .unset] [(.int v8), (.int (own_get vs_a0 (p1 + (4 : Int32))))])) _
                        refine XS.icmpYes X11.here hx rfl (pc0 := 92) (pc' := 97) rfl (hb hby d3_92) rfl (teq hc63).1 (by decide) (by decide) ?_
                        exact k)
                    · exfalso; simp [hc59, hc63] at hg57
                  · exact fun t k => pre58 t (by
                      show Steps p.tables e below (T11.setTop (mkF m 82 #[.val (.ref a0), .val (.int p1), .val (.int p2), .val (.int p3), .val (.int v8), .unset, .unset] [(.int p3), (.int (4 : Int32))])) _
                      refine XS.icmpYes X11.here hx rfl (pc0 := 82) (pc' := 97) rfl (hb hby d3_82) rfl (flt hc59).2.1 (by decide) (by decide) ?_
                      exact k)
                by_cases hg71 : ¬ ((5 : Int32) < p3 ∧ ¬ ((own_get vs_a0 (p1 + (5 : Int32))) = v8))
                · have pre78 : ∀ t, Steps p.tables e below (T11.setTop (mkF m 114 #[.val (.ref a0), .val (.int p1), .val (.int p2), .val (.int p3), .val (.int v8), .unset, .unset] [])) t → Steps p.tables e below (s₁.setTop (entryFrame m #[(.ref a0), (.int p1), (.int p2), (.int p3)] 7)) t := by
                    have pre72 : ∀ t, Steps p.tables e below (T11.setTop (mkF m 99 #[.val (.ref a0), .val (.int p1), .val (.int p2), .val (.int p3), .val (.int v8), .unset, .unset] [(.int p3), (.int (5 : Int32))])) t → Steps p.tables e below (s₁.setTop (entryFrame m #[(.ref a0), (.int p1), (.int p2), (.int p3)] 7)) t := fun t k => pre64 t (by
                      show Steps p.tables e below (T11.setTop (mkF m 97 #[.val (.ref a0), .val (.int p1), .val (.int p2), .val (.int p3), .val (.int v8), .unset, .unset] [])) _
                      refine XS.iconst X11.here hx rfl (hb hby d3_97) ?_
                      show Steps p.tables e below (T11.setTop (mkF m 98 #[.val (.ref a0), .val (.int p1), .val (.int p2), .val (.int p3), .val (.int v8), .unset, .unset] [(.int (5 : Int32))])) _
                      refine XS.iloadN X11.here hx rfl (hb hby d3_98) rfl ?_
                      exact k)
                    by_cases hc73 : (5 : Int32) < p3
                    · have pre74 : ∀ t, Steps p.tables e below (T11.setTop (mkF m 106 #[.val (.ref a0), .val (.int p1), .val (.int p2), .val (.int p3), .val (.int v8), .unset, .unset] [(.int (p1 + (5 : Int32))), (.ref a0)])) t → Steps p.tables e below (s₁.setTop (entryFrame m #[(.ref a0), (.int p1), (.int p2), (.int p3)] 7)) t := fun t k => pre72 t (by
                        show Steps p.tables e below (T11.setTop (mkF m 99 #[.val (.ref a0), .val (.int p1), .val (.int p2), .val (.int p3), .val (.int v8), .unset, .unset] [(.int p3), (.int (5 : Int32))])) _
                        refine XS.icmpNo X11.here hx rfl (hb hby d3_99) rfl (tlt hc73).2.1 ?_
                        show Steps p.tables e below (T11.setTop (mkF m 102 #[.val (.ref a0), .val (.int p1), .val (.int p2), .val (.int p3), .val (.int v8), .unset, .unset] [])) _
                        refine XS.aloadN X11.here hx rfl (hb hby d3_102) rfl rfl ?_
                        show Steps p.tables e below (T11.setTop (mkF m 103 #[.val (.ref a0), .val (.int p1), .val (.int p2), .val (.int p3), .val (.int v8), .unset, .unset] [(.ref a0)])) _
                        refine XS.iloadN X11.here hx rfl (hb hby d3_103) rfl ?_
                        show Steps p.tables e below (T11.setTop (mkF m 104 #[.val (.ref a0), .val (.int p1), .val (.int p2), .val (.int p3), .val (.int v8), .unset, .unset] [(.int p1), (.ref a0)])) _
                        refine XS.iconst X11.here hx rfl (hb hby d3_104) ?_
                        show Steps p.tables e below (T11.setTop (mkF m 105 #[.val (.ref a0), .val (.int p1), .val (.int p2), .val (.int p3), .val (.int v8), .unset, .unset] [(.int (5 : Int32)), (.int p1), (.ref a0)])) _
                        refine XS.iadd X11.here hx rfl (hb hby d3_105) rfl ?_
                        exact k)
                      have kown_in3_106_1 : ¬ (p1 + (5 : Int32)) < 0 ∧ (p1 + (5 : Int32)) < (6 : Int32) := own_in3_106_1 p1 p2 p3 vs_a0 hr v8 hv8 hc2 hc4 hc13 hg15 hg29 hg43 hg57 hc73
                      obtain ⟨cl75, Ar75, q75, S75, M75, H75, G75⟩ := id V_a0
                      have hin75 : ¬ ((p1 + (5 : Int32)) < 0 ∨ cl75.slots.size ≤ ((p1 + (5 : Int32))).toNatClampNeg) := inb_of S75 kown_in3_106_1
                      have hat75 : cl75.slots[((p1 + (5 : Int32))).toNatClampNeg]? = some (.int (own_get vs_a0 (p1 + (5 : Int32)))) := H75.at hin75 (own_getD vs_a0 (p1 + (5 : Int32)))
                      have pre76 : ∀ t, Steps p.tables e below (T11.setTop (mkF m 109 #[.val (.ref a0), .val (.int p1), .val (.int p2), .val (.int p3), .val (.int v8), .unset, .unset] [(.int v8), (.int (own_get vs_a0 (p1 + (5 : Int32))))])) t → Steps p.tables e below (s₁.setTop (entryFrame m #[(.ref a0), (.int p1), (.int p2), (.int p3)] 7)) t := fun t k => pre74 t (by
                        show Steps p.tables e below (T11.setTop (mkF m 106 #[.val (.ref a0), .val (.int p1), .val (.int p2), .val (.int p3), .val (.int v8), .unset, .unset] [(.int (p1 + (5 : Int32))), (.ref a0)])) _
                        refine X11.baloadBytes hx (j := (p1 + (5 : Int32))) (v := (.int (own_get vs_a0 (p1 + (5 : Int32))))) (by rw [e11]; exact Ar75.1) (State.isArrayOf_alike hZ.alike Ar75.2.1) Ar75.2.2 hin75 hat75 (g := (mkF m 106 #[.val (.ref a0), .val (.int p1), .val (.int p2), .val (.int p3), .val (.int v8), .unset, .unset] [(.int (p1 + (5 : Int32))), (.ref a0)])) rfl rfl (hb hby d3_106) _ ?_
                        show Steps p.tables e below (T11.setTop (mkF m 107 #[.val (.ref a0), .val (.int p1), .val (.int p2), .val (.int p3), .val (.int v8), .unset, .unset] [(.int (own_get vs_a0 (p1 + (5 : Int32))))])) _
                        refine XS.iload X11.here hx rfl (hb hby d3_107) rfl ?_
                        exact k)
                      by_cases hc77 : (own_get vs_a0 (p1 + (5 : Int32))) = v8
                      · exact fun t k => pre76 t (by
                          show Steps p.tables e below (T11.setTop (mkF m 109 #[.val (.ref a0), .val (.int p1), .val (.int p2), .val (.int p3), .val (.int v8), .unset, .unset] [(.int v8), (.int (own_get vs_a0 (p1 + (5 : Int32))))])) _
                          refine XS.icmpYes X11.here hx rfl (pc0 := 109) (pc' := 114) rfl (hb hby d3_109) rfl (teq hc77).1 (by decide) (by decide) ?_
                          exact k)
                      · exfalso; simp [hc73, hc77] at hg71
                    · exact fun t k => pre72 t (by
                        show Steps p.tables e below (T11.setTop (mkF m 99 #[.val (.ref a0), .val (.int p1), .val (.int p2), .val (.int p3), .val (.int v8), .unset, .unset] [(.int p3), (.int (5 : Int32))])) _
                        refine XS.icmpYes X11.here hx rfl (pc0 := 99) (pc' := 114) rfl (hb hby d3_99) rfl (flt hc73).2.1 (by decide) (by decide) ?_
                        exact k)
                  have pre85 : ∀ t, Steps p.tables e below (T11.setTop (mkF m 117 #[.val (.ref a0), .val (.int p1), .val (.int p2), .val (.int p3), .val (.int v8), .unset, .unset] [(.int (p1 + p3))])) t → Steps p.tables e below (s₁.setTop (entryFrame m #[(.ref a0), (.int p1), (.int p2), (.int p3)] 7)) t := fun t k => pre78 t (by
                    show Steps p.tables e below (T11.setTop (mkF m 114 #[.val (.ref a0), .val (.int p1), .val (.int p2), .val (.int p3), .val (.int v8), .unset, .unset] [])) _
                    refine XS.iloadN X11.here hx rfl (hb hby d3_114) rfl ?_
                    show Steps p.tables e below (T11.setTop (mkF m 115 #[.val (.ref a0), .val (.int p1), .val (.int p2), .val (.int p3), .val (.int v8), .unset, .unset] [(.int p1)])) _
                    refine XS.iloadN X11.here hx rfl (hb hby d3_115) rfl ?_
                    show Steps p.tables e below (T11.setTop (mkF m 116 #[.val (.ref a0), .val (.int p1), .val (.int p2), .val (.int p3), .val (.int v8), .unset, .unset] [(.int p3), (.int p1)])) _
                    refine XS.iadd X11.here hx rfl (hb hby d3_116) rfl ?_
                    exact k)
                  obtain ⟨v86, hv86⟩ : ∃ z : Int32, z = (p1 + p3) := ⟨_, rfl⟩
                  have pre87 : ∀ t, Steps p.tables e below (T11.setTop (mkF m 117 #[.val (.ref a0), .val (.int p1), .val (.int p2), .val (.int p3), .val (.int v8), .unset, .unset] [(.int v86)])) t → Steps p.tables e below (s₁.setTop (entryFrame m #[(.ref a0), (.int p1), (.int p2), (.int p3)] 7)) t := fun t k => pre85 t (by rw [hv86] at k; exact k)
                  have pre88 : ∀ t, Steps p.tables e below (T11.setTop (mkF m 122 #[.val (.ref a0), .val (.int p1), .val (.int p2), .val (.int p3), .val (.int v8), .val (.int v86), .unset] [(.int p2), (.int v86)])) t → Steps p.tables e below (s₁.setTop (entryFrame m #[(.ref a0), (.int p1), (.int p2), (.int p3)] 7)) t := fun t k => pre87 t (by
                    show Steps p.tables e below (T11.setTop (mkF m 117 #[.val (.ref a0), .val (.int p1), .val (.int p2), .val (.int p3), .val (.int v8), .unset, .unset] [(.int v86)])) _
                    refine XS.istore X11.here hx rfl (hb hby d3_117) rfl (l' := #[.val (.ref a0), .val (.int p1), .val (.int p2), .val (.int p3), .val (.int v8), .val (.int v86), .unset]) rfl ?_
                    show Steps p.tables e below (T11.setTop (mkF m 119 #[.val (.ref a0), .val (.int p1), .val (.int p2), .val (.int p3), .val (.int v8), .val (.int v86), .unset] [])) _
                    refine XS.iload X11.here hx rfl (hb hby d3_119) rfl ?_
                    show Steps p.tables e below (T11.setTop (mkF m 121 #[.val (.ref a0), .val (.int p1), .val (.int p2), .val (.int p3), .val (.int v8), .val (.int v86), .unset] [(.int v86)])) _
                    refine XS.iloadN X11.here hx rfl (hb hby d3_121) rfl ?_
                    exact k)
                  by_cases hc89 : v86 = p2
                  · obtain ⟨fs, hr, hrun, hended, hW, hsame⟩ := X11.leave (v := some (.int (1 : Int32))) (fun h => by rw [Bd.returns] at h; cases h)
                    refine ⟨_, _, pre88 _ ?_, hrun, hended, _, _, rfl, ?_, ⟨_, rfl⟩, hW, hsame.mono (by decide) (by decide)⟩
                    · show Steps p.tables e below (T11.setTop (mkF m 122 #[.val (.ref a0), .val (.int p1), .val (.int p2), .val (.int p3), .val (.int v8), .val (.int v86), .unset] [(.int p2), (.int v86)])) _
                      refine XS.icmpNo X11.here hx rfl (hb hby d3_122) rfl (teq hc89).2 ?_
                      show Steps p.tables e below (T11.setTop (mkF m 125 #[.val (.ref a0), .val (.int p1), .val (.int p2), .val (.int p3), .val (.int v8), .val (.int v86), .unset] [])) _
                      refine XS.iconst X11.here hx rfl (hb hby d3_125) ?_
                      show Steps p.tables e below (T11.setTop (mkF m 126 #[.val (.ref a0), .val (.int p1), .val (.int p2), .val (.int p3), .val (.int v8), .val (.int v86), .unset] [(.int (1 : Int32))])) _
                      exact retN X11 hx (t := .boolean) Bd.returns (by simp) (hb hby d3_126) hr
                    · show Q3 Z a0 p1 p2 p3 ka_a0 vs_a0 h0 n0 _ T11.heap _
                      rw [e11]
                      exact ⟨congrArg (fun z => some (Value.int z)) (by subst hv86 hv8; simp only [f3, if_neg hc2, if_neg hc4, if_neg hc13, if_pos hg15, if_pos hg29, if_pos hg43, if_pos hg57, if_pos hg71, if_pos hc89]), N11, rfl⟩
                  · have pre90 : ∀ t, Steps p.tables e below (T11.setTop (mkF m 130 #[.val (.ref a0), .val (.int p1), .val (.int p2), .val (.int p3), .val (.int v8), .val (.int v86), .unset] [(.int v86), (.ref a0)])) t → Steps p.tables e below (s₁.setTop (entryFrame m #[(.ref a0), (.int p1), (.int p2), (.int p3)] 7)) t := fun t k => pre88 t (by
                      show Steps p.tables e below (T11.setTop (mkF m 122 #[.val (.ref a0), .val (.int p1), .val (.int p2), .val (.int p3), .val (.int v8), .val (.int v86), .unset] [(.int p2), (.int v86)])) _
                      refine XS.icmpYes X11.here hx rfl (pc0 := 122) (pc' := 127) rfl (hb hby d3_122) rfl (feq hc89).2 (by decide) (by decide) ?_
                      show Steps p.tables e below (T11.setTop (mkF m 127 #[.val (.ref a0), .val (.int p1), .val (.int p2), .val (.int p3), .val (.int v8), .val (.int v86), .unset] [])) _
                      refine XS.aloadN X11.here hx rfl (hb hby d3_127) rfl rfl ?_
                      show Steps p.tables e below (T11.setTop (mkF m 128 #[.val (.ref a0), .val (.int p1), .val (.int p2), .val (.int p3), .val (.int v8), .val (.int v86), .unset] [(.ref a0)])) _
                      refine XS.iload X11.here hx rfl (hb hby d3_128) rfl ?_
                      exact k)
                    have kown_in3_130_1 : ¬ v86 < 0 ∧ v86 < (6 : Int32) := own_in3_130_1 p1 p2 p3 vs_a0 hr v8 hv8 v86 hv86 hc2 hc4 hc13 hg15 hg29 hg43 hg57 hg71 hc89
                    obtain ⟨cl91, Ar91, q91, S91, M91, H91, G91⟩ := id V_a0
                    have hin91 : ¬ (v86 < 0 ∨ cl91.slots.size ≤ (v86).toNatClampNeg) := inb_of S91 kown_in3_130_1
                    have hat91 : cl91.slots[(v86).toNatClampNeg]? = some (.int (own_get vs_a0 v86)) := H91.at hin91 (own_getD vs_a0 v86)
                    have pre92 : ∀ t, Steps p.tables e below (T11.setTop (mkF m 131 #[.val (.ref a0), .val (.int p1), .val (.int p2), .val (.int p3), .val (.int v8), .val (.int v86), .unset] [(.int (own_get vs_a0 v86))])) t → Steps p.tables e below (s₁.setTop (entryFrame m #[(.ref a0), (.int p1), (.int p2), (.int p3)] 7)) t := fun t k => pre90 t (by
                      show Steps p.tables e below (T11.setTop (mkF m 130 #[.val (.ref a0), .val (.int p1), .val (.int p2), .val (.int p3), .val (.int v8), .val (.int v86), .unset] [(.int v86), (.ref a0)])) _
                      refine X11.baloadBytes hx (j := v86) (v := (.int (own_get vs_a0 v86))) (by rw [e11]; exact Ar91.1) (State.isArrayOf_alike hZ.alike Ar91.2.1) Ar91.2.2 hin91 hat91 (g := (mkF m 130 #[.val (.ref a0), .val (.int p1), .val (.int p2), .val (.int p3), .val (.int v8), .val (.int v86), .unset] [(.int v86), (.ref a0)])) rfl rfl (hb hby d3_130) _ ?_
                      exact k)
                    obtain ⟨v93, hv93⟩ : ∃ z : Int32, z = (own_get vs_a0 v86) := ⟨_, rfl⟩
                    have pre94 : ∀ t, Steps p.tables e below (T11.setTop (mkF m 131 #[.val (.ref a0), .val (.int p1), .val (.int p2), .val (.int p3), .val (.int v8), .val (.int v86), .unset] [(.int v93)])) t → Steps p.tables e below (s₁.setTop (entryFrame m #[(.ref a0), (.int p1), (.int p2), (.int p3)] 7)) t := fun t k => pre92 t (by rw [hv93] at k; exact k)
                    have pre95 : ∀ t, Steps p.tables e below (T11.setTop (mkF m 137 #[.val (.ref a0), .val (.int p1), .val (.int p2), .val (.int p3), .val (.int v8), .val (.int v86), .val (.int v93)] [(.int (32 : Int32)), (.int v93)])) t → Steps p.tables e below (s₁.setTop (entryFrame m #[(.ref a0), (.int p1), (.int p2), (.int p3)] 7)) t := fun t k => pre94 t (by
                      show Steps p.tables e below (T11.setTop (mkF m 131 #[.val (.ref a0), .val (.int p1), .val (.int p2), .val (.int p3), .val (.int v8), .val (.int v86), .unset] [(.int v93)])) _
                      refine XS.istore X11.here hx rfl (hb hby d3_131) rfl (l' := #[.val (.ref a0), .val (.int p1), .val (.int p2), .val (.int p3), .val (.int v8), .val (.int v86), .val (.int v93)]) rfl ?_
                      show Steps p.tables e below (T11.setTop (mkF m 133 #[.val (.ref a0), .val (.int p1), .val (.int p2), .val (.int p3), .val (.int v8), .val (.int v86), .val (.int v93)] [])) _
                      refine XS.iload X11.here hx rfl (hb hby d3_133) rfl ?_
                      show Steps p.tables e below (T11.setTop (mkF m 135 #[.val (.ref a0), .val (.int p1), .val (.int p2), .val (.int p3), .val (.int v8), .val (.int v86), .val (.int v93)] [(.int v93)])) _
                      refine XS.bipush X11.here hx rfl (hb hby d3_135) ?_
                      exact k)
                    by_cases hc96 : v93 = (32 : Int32)
                    · obtain ⟨fs, hr, hrun, hended, hW, hsame⟩ := X11.leave (v := some (.int (1 : Int32))) (fun h => by rw [Bd.returns] at h; cases h)
                      refine ⟨_, _, pre95 _ ?_, hrun, hended, _, _, rfl, ?_, ⟨_, rfl⟩, hW, hsame.mono (by decide) (by decide)⟩
                      · show Steps p.tables e below (T11.setTop (mkF m 137 #[.val (.ref a0), .val (.int p1), .val (.int p2), .val (.int p3), .val (.int v8), .val (.int v86), .val (.int v93)] [(.int (32 : Int32)), (.int v93)])) _
                        refine XS.icmpNo X11.here hx rfl (hb hby d3_137) rfl (teq hc96).2 ?_
                        show Steps p.tables e below (T11.setTop (mkF m 140 #[.val (.ref a0), .val (.int p1), .val (.int p2), .val (.int p3), .val (.int v8), .val (.int v86), .val (.int v93)] [])) _
                        refine XS.iconst X11.here hx rfl (hb hby d3_140) ?_
                        show Steps p.tables e below (T11.setTop (mkF m 141 #[.val (.ref a0), .val (.int p1), .val (.int p2), .val (.int p3), .val (.int v8), .val (.int v86), .val (.int v93)] [(.int (1 : Int32))])) _
                        exact retN X11 hx (t := .boolean) Bd.returns (by simp) (hb hby d3_141) hr
                      · show Q3 Z a0 p1 p2 p3 ka_a0 vs_a0 h0 n0 _ T11.heap _
                        rw [e11]
                        exact ⟨congrArg (fun z => some (Value.int z)) (by subst hv93 hv86 hv8; simp only [f3, if_neg hc2, if_neg hc4, if_neg hc13, if_pos hg15, if_pos hg29, if_pos hg43, if_pos hg57, if_pos hg71, if_neg hc89, if_pos hc96]), N11, rfl⟩
                    · have pre97 : ∀ t, Steps p.tables e below (T11.setTop (mkF m 146 #[.val (.ref a0), .val (.int p1), .val (.int p2), .val (.int p3), .val (.int v8), .val (.int v86), .val (.int v93)] [(.int (10 : Int32)), (.int v93)])) t → Steps p.tables e below (s₁.setTop (entryFrame m #[(.ref a0), (.int p1), (.int p2), (.int p3)] 7)) t := fun t k => pre95 t (by
                        show Steps p.tables e below (T11.setTop (mkF m 137 #[.val (.ref a0), .val (.int p1), .val (.int p2), .val (.int p3), .val (.int v8), .val (.int v86), .val (.int v93)] [(.int (32 : Int32)), (.int v93)])) _
                        refine XS.icmpYes X11.here hx rfl (pc0 := 137) (pc' := 142) rfl (hb hby d3_137) rfl (feq hc96).2 (by decide) (by decide) ?_
                        show Steps p.tables e below (T11.setTop (mkF m 142 #[.val (.ref a0), .val (.int p1), .val (.int p2), .val (.int p3), .val (.int v8), .val (.int v86), .val (.int v93)] [])) _
                        refine XS.iload X11.here hx rfl (hb hby d3_142) rfl ?_
                        show Steps p.tables e below (T11.setTop (mkF m 144 #[.val (.ref a0), .val (.int p1), .val (.int p2), .val (.int p3), .val (.int v8), .val (.int v86), .val (.int v93)] [(.int v93)])) _
                        refine XS.bipush X11.here hx rfl (hb hby d3_144) ?_
                        exact k)
                      by_cases hc98 : v93 = (10 : Int32)
                      · obtain ⟨fs, hr, hrun, hended, hW, hsame⟩ := X11.leave (v := some (.int (1 : Int32))) (fun h => by rw [Bd.returns] at h; cases h)
                        refine ⟨_, _, pre97 _ ?_, hrun, hended, _, _, rfl, ?_, ⟨_, rfl⟩, hW, hsame.mono (by decide) (by decide)⟩
                        · show Steps p.tables e below (T11.setTop (mkF m 146 #[.val (.ref a0), .val (.int p1), .val (.int p2), .val (.int p3), .val (.int v8), .val (.int v86), .val (.int v93)] [(.int (10 : Int32)), (.int v93)])) _
                          refine XS.icmpNo X11.here hx rfl (hb hby d3_146) rfl (teq hc98).2 ?_
                          show Steps p.tables e below (T11.setTop (mkF m 149 #[.val (.ref a0), .val (.int p1), .val (.int p2), .val (.int p3), .val (.int v8), .val (.int v86), .val (.int v93)] [])) _
                          refine XS.iconst X11.here hx rfl (hb hby d3_149) ?_
                          show Steps p.tables e below (T11.setTop (mkF m 150 #[.val (.ref a0), .val (.int p1), .val (.int p2), .val (.int p3), .val (.int v8), .val (.int v86), .val (.int v93)] [(.int (1 : Int32))])) _
                          exact retN X11 hx (t := .boolean) Bd.returns (by simp) (hb hby d3_150) hr
                        · show Q3 Z a0 p1 p2 p3 ka_a0 vs_a0 h0 n0 _ T11.heap _
                          rw [e11]
                          exact ⟨congrArg (fun z => some (Value.int z)) (by subst hv93 hv86 hv8; simp only [f3, if_neg hc2, if_neg hc4, if_neg hc13, if_pos hg15, if_pos hg29, if_pos hg43, if_pos hg57, if_pos hg71, if_neg hc89, if_neg hc96, if_pos hc98]), N11, rfl⟩
                      · have pre99 : ∀ t, Steps p.tables e below (T11.setTop (mkF m 155 #[.val (.ref a0), .val (.int p1), .val (.int p2), .val (.int p3), .val (.int v8), .val (.int v86), .val (.int v93)] [(.int (13 : Int32)), (.int v93)])) t → Steps p.tables e below (s₁.setTop (entryFrame m #[(.ref a0), (.int p1), (.int p2), (.int p3)] 7)) t := fun t k => pre97 t (by
                          show Steps p.tables e below (T11.setTop (mkF m 146 #[.val (.ref a0), .val (.int p1), .val (.int p2), .val (.int p3), .val (.int v8), .val (.int v86), .val (.int v93)] [(.int (10 : Int32)), (.int v93)])) _
                          refine XS.icmpYes X11.here hx rfl (pc0 := 146) (pc' := 151) rfl (hb hby d3_146) rfl (feq hc98).2 (by decide) (by decide) ?_
                          show Steps p.tables e below (T11.setTop (mkF m 151 #[.val (.ref a0), .val (.int p1), .val (.int p2), .val (.int p3), .val (.int v8), .val (.int v86), .val (.int v93)] [])) _
                          refine XS.iload X11.here hx rfl (hb hby d3_151) rfl ?_
                          show Steps p.tables e below (T11.setTop (mkF m 153 #[.val (.ref a0), .val (.int p1), .val (.int p2), .val (.int p3), .val (.int v8), .val (.int v86), .val (.int v93)] [(.int v93)])) _
                          refine XS.bipush X11.here hx rfl (hb hby d3_153) ?_
                          exact k)
                        by_cases hc100 : v93 = (13 : Int32)
                        · have pre101 : ∀ t, Steps p.tables e below (T11.setTop (mkF m 163 #[.val (.ref a0), .val (.int p1), .val (.int p2), .val (.int p3), .val (.int v8), .val (.int v86), .val (.int v93)] [(.int p2), (.int (v86 + (2 : Int32)))])) t → Steps p.tables e below (s₁.setTop (entryFrame m #[(.ref a0), (.int p1), (.int p2), (.int p3)] 7)) t := fun t k => pre99 t (by
                            show Steps p.tables e below (T11.setTop (mkF m 155 #[.val (.ref a0), .val (.int p1), .val (.int p2), .val (.int p3), .val (.int v8), .val (.int v86), .val (.int v93)] [(.int (13 : Int32)), (.int v93)])) _
                            refine XS.icmpNo X11.here hx rfl (hb hby d3_155) rfl (teq hc100).2 ?_
                            show Steps p.tables e below (T11.setTop (mkF m 158 #[.val (.ref a0), .val (.int p1), .val (.int p2), .val (.int p3), .val (.int v8), .val (.int v86), .val (.int v93)] [])) _
                            refine XS.iload X11.here hx rfl (hb hby d3_158) rfl ?_
                            show Steps p.tables e below (T11.setTop (mkF m 160 #[.val (.ref a0), .val (.int p1), .val (.int p2), .val (.int p3), .val (.int v8), .val (.int v86), .val (.int v93)] [(.int v86)])) _
                            refine XS.iconst X11.here hx rfl (hb hby d3_160) ?_
                            show Steps p.tables e below (T11.setTop (mkF m 161 #[.val (.ref a0), .val (.int p1), .val (.int p2), .val (.int p3), .val (.int v8), .val (.int v86), .val (.int v93)] [(.int (2 : Int32)), (.int v86)])) _
                            refine XS.iadd X11.here hx rfl (hb hby d3_161) rfl ?_
                            show Steps p.tables e below (T11.setTop (mkF m 162 #[.val (.ref a0), .val (.int p1), .val (.int p2), .val (.int p3), .val (.int v8), .val (.int v86), .val (.int v93)] [(.int (v86 + (2 : Int32)))])) _
                            refine XS.iloadN X11.here hx rfl (hb hby d3_162) rfl ?_
                            exact k)
                          by_cases hc102 : (v86 + (2 : Int32)) = p2
                          · have pre103 : ∀ t, Steps p.tables e below (T11.setTop (mkF m 171 #[.val (.ref a0), .val (.int p1), .val (.int p2), .val (.int p3), .val (.int v8), .val (.int v86), .val (.int v93)] [(.int (v86 + (1 : Int32))), (.ref a0)])) t → Steps p.tables e below (s₁.setTop (entryFrame m #[(.ref a0), (.int p1), (.int p2), (.int p3)] 7)) t := fun t k => pre101 t (by
                              show Steps p.tables e below (T11.setTop (mkF m 163 #[.val (.ref a0), .val (.int p1), .val (.int p2), .val (.int p3), .val (.int v8), .val (.int v86), .val (.int v93)] [(.int p2), (.int (v86 + (2 : Int32)))])) _
                              refine XS.icmpNo X11.here hx rfl (hb hby d3_163) rfl (teq hc102).2 ?_
                              show Steps p.tables e below (T11.setTop (mkF m 166 #[.val (.ref a0), .val (.int p1), .val (.int p2), .val (.int p3), .val (.int v8), .val (.int v86), .val (.int v93)] [])) _
                              refine XS.aloadN X11.here hx rfl (hb hby d3_166) rfl rfl ?_
                              show Steps p.tables e below (T11.setTop (mkF m 167 #[.val (.ref a0), .val (.int p1), .val (.int p2), .val (.int p3), .val (.int v8), .val (.int v86), .val (.int v93)] [(.ref a0)])) _
                              refine XS.iload X11.here hx rfl (hb hby d3_167) rfl ?_
                              show Steps p.tables e below (T11.setTop (mkF m 169 #[.val (.ref a0), .val (.int p1), .val (.int p2), .val (.int p3), .val (.int v8), .val (.int v86), .val (.int v93)] [(.int v86), (.ref a0)])) _
                              refine XS.iconst X11.here hx rfl (hb hby d3_169) ?_
                              show Steps p.tables e below (T11.setTop (mkF m 170 #[.val (.ref a0), .val (.int p1), .val (.int p2), .val (.int p3), .val (.int v8), .val (.int v86), .val (.int v93)] [(.int (1 : Int32)), (.int v86), (.ref a0)])) _
                              refine XS.iadd X11.here hx rfl (hb hby d3_170) rfl ?_
                              exact k)
                            have kown_in3_171_1 : ¬ (v86 + (1 : Int32)) < 0 ∧ (v86 + (1 : Int32)) < (6 : Int32) := own_in3_171_1 p1 p2 p3 vs_a0 hr v8 hv8 v86 hv86 v93 hv93 hc2 hc4 hc13 hg15 hg29 hg43 hg57 hg71 hc89 hc96 hc98 hc100 hc102
                            obtain ⟨cl104, Ar104, q104, S104, M104, H104, G104⟩ := id V_a0
                            have hin104 : ¬ ((v86 + (1 : Int32)) < 0 ∨ cl104.slots.size ≤ ((v86 + (1 : Int32))).toNatClampNeg) := inb_of S104 kown_in3_171_1
                            have hat104 : cl104.slots[((v86 + (1 : Int32))).toNatClampNeg]? = some (.int (own_get vs_a0 (v86 + (1 : Int32)))) := H104.at hin104 (own_getD vs_a0 (v86 + (1 : Int32)))
                            have pre105 : ∀ t, Steps p.tables e below (T11.setTop (mkF m 174 #[.val (.ref a0), .val (.int p1), .val (.int p2), .val (.int p3), .val (.int v8), .val (.int v86), .val (.int v93)] [(.int (10 : Int32)), (.int (own_get vs_a0 (v86 + (1 : Int32))))])) t → Steps p.tables e below (s₁.setTop (entryFrame m #[(.ref a0), (.int p1), (.int p2), (.int p3)] 7)) t := fun t k => pre103 t (by
                              show Steps p.tables e below (T11.setTop (mkF m 171 #[.val (.ref a0), .val (.int p1), .val (.int p2), .val (.int p3), .val (.int v8), .val (.int v86), .val (.int v93)] [(.int (v86 + (1 : Int32))), (.ref a0)])) _
                              refine X11.baloadBytes hx (j := (v86 + (1 : Int32))) (v := (.int (own_get vs_a0 (v86 + (1 : Int32))))) (by rw [e11]; exact Ar104.1) (State.isArrayOf_alike hZ.alike Ar104.2.1) Ar104.2.2 hin104 hat104 (g := (mkF m 171 #[.val (.ref a0), .val (.int p1), .val (.int p2), .val (.int p3), .val (.int v8), .val (.int v86), .val (.int v93)] [(.int (v86 + (1 : Int32))), (.ref a0)])) rfl rfl (hb hby d3_171) _ ?_
                              show Steps p.tables e below (T11.setTop (mkF m 172 #[.val (.ref a0), .val (.int p1), .val (.int p2), .val (.int p3), .val (.int v8), .val (.int v86), .val (.int v93)] [(.int (own_get vs_a0 (v86 + (1 : Int32))))])) _
                              refine XS.bipush X11.here hx rfl (hb hby d3_172) ?_
                              exact k)
                            by_cases hc106 : (own_get vs_a0 (v86 + (1 : Int32))) = (10 : Int32)
                            · obtain ⟨fs, hr, hrun, hended, hW, hsame⟩ := X11.leave (v := some (.int (1 : Int32))) (fun h => by rw [Bd.returns] at h; cases h)
                              refine ⟨_, _, pre105 _ ?_, hrun, hended, _, _, rfl, ?_, ⟨_, rfl⟩, hW, hsame.mono (by decide) (by decide)⟩
                              · show Steps p.tables e below (T11.setTop (mkF m 174 #[.val (.ref a0), .val (.int p1), .val (.int p2), .val (.int p3), .val (.int v8), .val (.int v86), .val (.int v93)] [(.int (10 : Int32)), (.int (own_get vs_a0 (v86 + (1 : Int32))))])) _
                                refine XS.icmpNo X11.here hx rfl (hb hby d3_174) rfl (teq hc106).2 ?_
                                show Steps p.tables e below (T11.setTop (mkF m 177 #[.val (.ref a0), .val (.int p1), .val (.int p2), .val (.int p3), .val (.int v8), .val (.int v86), .val (.int v93)] [])) _
                                refine XS.iconst X11.here hx rfl (hb hby d3_177) ?_
                                show Steps p.tables e below (T11.setTop (mkF m 178 #[.val (.ref a0), .val (.int p1), .val (.int p2), .val (.int p3), .val (.int v8), .val (.int v86), .val (.int v93)] [(.int (1 : Int32))])) _
                                exact retN X11 hx (t := .boolean) Bd.returns (by simp) (hb hby d3_178) hr
                              · show Q3 Z a0 p1 p2 p3 ka_a0 vs_a0 h0 n0 _ T11.heap _
                                rw [e11]
                                exact ⟨congrArg (fun z => some (Value.int z)) (by subst hv93 hv86 hv8; simp only [f3, if_neg hc2, if_neg hc4, if_neg hc13, if_pos hg15, if_pos hg29, if_pos hg43, if_pos hg57, if_pos hg71, if_neg hc89, if_neg hc96, if_neg hc98, if_pos hc100, if_pos hc102, if_pos hc106]), N11, rfl⟩
                            · obtain ⟨fs, hr, hrun, hended, hW, hsame⟩ := X11.leave (v := some (.int (0 : Int32))) (fun h => by rw [Bd.returns] at h; cases h)
                              refine ⟨_, _, pre105 _ ?_, hrun, hended, _, _, rfl, ?_, ⟨_, rfl⟩, hW, hsame.mono (by decide) (by decide)⟩
                              · show Steps p.tables e below (T11.setTop (mkF m 174 #[.val (.ref a0), .val (.int p1), .val (.int p2), .val (.int p3), .val (.int v8), .val (.int v86), .val (.int v93)] [(.int (10 : Int32)), (.int (own_get vs_a0 (v86 + (1 : Int32))))])) _
                                refine XS.icmpYes X11.here hx rfl (pc0 := 174) (pc' := 179) rfl (hb hby d3_174) rfl (feq hc106).2 (by decide) (by decide) ?_
                                show Steps p.tables e below (T11.setTop (mkF m 179 #[.val (.ref a0), .val (.int p1), .val (.int p2), .val (.int p3), .val (.int v8), .val (.int v86), .val (.int v93)] [])) _
                                refine XS.iconst X11.here hx rfl (hb hby d3_179) ?_
                                show Steps p.tables e below (T11.setTop (mkF m 180 #[.val (.ref a0), .val (.int p1), .val (.int p2), .val (.int p3), .val (.int v8), .val (.int v86), .val (.int v93)] [(.int (0 : Int32))])) _
                                exact retN X11 hx (t := .boolean) Bd.returns (by simp) (hb hby d3_180) hr
                              · show Q3 Z a0 p1 p2 p3 ka_a0 vs_a0 h0 n0 _ T11.heap _
                                rw [e11]
                                exact ⟨congrArg (fun z => some (Value.int z)) (by subst hv93 hv86 hv8; simp only [f3, if_neg hc2, if_neg hc4, if_neg hc13, if_pos hg15, if_pos hg29, if_pos hg43, if_pos hg57, if_pos hg71, if_neg hc89, if_neg hc96, if_neg hc98, if_pos hc100, if_pos hc102, if_neg hc106]), N11, rfl⟩
                          · obtain ⟨fs, hr, hrun, hended, hW, hsame⟩ := X11.leave (v := some (.int (0 : Int32))) (fun h => by rw [Bd.returns] at h; cases h)
                            refine ⟨_, _, pre101 _ ?_, hrun, hended, _, _, rfl, ?_, ⟨_, rfl⟩, hW, hsame.mono (by decide) (by decide)⟩
                            · show Steps p.tables e below (T11.setTop (mkF m 163 #[.val (.ref a0), .val (.int p1), .val (.int p2), .val (.int p3), .val (.int v8), .val (.int v86), .val (.int v93)] [(.int p2), (.int (v86 + (2 : Int32)))])) _
                              refine XS.icmpYes X11.here hx rfl (pc0 := 163) (pc' := 179) rfl (hb hby d3_163) rfl (feq hc102).2 (by decide) (by decide) ?_
                              show Steps p.tables e below (T11.setTop (mkF m 179 #[.val (.ref a0), .val (.int p1), .val (.int p2), .val (.int p3), .val (.int v8), .val (.int v86), .val (.int v93)] [])) _
                              refine XS.iconst X11.here hx rfl (hb hby d3_179) ?_
                              show Steps p.tables e below (T11.setTop (mkF m 180 #[.val (.ref a0), .val (.int p1), .val (.int p2), .val (.int p3), .val (.int v8), .val (.int v86), .val (.int v93)] [(.int (0 : Int32))])) _
                              exact retN X11 hx (t := .boolean) Bd.returns (by simp) (hb hby d3_180) hr
                            · show Q3 Z a0 p1 p2 p3 ka_a0 vs_a0 h0 n0 _ T11.heap _
                              rw [e11]
                              exact ⟨congrArg (fun z => some (Value.int z)) (by subst hv93 hv86 hv8; simp only [f3, if_neg hc2, if_neg hc4, if_neg hc13, if_pos hg15, if_pos hg29, if_pos hg43, if_pos hg57, if_pos hg71, if_neg hc89, if_neg hc96, if_neg hc98, if_pos hc100, if_neg hc102]), N11, rfl⟩
                        · obtain ⟨fs, hr, hrun, hended, hW, hsame⟩ := X11.leave (v := some (.int (0 : Int32))) (fun h => by rw [Bd.returns] at h; cases h)
                          refine ⟨_, _, pre99 _ ?_, hrun, hended, _, _, rfl, ?_, ⟨_, rfl⟩, hW, hsame.mono (by decide) (by decide)⟩
                          · show Steps p.tables e below (T11.setTop (mkF m 155 #[.val (.ref a0), .val (.int p1), .val (.int p2), .val (.int p3), .val (.int v8), .val (.int v86), .val (.int v93)] [(.int (13 : Int32)), (.int v93)])) _
                            refine XS.icmpYes X11.here hx rfl (pc0 := 155) (pc' := 179) rfl (hb hby d3_155) rfl (feq hc100).2 (by decide) (by decide) ?_
                            show Steps p.tables e below (T11.setTop (mkF m 179 #[.val (.ref a0), .val (.int p1), .val (.int p2), .val (.int p3), .val (.int v8), .val (.int v86), .val (.int v93)] [])) _
                            refine XS.iconst X11.here hx rfl (hb hby d3_179) ?_
                            show Steps p.tables e below (T11.setTop (mkF m 180 #[.val (.ref a0), .val (.int p1), .val (.int p2), .val (.int p3), .val (.int v8), .val (.int v86), .val (.int v93)] [(.int (0 : Int32))])) _
                            exact retN X11 hx (t := .boolean) Bd.returns (by simp) (hb hby d3_180) hr
                          · show Q3 Z a0 p1 p2 p3 ka_a0 vs_a0 h0 n0 _ T11.heap _
                            rw [e11]
                            exact ⟨congrArg (fun z => some (Value.int z)) (by subst hv93 hv86 hv8; simp only [f3, if_neg hc2, if_neg hc4, if_neg hc13, if_pos hg15, if_pos hg29, if_pos hg43, if_pos hg57, if_pos hg71, if_neg hc89, if_neg hc96, if_neg hc98, if_neg hc100]), N11, rfl⟩
                · have pre79 : ∀ t, Steps p.tables e below (T11.setTop (mkF m 99 #[.val (.ref a0), .val (.int p1), .val (.int p2), .val (.int p3), .val (.int v8), .unset, .unset] [(.int p3), (.int (5 : Int32))])) t → Steps p.tables e below (s₁.setTop (entryFrame m #[(.ref a0), (.int p1), (.int p2), (.int p3)] 7)) t := fun t k => pre64 t (by
                    show Steps p.tables e below (T11.setTop (mkF m 97 #[.val (.ref a0), .val (.int p1), .val (.int p2), .val (.int p3), .val (.int v8), .unset, .unset] [])) _
                    refine XS.iconst X11.here hx rfl (hb hby d3_97) ?_
                    show Steps p.tables e below (T11.setTop (mkF m 98 #[.val (.ref a0), .val (.int p1), .val (.int p2), .val (.int p3), .val (.int v8), .unset, .unset] [(.int (5 : Int32))])) _
                    refine XS.iloadN X11.here hx rfl (hb hby d3_98) rfl ?_
                    exact k)
                  by_cases hc80 : (5 : Int32) < p3
                  · have pre81 : ∀ t, Steps p.tables e below (T11.setTop (mkF m 106 #[.val (.ref a0), .val (.int p1), .val (.int p2), .val (.int p3), .val (.int v8), .unset, .unset] [(.int (p1 + (5 : Int32))), (.ref a0)])) t → Steps p.tables e below (s₁.setTop (entryFrame m #[(.ref a0), (.int p1), (.int p2), (.int p3)] 7)) t := fun t k => pre79 t (by
                      show Steps p.tables e below (T11.setTop (mkF m 99 #[.val (.ref a0), .val (.int p1), .val (.int p2), .val (.int p3), .val (.int v8), .unset, .unset] [(.int p3), (.int (5 : Int32))])) _
                      refine XS.icmpNo X11.here hx rfl (hb hby d3_99) rfl (tlt hc80).2.1 ?_
                      show Steps p.tables e below (T11.setTop (mkF m 102 #[.val (.ref a0), .val (.int p1), .val (.int p2), .val (.int p3), .val (.int v8), .unset, .unset] [])) _
                      refine XS.aloadN X11.here hx rfl (hb hby d3_102) rfl rfl ?_
                      show Steps p.tables e below (T11.setTop (mkF m 103 #[.val (.ref a0), .val (.int p1), .val (.int p2), .val (.int p3), .val (.int v8), .unset, .unset] [(.ref a0)])) _
                      refine XS.iloadN X11.here hx rfl (hb hby d3_103) rfl ?_
                      show Steps p.tables e below (T11.setTop (mkF m 104 #[.val (.ref a0), .val (.int p1), .val (.int p2), .val (.int p3), .val (.int v8), .unset, .unset] [(.int p1), (.ref a0)])) _
                      refine XS.iconst X11.here hx rfl (hb hby d3_104) ?_
                      show Steps p.tables e below (T11.setTop (mkF m 105 #[.val (.ref a0), .val (.int p1), .val (.int p2), .val (.int p3), .val (.int v8), .unset, .unset] [(.int (5 : Int32)), (.int p1), (.ref a0)])) _
                      refine XS.iadd X11.here hx rfl (hb hby d3_105) rfl ?_
                      exact k)
                    have kown_in3_106_2 : ¬ (p1 + (5 : Int32)) < 0 ∧ (p1 + (5 : Int32)) < (6 : Int32) := own_in3_106_2 p1 p2 p3 vs_a0 hr v8 hv8 hc2 hc4 hc13 hg15 hg29 hg43 hg57 hg71 hc80
                    obtain ⟨cl82, Ar82, q82, S82, M82, H82, G82⟩ := id V_a0
                    have hin82 : ¬ ((p1 + (5 : Int32)) < 0 ∨ cl82.slots.size ≤ ((p1 + (5 : Int32))).toNatClampNeg) := inb_of S82 kown_in3_106_2
                    have hat82 : cl82.slots[((p1 + (5 : Int32))).toNatClampNeg]? = some (.int (own_get vs_a0 (p1 + (5 : Int32)))) := H82.at hin82 (own_getD vs_a0 (p1 + (5 : Int32)))
                    have pre83 : ∀ t, Steps p.tables e below (T11.setTop (mkF m 109 #[.val (.ref a0), .val (.int p1), .val (.int p2), .val (.int p3), .val (.int v8), .unset, .unset] [(.int v8), (.int (own_get vs_a0 (p1 + (5 : Int32))))])) t → Steps p.tables e below (s₁.setTop (entryFrame m #[(.ref a0), (.int p1), (.int p2), (.int p3)] 7)) t := fun t k => pre81 t (by
                      show Steps p.tables e below (T11.setTop (mkF m 106 #[.val (.ref a0), .val (.int p1), .val (.int p2), .val (.int p3), .val (.int v8), .unset, .unset] [(.int (p1 + (5 : Int32))), (.ref a0)])) _
                      refine X11.baloadBytes hx (j := (p1 + (5 : Int32))) (v := (.int (own_get vs_a0 (p1 + (5 : Int32))))) (by rw [e11]; exact Ar82.1) (State.isArrayOf_alike hZ.alike Ar82.2.1) Ar82.2.2 hin82 hat82 (g := (mkF m 106 #[.val (.ref a0), .val (.int p1), .val (.int p2), .val (.int p3), .val (.int v8), .unset, .unset] [(.int (p1 + (5 : Int32))), (.ref a0)])) rfl rfl (hb hby d3_106) _ ?_
                      show Steps p.tables e below (T11.setTop (mkF m 107 #[.val (.ref a0), .val (.int p1), .val (.int p2), .val (.int p3), .val (.int v8), .unset, .unset] [(.int (own_get vs_a0 (p1 + (5 : Int32))))])) _
                      refine XS.iload X11.here hx rfl (hb hby d3_107) rfl ?_
                      exact k)
                    by_cases hc84 : (own_get vs_a0 (p1 + (5 : Int32))) = v8
                    · exact (hg71 (by simp [hc80, hc84])).elim
                    · obtain ⟨fs, hr, hrun, hended, hW, hsame⟩ := X11.leave (v := some (.int (0 : Int32))) (fun h => by rw [Bd.returns] at h; cases h)
                      refine ⟨_, _, pre83 _ ?_, hrun, hended, _, _, rfl, ?_, ⟨_, rfl⟩, hW, hsame.mono (by decide) (by decide)⟩
                      · show Steps p.tables e below (T11.setTop (mkF m 109 #[.val (.ref a0), .val (.int p1), .val (.int p2), .val (.int p3), .val (.int v8), .unset, .unset] [(.int v8), (.int (own_get vs_a0 (p1 + (5 : Int32))))])) _
                        refine XS.icmpNo X11.here hx rfl (hb hby d3_109) rfl (feq hc84).1 ?_
                        show Steps p.tables e below (T11.setTop (mkF m 112 #[.val (.ref a0), .val (.int p1), .val (.int p2), .val (.int p3), .val (.int v8), .unset, .unset] [])) _
                        refine XS.iconst X11.here hx rfl (hb hby d3_112) ?_
                        show Steps p.tables e below (T11.setTop (mkF m 113 #[.val (.ref a0), .val (.int p1), .val (.int p2), .val (.int p3), .val (.int v8), .unset, .unset] [(.int (0 : Int32))])) _
                        exact retN X11 hx (t := .boolean) Bd.returns (by simp) (hb hby d3_113) hr
                      · show Q3 Z a0 p1 p2 p3 ka_a0 vs_a0 h0 n0 _ T11.heap _
                        rw [e11]
                        exact ⟨congrArg (fun z => some (Value.int z)) (by subst hv8; simp only [f3, if_neg hc2, if_neg hc4, if_neg hc13, if_pos hg15, if_pos hg29, if_pos hg43, if_pos hg57, if_neg hg71, if_pos hc80, if_neg hc84]), N11, rfl⟩
                  · exact (hg71 (by simp [hc80])).elim
              · have pre65 : ∀ t, Steps p.tables e below (T11.setTop (mkF m 82 #[.val (.ref a0), .val (.int p1), .val (.int p2), .val (.int p3), .val (.int v8), .unset, .unset] [(.int p3), (.int (4 : Int32))])) t → Steps p.tables e below (s₁.setTop (entryFrame m #[(.ref a0), (.int p1), (.int p2), (.int p3)] 7)) t := fun t k => pre50 t (by
                  show Steps p.tables e below (T11.setTop (mkF m 80 #[.val (.ref a0), .val (.int p1), .val (.int p2), .val (.int p3), .val (.int v8), .unset, .unset] [])) _
                  refine XS.iconst X11.here hx rfl (hb hby d3_80) ?_
                  show Steps p.tables e below (T11.setTop (mkF m 81 #[.val (.ref a0), .val (.int p1), .val (.int p2), .val (.int p3), .val (.int v8), .unset, .unset] [(.int (4 : Int32))])) _
                  refine XS.iloadN X11.here hx rfl (hb hby d3_81) rfl ?_
                  exact k)
                by_cases hc66 : (4 : Int32) < p3
                · have pre67 : ∀ t, Steps p.tables e below (T11.setTop (mkF m 89 #[.val (.ref a0), .val (.int p1), .val (.int p2), .val (.int p3), .val (.int v8), .unset, .unset] [(.int (p1 + (4 : Int32))), (.ref a0)])) t → Steps p.tables e below (s₁.setTop (entryFrame m #[(.ref a0), (.int p1), (.int p2), (.int p3)] 7)) t := fun t k => pre65 t (by
                    show Steps p.tables e below (T11.setTop (mkF m 82 #[.val (.ref a0), .val (.int p1), .val (.int p2), .val (.int p3), .val (.int v8), .unset, .unset] [(.int p3), (.int (4 : Int32))])) _
                    refine XS.icmpNo X11.here hx rfl (hb hby d3_82) rfl (tlt hc66).2.1 ?_
                    show Steps p.tables e below (T11.setTop (mkF m 85 #[.val (.ref a0), .val (.int p1), .val (.int p2), .val (.int p3), .val (.int v8), .unset, .unset] [])) _
                    refine XS.aloadN X11.here hx rfl (hb hby d3_85) rfl rfl ?_
                    show Steps p.tables e below (T11.setTop (mkF m 86 #[.val (.ref a0), .val (.int p1), .val (.int p2), .val (.int p3), .val (.int v8), .unset, .unset] [(.ref a0)])) _
                    refine XS.iloadN X11.here hx rfl (hb hby d3_86) rfl ?_
                    show Steps p.tables e below (T11.setTop (mkF m 87 #[.val (.ref a0), .val (.int p1), .val (.int p2), .val (.int p3), .val (.int v8), .unset, .unset] [(.int p1), (.ref a0)])) _
                    refine XS.iconst X11.here hx rfl (hb hby d3_87) ?_
                    show Steps p.tables e below (T11.setTop (mkF m 88 #[.val (.ref a0), .val (.int p1), .val (.int p2), .val (.int p3), .val (.int v8), .unset, .unset] [(.int (4 : Int32)), (.int p1), (.ref a0)])) _
                    refine XS.iadd X11.here hx rfl (hb hby d3_88) rfl ?_
                    exact k)
                  have kown_in3_89_2 : ¬ (p1 + (4 : Int32)) < 0 ∧ (p1 + (4 : Int32)) < (6 : Int32) := own_in3_89_2 p1 p2 p3 vs_a0 hr v8 hv8 hc2 hc4 hc13 hg15 hg29 hg43 hg57 hc66
                  obtain ⟨cl68, Ar68, q68, S68, M68, H68, G68⟩ := id V_a0
                  have hin68 : ¬ ((p1 + (4 : Int32)) < 0 ∨ cl68.slots.size ≤ ((p1 + (4 : Int32))).toNatClampNeg) := inb_of S68 kown_in3_89_2
                  have hat68 : cl68.slots[((p1 + (4 : Int32))).toNatClampNeg]? = some (.int (own_get vs_a0 (p1 + (4 : Int32)))) := H68.at hin68 (own_getD vs_a0 (p1 + (4 : Int32)))
                  have pre69 : ∀ t, Steps p.tables e below (T11.setTop (mkF m 92 #[.val (.ref a0), .val (.int p1), .val (.int p2), .val (.int p3), .val (.int v8), .unset, .unset] [(.int v8), (.int (own_get vs_a0 (p1 + (4 : Int32))))])) t → Steps p.tables e below (s₁.setTop (entryFrame m #[(.ref a0), (.int p1), (.int p2), (.int p3)] 7)) t := fun t k => pre67 t (by
                    show Steps p.tables e below (T11.setTop (mkF m 89 #[.val (.ref a0), .val (.int p1), .val (.int p2), .val (.int p3), .val (.int v8), .unset, .unset] [(.int (p1 + (4 : Int32))), (.ref a0)])) _
                    refine X11.baloadBytes hx (j := (p1 + (4 : Int32))) (v := (.int (own_get vs_a0 (p1 + (4 : Int32))))) (by rw [e11]; exact Ar68.1) (State.isArrayOf_alike hZ.alike Ar68.2.1) Ar68.2.2 hin68 hat68 (g := (mkF m 89 #[.val (.ref a0), .val (.int p1), .val (.int p2), .val (.int p3), .val (.int v8), .unset, .unset] [(.int (p1 + (4 : Int32))), (.ref a0)])) rfl rfl (hb hby d3_89) _ ?_
                    show Steps p.tables e below (T11.setTop (mkF m 90 #[.val (.ref a0), .val (.int p1), .val (.int p2), .val (.int p3), .val (.int v8), .unset, .unset] [(.int (own_get vs_a0 (p1 + (4 : Int32))))])) _
                    refine XS.iload X11.here hx rfl (hb hby d3_90) rfl ?_
                    exact k)
                  by_cases hc70 : (own_get vs_a0 (p1 + (4 : Int32))) = v8
                  · exact (hg57 (by simp [hc66, hc70])).elim
                  · obtain ⟨fs, hr, hrun, hended, hW, hsame⟩ := X11.leave (v := some (.int (0 : Int32))) (fun h => by rw [Bd.returns] at h; cases h)
                    refine ⟨_, _, pre69 _ ?_, hrun, hended, _, _, rfl, ?_, ⟨_, rfl⟩, hW, hsame.mono (by decide) (by decide)⟩
                    · show Steps p.tables e below (T11.setTop (mkF m 92 #[.val (.ref a0), .val (.int p1), .val (.int p2), .val (.int p3), .val (.int v8), .unset, .unset] [(.int v8), (.int (own_get vs_a0 (p1 + (4 : Int32))))])) _
                      refine XS.icmpNo X11.here hx rfl (hb hby d3_92) rfl (feq hc70).1 ?_
                      show Steps p.tables e below (T11.setTop (mkF m 95 #[.val (.ref a0), .val (.int p1), .val (.int p2), .val (.int p3), .val (.int v8), .unset, .unset] [])) _
                      refine XS.iconst X11.here hx rfl (hb hby d3_95) ?_
                      show Steps p.tables e below (T11.setTop (mkF m 96 #[.val (.ref a0), .val (.int p1), .val (.int p2), .val (.int p3), .val (.int v8), .unset, .unset] [(.int (0 : Int32))])) _
                      exact retN X11 hx (t := .boolean) Bd.returns (by simp) (hb hby d3_96) hr
                    · show Q3 Z a0 p1 p2 p3 ka_a0 vs_a0 h0 n0 _ T11.heap _
                      rw [e11]
                      exact ⟨congrArg (fun z => some (Value.int z)) (by subst hv8; simp only [f3, if_neg hc2, if_neg hc4, if_neg hc13, if_pos hg15, if_pos hg29, if_pos hg43, if_neg hg57, if_pos hc66, if_neg hc70]), N11, rfl⟩
                · exact (hg57 (by simp [hc66])).elim
            · have pre51 : ∀ t, Steps p.tables e below (T11.setTop (mkF m 65 #[.val (.ref a0), .val (.int p1), .val (.int p2), .val (.int p3), .val (.int v8), .unset, .unset] [(.int p3), (.int (3 : Int32))])) t → Steps p.tables e below (s₁.setTop (entryFrame m #[(.ref a0), (.int p1), (.int p2), (.int p3)] 7)) t := fun t k => pre36 t (by
                show Steps p.tables e below (T11.setTop (mkF m 63 #[.val (.ref a0), .val (.int p1), .val (.int p2), .val (.int p3), .val (.int v8), .unset, .unset] [])) _
                refine XS.iconst X11.here hx rfl (hb hby d3_63) ?_
                show Steps p.tables e below (T11.setTop (mkF m 64 #[.val (.ref a0), .val (.int p1), .val (.int p2), .val (.int p3), .val (.int v8), .unset, .unset] [(.int (3 : Int32))])) _
                refine XS.iloadN X11.here hx rfl (hb hby d3_64) rfl ?_
                exact k)
              by_cases hc52 : (3 : Int32) < p3
              · have pre53 : ∀ t, Steps p.tables e below (T11.setTop (mkF m 72 #[.val (.ref a0), .val (.int p1), .val (.int p2), .val (.int p3), .val (.int v8), .unset, .unset] [(.int (p1 + (3 : Int32))), (.ref a0)])) t → Steps p.tables e below (s₁.setTop (entryFrame m #[(.ref a0), (.int p1), (.int p2), (.int p3)] 7)) t := fun t k => pre51 t (by
                  show Steps p.tables e below (T11.setTop (mkF m 65 #[.val (.ref a0), .val (.int p1), .val (.int p2), .val (.int p3), .val (.int v8), .unset, .unset] [(.int p3), (.int (3 : Int32))])) _
                  refine XS.icmpNo X11.here hx rfl (hb hby d3_65) rfl (tlt hc52).2.1 ?_
                  show Steps p.tables e below (T11.setTop (mkF m 68 #[.val (.ref a0), .val (.int p1), .val (.int p2), .val (.int p3), .val (.int v8), .unset, .unset] [])) _
                  refine XS.aloadN X11.here hx rfl (hb hby d3_68) rfl rfl ?_
                  show Steps p.tables e below (T11.setTop (mkF m 69 #[.val (.ref a0), .val (.int p1), .val (.int p2), .val (.int p3), .val (.int v8), .unset, .unset] [(.ref a0)])) _
                  refine XS.iloadN X11.here hx rfl (hb hby d3_69) rfl ?_
                  show Steps p.tables e below (T11.setTop (mkF m 70 #[.val (.ref a0), .val (.int p1), .val (.int p2), .val (.int p3), .val (.int v8), .unset, .unset] [(.int p1), (.ref a0)])) _
                  refine XS.iconst X11.here hx rfl (hb hby d3_70) ?_
                  show Steps p.tables e below (T11.setTop (mkF m 71 #[.val (.ref a0), .val (.int p1), .val (.int p2), .val (.int p3), .val (.int v8), .unset, .unset] [(.int (3 : Int32)), (.int p1), (.ref a0)])) _
                  refine XS.iadd X11.here hx rfl (hb hby d3_71) rfl ?_
                  exact k)
                have kown_in3_72_2 : ¬ (p1 + (3 : Int32)) < 0 ∧ (p1 + (3 : Int32)) < (6 : Int32) := own_in3_72_2 p1 p2 p3 vs_a0 hr v8 hv8 hc2 hc4 hc13 hg15 hg29 hg43 hc52
                obtain ⟨cl54, Ar54, q54, S54, M54, H54, G54⟩ := id V_a0
                have hin54 : ¬ ((p1 + (3 : Int32)) < 0 ∨ cl54.slots.size ≤ ((p1 + (3 : Int32))).toNatClampNeg) := inb_of S54 kown_in3_72_2
                have hat54 : cl54.slots[((p1 + (3 : Int32))).toNatClampNeg]? = some (.int (own_get vs_a0 (p1 + (3 : Int32)))) := H54.at hin54 (own_getD vs_a0 (p1 + (3 : Int32)))
                have pre55 : ∀ t, Steps p.tables e below (T11.setTop (mkF m 75 #[.val (.ref a0), .val (.int p1), .val (.int p2), .val (.int p3), .val (.int v8), .unset, .unset] [(.int v8), (.int (own_get vs_a0 (p1 + (3 : Int32))))])) t → Steps p.tables e below (s₁.setTop (entryFrame m #[(.ref a0), (.int p1), (.int p2), (.int p3)] 7)) t := fun t k => pre53 t (by
                  show Steps p.tables e below (T11.setTop (mkF m 72 #[.val (.ref a0), .val (.int p1), .val (.int p2), .val (.int p3), .val (.int v8), .unset, .unset] [(.int (p1 + (3 : Int32))), (.ref a0)])) _
                  refine X11.baloadBytes hx (j := (p1 + (3 : Int32))) (v := (.int (own_get vs_a0 (p1 + (3 : Int32))))) (by rw [e11]; exact Ar54.1) (State.isArrayOf_alike hZ.alike Ar54.2.1) Ar54.2.2 hin54 hat54 (g := (mkF m 72 #[.val (.ref a0), .val (.int p1), .val (.int p2), .val (.int p3), .val (.int v8), .unset, .unset] [(.int (p1 + (3 : Int32))), (.ref a0)])) rfl rfl (hb hby d3_72) _ ?_
                  show Steps p.tables e below (T11.setTop (mkF m 73 #[.val (.ref a0), .val (.int p1), .val (.int p2), .val (.int p3), .val (.int v8), .unset, .unset] [(.int (own_get vs_a0 (p1 + (3 : Int32))))])) _
                  refine XS.iload X11.here hx rfl (hb hby d3_73) rfl ?_
                  exact k)
                by_cases hc56 : (own_get vs_a0 (p1 + (3 : Int32))) = v8
                · exact (hg43 (by simp [hc52, hc56])).elim
                · obtain ⟨fs, hr, hrun, hended, hW, hsame⟩ := X11.leave (v := some (.int (0 : Int32))) (fun h => by rw [Bd.returns] at h; cases h)
                  refine ⟨_, _, pre55 _ ?_, hrun, hended, _, _, rfl, ?_, ⟨_, rfl⟩, hW, hsame.mono (by decide) (by decide)⟩
                  · show Steps p.tables e below (T11.setTop (mkF m 75 #[.val (.ref a0), .val (.int p1), .val (.int p2), .val (.int p3), .val (.int v8), .unset, .unset] [(.int v8), (.int (own_get vs_a0 (p1 + (3 : Int32))))])) _
                    refine XS.icmpNo X11.here hx rfl (hb hby d3_75) rfl (feq hc56).1 ?_
                    show Steps p.tables e below (T11.setTop (mkF m 78 #[.val (.ref a0), .val (.int p1), .val (.int p2), .val (.int p3), .val (.int v8), .unset, .unset] [])) _
                    refine XS.iconst X11.here hx rfl (hb hby d3_78) ?_
                    show Steps p.tables e below (T11.setTop (mkF m 79 #[.val (.ref a0), .val (.int p1), .val (.int p2), .val (.int p3), .val (.int v8), .unset, .unset] [(.int (0 : Int32))])) _
                    exact retN X11 hx (t := .boolean) Bd.returns (by simp) (hb hby d3_79) hr
                  · show Q3 Z a0 p1 p2 p3 ka_a0 vs_a0 h0 n0 _ T11.heap _
                    rw [e11]
                    exact ⟨congrArg (fun z => some (Value.int z)) (by subst hv8; simp only [f3, if_neg hc2, if_neg hc4, if_neg hc13, if_pos hg15, if_pos hg29, if_neg hg43, if_pos hc52, if_neg hc56]), N11, rfl⟩
              · exact (hg43 (by simp [hc52])).elim
          · have pre37 : ∀ t, Steps p.tables e below (T11.setTop (mkF m 48 #[.val (.ref a0), .val (.int p1), .val (.int p2), .val (.int p3), .val (.int v8), .unset, .unset] [(.int p3), (.int (2 : Int32))])) t → Steps p.tables e below (s₁.setTop (entryFrame m #[(.ref a0), (.int p1), (.int p2), (.int p3)] 7)) t := fun t k => pre22 t (by
              show Steps p.tables e below (T11.setTop (mkF m 46 #[.val (.ref a0), .val (.int p1), .val (.int p2), .val (.int p3), .val (.int v8), .unset, .unset] [])) _
              refine XS.iconst X11.here hx rfl (hb hby d3_46) ?_
              show Steps p.tables e below (T11.setTop (mkF m 47 #[.val (.ref a0), .val (.int p1), .val (.int p2), .val (.int p3), .val (.int v8), .unset, .unset] [(.int (2 : Int32))])) _
              refine XS.iloadN X11.here hx rfl (hb hby d3_47) rfl ?_
              exact k)
            by_cases hc38 : (2 : Int32) < p3
            · have pre39 : ∀ t, Steps p.tables e below (T11.setTop (mkF m 55 #[.val (.ref a0), .val (.int p1), .val (.int p2), .val (.int p3), .val (.int v8), .unset, .unset] [(.int (p1 + (2 : Int32))), (.ref a0)])) t → Steps p.tables e below (s₁.setTop (entryFrame m #[(.ref a0), (.int p1), (.int p2), (.int p3)] 7)) t := fun t k => pre37 t (by
                show Steps p.tables e below (T11.setTop (mkF m 48 #[.val (.ref a0), .val (.int p1), .val (.int p2), .val (.int p3), .val (.int v8), .unset, .unset] [(.int p3), (.int (2 : Int32))])) _
                refine XS.icmpNo X11.here hx rfl (hb hby d3_48) rfl (tlt hc38).2.1 ?_
                show Steps p.tables e below (T11.setTop (mkF m 51 #[.val (.ref a0), .val (.int p1), .val (.int p2), .val (.int p3), .val (.int v8), .unset, .unset] [])) _
                refine XS.aloadN X11.here hx rfl (hb hby d3_51) rfl rfl ?_
                show Steps p.tables e below (T11.setTop (mkF m 52 #[.val (.ref a0), .val (.int p1), .val (.int p2), .val (.int p3), .val (.int v8), .unset, .unset] [(.ref a0)])) _
                refine XS.iloadN X11.here hx rfl (hb hby d3_52) rfl ?_
                show Steps p.tables e below (T11.setTop (mkF m 53 #[.val (.ref a0), .val (.int p1), .val (.int p2), .val (.int p3), .val (.int v8), .unset, .unset] [(.int p1), (.ref a0)])) _
                refine XS.iconst X11.here hx rfl (hb hby d3_53) ?_
                show Steps p.tables e below (T11.setTop (mkF m 54 #[.val (.ref a0), .val (.int p1), .val (.int p2), .val (.int p3), .val (.int v8), .unset, .unset] [(.int (2 : Int32)), (.int p1), (.ref a0)])) _
                refine XS.iadd X11.here hx rfl (hb hby d3_54) rfl ?_
                exact k)
              have kown_in3_55_2 : ¬ (p1 + (2 : Int32)) < 0 ∧ (p1 + (2 : Int32)) < (6 : Int32) := own_in3_55_2 p1 p2 p3 vs_a0 hr v8 hv8 hc2 hc4 hc13 hg15 hg29 hc38
              obtain ⟨cl40, Ar40, q40, S40, M40, H40, G40⟩ := id V_a0
              have hin40 : ¬ ((p1 + (2 : Int32)) < 0 ∨ cl40.slots.size ≤ ((p1 + (2 : Int32))).toNatClampNeg) := inb_of S40 kown_in3_55_2
              have hat40 : cl40.slots[((p1 + (2 : Int32))).toNatClampNeg]? = some (.int (own_get vs_a0 (p1 + (2 : Int32)))) := H40.at hin40 (own_getD vs_a0 (p1 + (2 : Int32)))
              have pre41 : ∀ t, Steps p.tables e below (T11.setTop (mkF m 58 #[.val (.ref a0), .val (.int p1), .val (.int p2), .val (.int p3), .val (.int v8), .unset, .unset] [(.int v8), (.int (own_get vs_a0 (p1 + (2 : Int32))))])) t → Steps p.tables e below (s₁.setTop (entryFrame m #[(.ref a0), (.int p1), (.int p2), (.int p3)] 7)) t := fun t k => pre39 t (by
                show Steps p.tables e below (T11.setTop (mkF m 55 #[.val (.ref a0), .val (.int p1), .val (.int p2), .val (.int p3), .val (.int v8), .unset, .unset] [(.int (p1 + (2 : Int32))), (.ref a0)])) _
                refine X11.baloadBytes hx (j := (p1 + (2 : Int32))) (v := (.int (own_get vs_a0 (p1 + (2 : Int32))))) (by rw [e11]; exact Ar40.1) (State.isArrayOf_alike hZ.alike Ar40.2.1) Ar40.2.2 hin40 hat40 (g := (mkF m 55 #[.val (.ref a0), .val (.int p1), .val (.int p2), .val (.int p3), .val (.int v8), .unset, .unset] [(.int (p1 + (2 : Int32))), (.ref a0)])) rfl rfl (hb hby d3_55) _ ?_
                show Steps p.tables e below (T11.setTop (mkF m 56 #[.val (.ref a0), .val (.int p1), .val (.int p2), .val (.int p3), .val (.int v8), .unset, .unset] [(.int (own_get vs_a0 (p1 + (2 : Int32))))])) _
                refine XS.iload X11.here hx rfl (hb hby d3_56) rfl ?_
                exact k)
              by_cases hc42 : (own_get vs_a0 (p1 + (2 : Int32))) = v8
              · exact (hg29 (by simp [hc38, hc42])).elim
              · obtain ⟨fs, hr, hrun, hended, hW, hsame⟩ := X11.leave (v := some (.int (0 : Int32))) (fun h => by rw [Bd.returns] at h; cases h)
                refine ⟨_, _, pre41 _ ?_, hrun, hended, _, _, rfl, ?_, ⟨_, rfl⟩, hW, hsame.mono (by decide) (by decide)⟩
                · show Steps p.tables e below (T11.setTop (mkF m 58 #[.val (.ref a0), .val (.int p1), .val (.int p2), .val (.int p3), .val (.int v8), .unset, .unset] [(.int v8), (.int (own_get vs_a0 (p1 + (2 : Int32))))])) _
                  refine XS.icmpNo X11.here hx rfl (hb hby d3_58) rfl (feq hc42).1 ?_
                  show Steps p.tables e below (T11.setTop (mkF m 61 #[.val (.ref a0), .val (.int p1), .val (.int p2), .val (.int p3), .val (.int v8), .unset, .unset] [])) _
                  refine XS.iconst X11.here hx rfl (hb hby d3_61) ?_
                  show Steps p.tables e below (T11.setTop (mkF m 62 #[.val (.ref a0), .val (.int p1), .val (.int p2), .val (.int p3), .val (.int v8), .unset, .unset] [(.int (0 : Int32))])) _
                  exact retN X11 hx (t := .boolean) Bd.returns (by simp) (hb hby d3_62) hr
                · show Q3 Z a0 p1 p2 p3 ka_a0 vs_a0 h0 n0 _ T11.heap _
                  rw [e11]
                  exact ⟨congrArg (fun z => some (Value.int z)) (by subst hv8; simp only [f3, if_neg hc2, if_neg hc4, if_neg hc13, if_pos hg15, if_neg hg29, if_pos hc38, if_neg hc42]), N11, rfl⟩
            · exact (hg29 (by simp [hc38])).elim
        · have pre23 : ∀ t, Steps p.tables e below (T11.setTop (mkF m 31 #[.val (.ref a0), .val (.int p1), .val (.int p2), .val (.int p3), .val (.int v8), .unset, .unset] [(.int p3), (.int (1 : Int32))])) t → Steps p.tables e below (s₁.setTop (entryFrame m #[(.ref a0), (.int p1), (.int p2), (.int p3)] 7)) t := fun t k => pre14 t (by
            show Steps p.tables e below (T11.setTop (mkF m 29 #[.val (.ref a0), .val (.int p1), .val (.int p2), .val (.int p3), .val (.int v8), .unset, .unset] [])) _
            refine XS.iconst X11.here hx rfl (hb hby d3_29) ?_
            show Steps p.tables e below (T11.setTop (mkF m 30 #[.val (.ref a0), .val (.int p1), .val (.int p2), .val (.int p3), .val (.int v8), .unset, .unset] [(.int (1 : Int32))])) _
            refine XS.iloadN X11.here hx rfl (hb hby d3_30) rfl ?_
            exact k)
          by_cases hc24 : (1 : Int32) < p3
          · have pre25 : ∀ t, Steps p.tables e below (T11.setTop (mkF m 38 #[.val (.ref a0), .val (.int p1), .val (.int p2), .val (.int p3), .val (.int v8), .unset, .unset] [(.int (p1 + (1 : Int32))), (.ref a0)])) t → Steps p.tables e below (s₁.setTop (entryFrame m #[(.ref a0), (.int p1), (.int p2), (.int p3)] 7)) t := fun t k => pre23 t (by
              show Steps p.tables e below (T11.setTop (mkF m 31 #[.val (.ref a0), .val (.int p1), .val (.int p2), .val (.int p3), .val (.int v8), .unset, .unset] [(.int p3), (.int (1 : Int32))])) _
              refine XS.icmpNo X11.here hx rfl (hb hby d3_31) rfl (tlt hc24).2.1 ?_
              show Steps p.tables e below (T11.setTop (mkF m 34 #[.val (.ref a0), .val (.int p1), .val (.int p2), .val (.int p3), .val (.int v8), .unset, .unset] [])) _
              refine XS.aloadN X11.here hx rfl (hb hby d3_34) rfl rfl ?_
              show Steps p.tables e below (T11.setTop (mkF m 35 #[.val (.ref a0), .val (.int p1), .val (.int p2), .val (.int p3), .val (.int v8), .unset, .unset] [(.ref a0)])) _
              refine XS.iloadN X11.here hx rfl (hb hby d3_35) rfl ?_
              show Steps p.tables e below (T11.setTop (mkF m 36 #[.val (.ref a0), .val (.int p1), .val (.int p2), .val (.int p3), .val (.int v8), .unset, .unset] [(.int p1), (.ref a0)])) _
              refine XS.iconst X11.here hx rfl (hb hby d3_36) ?_
              show Steps p.tables e below (T11.setTop (mkF m 37 #[.val (.ref a0), .val (.int p1), .val (.int p2), .val (.int p3), .val (.int v8), .unset, .unset] [(.int (1 : Int32)), (.int p1), (.ref a0)])) _
              refine XS.iadd X11.here hx rfl (hb hby d3_37) rfl ?_
              exact k)
            have kown_in3_38_2 : ¬ (p1 + (1 : Int32)) < 0 ∧ (p1 + (1 : Int32)) < (6 : Int32) := own_in3_38_2 p1 p2 p3 vs_a0 hr v8 hv8 hc2 hc4 hc13 hg15 hc24
            obtain ⟨cl26, Ar26, q26, S26, M26, H26, G26⟩ := id V_a0
            have hin26 : ¬ ((p1 + (1 : Int32)) < 0 ∨ cl26.slots.size ≤ ((p1 + (1 : Int32))).toNatClampNeg) := inb_of S26 kown_in3_38_2
            have hat26 : cl26.slots[((p1 + (1 : Int32))).toNatClampNeg]? = some (.int (own_get vs_a0 (p1 + (1 : Int32)))) := H26.at hin26 (own_getD vs_a0 (p1 + (1 : Int32)))
            have pre27 : ∀ t, Steps p.tables e below (T11.setTop (mkF m 41 #[.val (.ref a0), .val (.int p1), .val (.int p2), .val (.int p3), .val (.int v8), .unset, .unset] [(.int v8), (.int (own_get vs_a0 (p1 + (1 : Int32))))])) t → Steps p.tables e below (s₁.setTop (entryFrame m #[(.ref a0), (.int p1), (.int p2), (.int p3)] 7)) t := fun t k => pre25 t (by
              show Steps p.tables e below (T11.setTop (mkF m 38 #[.val (.ref a0), .val (.int p1), .val (.int p2), .val (.int p3), .val (.int v8), .unset, .unset] [(.int (p1 + (1 : Int32))), (.ref a0)])) _
              refine X11.baloadBytes hx (j := (p1 + (1 : Int32))) (v := (.int (own_get vs_a0 (p1 + (1 : Int32))))) (by rw [e11]; exact Ar26.1) (State.isArrayOf_alike hZ.alike Ar26.2.1) Ar26.2.2 hin26 hat26 (g := (mkF m 38 #[.val (.ref a0), .val (.int p1), .val (.int p2), .val (.int p3), .val (.int v8), .unset, .unset] [(.int (p1 + (1 : Int32))), (.ref a0)])) rfl rfl (hb hby d3_38) _ ?_
              show Steps p.tables e below (T11.setTop (mkF m 39 #[.val (.ref a0), .val (.int p1), .val (.int p2), .val (.int p3), .val (.int v8), .unset, .unset] [(.int (own_get vs_a0 (p1 + (1 : Int32))))])) _
              refine XS.iload X11.here hx rfl (hb hby d3_39) rfl ?_
              exact k)
            by_cases hc28 : (own_get vs_a0 (p1 + (1 : Int32))) = v8
            · exact (hg15 (by simp [hc24, hc28])).elim
            · obtain ⟨fs, hr, hrun, hended, hW, hsame⟩ := X11.leave (v := some (.int (0 : Int32))) (fun h => by rw [Bd.returns] at h; cases h)
              refine ⟨_, _, pre27 _ ?_, hrun, hended, _, _, rfl, ?_, ⟨_, rfl⟩, hW, hsame.mono (by decide) (by decide)⟩
              · show Steps p.tables e below (T11.setTop (mkF m 41 #[.val (.ref a0), .val (.int p1), .val (.int p2), .val (.int p3), .val (.int v8), .unset, .unset] [(.int v8), (.int (own_get vs_a0 (p1 + (1 : Int32))))])) _
                refine XS.icmpNo X11.here hx rfl (hb hby d3_41) rfl (feq hc28).1 ?_
                show Steps p.tables e below (T11.setTop (mkF m 44 #[.val (.ref a0), .val (.int p1), .val (.int p2), .val (.int p3), .val (.int v8), .unset, .unset] [])) _
                refine XS.iconst X11.here hx rfl (hb hby d3_44) ?_
                show Steps p.tables e below (T11.setTop (mkF m 45 #[.val (.ref a0), .val (.int p1), .val (.int p2), .val (.int p3), .val (.int v8), .unset, .unset] [(.int (0 : Int32))])) _
                exact retN X11 hx (t := .boolean) Bd.returns (by simp) (hb hby d3_45) hr
              · show Q3 Z a0 p1 p2 p3 ka_a0 vs_a0 h0 n0 _ T11.heap _
                rw [e11]
                exact ⟨congrArg (fun z => some (Value.int z)) (by subst hv8; simp only [f3, if_neg hc2, if_neg hc4, if_neg hc13, if_neg hg15, if_pos hc24, if_neg hc28]), N11, rfl⟩
          · exact (hg15 (by simp [hc24])).elim
theorem pd_0 : parseMethodDescriptor "(JII)B" = some ⟨[.long, .int, .int], some .byte⟩ := by decide +kernel
theorem pd_1 : parseMethodDescriptor "([BII)I" = some ⟨[(.array .byte), .int, .int], some .int⟩ := by decide +kernel
theorem pd_2 : parseMethodDescriptor "([BIII)Z" = some ⟨[(.array .byte), .int, .int, .int], some .boolean⟩ := by decide +kernel
theorem ef_0 (m : MethodId) (x0 : Int64) (x1 : Int32) (x2 : Int32) (x3 : Int32) : entryFrame m #[(.long x0), (.int x1), (.int x2), (.int x3)] maxLocals = mkF m 0 #[.val (.long x0), .second, .val (.int x1), .val (.int x2), .val (.int x3), .unset, .unset, .unset, .unset, .unset] [] := by first | (simp [entryFrame, mkF, argsToLocals, Value.category, maxLocals]; done) | rfl
def f0 (q0 : Int64) (p1 : Int32) (p2 : Int32) (p3 : Int32) : Int32 := (let v28 : Int32 := ((p2 &&& (2147483647 : Int32)) % (7 : Int32)); (let v31 : Int32 := (v28 + ((p3 &&& (2147483647 : Int32)) % ((7 : Int32) - v28))); (let vs33 : List Int32 := [(nar .byte (f1 q0 p1 (0 : Int32))), (nar .byte (f1 q0 p1 (1 : Int32))), (nar .byte (f1 q0 p1 (2 : Int32))), (nar .byte (f1 q0 p1 (3 : Int32))), (nar .byte (f1 q0 p1 (4 : Int32))), (nar .byte (f1 q0 p1 (5 : Int32)))]; (let v38 : Int32 := (f2 v28 v31 vs33); (let j64 : Int32 := (if (f3 v28 v31 (1 : Int32) vs33) = (0 : Int32) then (if (f3 v28 v31 (2 : Int32) vs33) = (0 : Int32) then (if (f3 v28 v31 (3 : Int32) vs33) = (0 : Int32) then (if (f3 v28 v31 (4 : Int32) vs33) = (0 : Int32) then (if (f3 v28 v31 (5 : Int32) vs33) = (0 : Int32) then (if (f3 v28 v31 (6 : Int32) vs33) = (0 : Int32) then (0 : Int32) else (1 : Int32)) else (1 : Int32)) else (1 : Int32)) else (1 : Int32)) else (1 : Int32)) else (1 : Int32)); (if v38 = (0 : Int32) then (let j71 : Int32 := (if j64 = (0 : Int32) then (1 : Int32) else (0 : Int32)); (nar .boolean j71)) else (let j81 : Int32 := (if v38 < (1 : Int32) then (0 : Int32) else (if (6 : Int32) < v38 then (0 : Int32) else (if (f3 v28 v31 v38 vs33) = (0 : Int32) then (0 : Int32) else (1 : Int32)))); (nar .boolean j81))))))))
def Q0 (Z : State) (q0 : Int64) (p1 : Int32) (p2 : Int32) (p3 : Int32) (h0 : Heap) (n0 : Nat) (v : Option Value) (h : Heap) (L : List Loc) : Prop := v = some (.int (1 : Int32)) ∧ Fr n0 L
theorem own_nz0_87 (q0 : Int64) (p1 : Int32) (p2 : Int32) (p3 : Int32) (v28 : Int32) (hv28 : v28 = ((p2 &&& (2147483647 : Int32)) % (7 : Int32))) : ((7 : Int32) - v28) ≠ (0 : Int32) := by
  obtain ⟨a, b, -, -, d⟩ := own_ft p2 p3
  rw [← hv28] at a b d
  intro z
  rw [z] at d
  exact absurd d (by decide)
theorem own_preM_1 (q0 : Int64) (p1 : Int32) (p2 : Int32) (p3 : Int32) (v28 : Int32) (hv28 : v28 = ((p2 &&& (2147483647 : Int32)) % (7 : Int32))) (v31 : Int32) (hv31 : v31 = (v28 + ((p3 &&& (2147483647 : Int32)) % ((7 : Int32) - v28)))) (vs33 : List Int32) (hvs33 : vs33 = [(nar .byte (f1 q0 p1 (0 : Int32))), (nar .byte (f1 q0 p1 (1 : Int32))), (nar .byte (f1 q0 p1 (2 : Int32))), (nar .byte (f1 q0 p1 (3 : Int32))), (nar .byte (f1 q0 p1 (4 : Int32))), (nar .byte (f1 q0 p1 (5 : Int32)))]) : 0 ≤ (v28 : Int32).toInt ∧ v28.toInt ≤ v31.toInt ∧ v31.toInt ≤ 6 := by
  obtain ⟨a, b, c, d, -⟩ := own_ft p2 p3
  rw [← hv28] at a b c d
  rw [← hv31] at c d
  exact ⟨a, c, d⟩
theorem own_preV_1 (q0 : Int64) (p1 : Int32) (p2 : Int32) (p3 : Int32) (v28 : Int32) (hv28 : v28 = ((p2 &&& (2147483647 : Int32)) % (7 : Int32))) (v31 : Int32) (hv31 : v31 = (v28 + ((p3 &&& (2147483647 : Int32)) % ((7 : Int32) - v28)))) (vs33 : List Int32) (hvs33 : vs33 = [(nar .byte (f1 q0 p1 (0 : Int32))), (nar .byte (f1 q0 p1 (1 : Int32))), (nar .byte (f1 q0 p1 (2 : Int32))), (nar .byte (f1 q0 p1 (3 : Int32))), (nar .byte (f1 q0 p1 (4 : Int32))), (nar .byte (f1 q0 p1 (5 : Int32)))]) (v38 : Int32) (hv38 : v38 = (f2 v28 v31 vs33)) : 0 ≤ (v28 : Int32).toInt ∧ v28.toInt ≤ v31.toInt ∧ v31.toInt ≤ 6 ∧ -100 ≤ (1 : Int32).toInt ∧ (1 : Int32).toInt ≤ 100 := by
  obtain ⟨a, b, c, d, -⟩ := own_ft p2 p3
  rw [← hv28] at a b c d
  rw [← hv31] at c d
  refine ⟨a, c, d, ?_⟩
  first
    | decide
    | (have k1 : (1 : Int32).toInt = 1 := by decide
       have k6 : (6 : Int32).toInt = 6 := by decide
       rw [Int32.lt_iff_toInt_lt, k1] at hc74
       rw [Int32.lt_iff_toInt_lt, k6] at hc76
       omega)
theorem own_preV_2 (q0 : Int64) (p1 : Int32) (p2 : Int32) (p3 : Int32) (v28 : Int32) (hv28 : v28 = ((p2 &&& (2147483647 : Int32)) % (7 : Int32))) (v31 : Int32) (hv31 : v31 = (v28 + ((p3 &&& (2147483647 : Int32)) % ((7 : Int32) - v28)))) (vs33 : List Int32) (hvs33 : vs33 = [(nar .byte (f1 q0 p1 (0 : Int32))), (nar .byte (f1 q0 p1 (1 : Int32))), (nar .byte (f1 q0 p1 (2 : Int32))), (nar .byte (f1 q0 p1 (3 : Int32))), (nar .byte (f1 q0 p1 (4 : Int32))), (nar .byte (f1 q0 p1 (5 : Int32)))]) (v38 : Int32) (hv38 : v38 = (f2 v28 v31 vs33)) (hc43 : (f3 v28 v31 (1 : Int32) vs33) = (0 : Int32)) : 0 ≤ (v28 : Int32).toInt ∧ v28.toInt ≤ v31.toInt ∧ v31.toInt ≤ 6 ∧ -100 ≤ (2 : Int32).toInt ∧ (2 : Int32).toInt ≤ 100 := by
  obtain ⟨a, b, c, d, -⟩ := own_ft p2 p3
  rw [← hv28] at a b c d
  rw [← hv31] at c d
  refine ⟨a, c, d, ?_⟩
  first
    | decide
    | (have k1 : (1 : Int32).toInt = 1 := by decide
       have k6 : (6 : Int32).toInt = 6 := by decide
       rw [Int32.lt_iff_toInt_lt, k1] at hc74
       rw [Int32.lt_iff_toInt_lt, k6] at hc76
       omega)
theorem own_preV_3 (q0 : Int64) (p1 : Int32) (p2 : Int32) (p3 : Int32) (v28 : Int32) (hv28 : v28 = ((p2 &&& (2147483647 : Int32)) % (7 : Int32))) (v31 : Int32) (hv31 : v31 = (v28 + ((p3 &&& (2147483647 : Int32)) % ((7 : Int32) - v28)))) (vs33 : List Int32) (hvs33 : vs33 = [(nar .byte (f1 q0 p1 (0 : Int32))), (nar .byte (f1 q0 p1 (1 : Int32))), (nar .byte (f1 q0 p1 (2 : Int32))), (nar .byte (f1 q0 p1 (3 : Int32))), (nar .byte (f1 q0 p1 (4 : Int32))), (nar .byte (f1 q0 p1 (5 : Int32)))]) (v38 : Int32) (hv38 : v38 = (f2 v28 v31 vs33)) (hc43 : (f3 v28 v31 (1 : Int32) vs33) = (0 : Int32)) (hc47 : (f3 v28 v31 (2 : Int32) vs33) = (0 : Int32)) : 0 ≤ (v28 : Int32).toInt ∧ v28.toInt ≤ v31.toInt ∧ v31.toInt ≤ 6 ∧ -100 ≤ (3 : Int32).toInt ∧ (3 : Int32).toInt ≤ 100 := by
  obtain ⟨a, b, c, d, -⟩ := own_ft p2 p3
  rw [← hv28] at a b c d
  rw [← hv31] at c d
  refine ⟨a, c, d, ?_⟩
  first
    | decide
    | (have k1 : (1 : Int32).toInt = 1 := by decide
       have k6 : (6 : Int32).toInt = 6 := by decide
       rw [Int32.lt_iff_toInt_lt, k1] at hc74
       rw [Int32.lt_iff_toInt_lt, k6] at hc76
       omega)
theorem own_preV_4 (q0 : Int64) (p1 : Int32) (p2 : Int32) (p3 : Int32) (v28 : Int32) (hv28 : v28 = ((p2 &&& (2147483647 : Int32)) % (7 : Int32))) (v31 : Int32) (hv31 : v31 = (v28 + ((p3 &&& (2147483647 : Int32)) % ((7 : Int32) - v28)))) (vs33 : List Int32) (hvs33 : vs33 = [(nar .byte (f1 q0 p1 (0 : Int32))), (nar .byte (f1 q0 p1 (1 : Int32))), (nar .byte (f1 q0 p1 (2 : Int32))), (nar .byte (f1 q0 p1 (3 : Int32))), (nar .byte (f1 q0 p1 (4 : Int32))), (nar .byte (f1 q0 p1 (5 : Int32)))]) (v38 : Int32) (hv38 : v38 = (f2 v28 v31 vs33)) (hc43 : (f3 v28 v31 (1 : Int32) vs33) = (0 : Int32)) (hc47 : (f3 v28 v31 (2 : Int32) vs33) = (0 : Int32)) (hc51 : (f3 v28 v31 (3 : Int32) vs33) = (0 : Int32)) : 0 ≤ (v28 : Int32).toInt ∧ v28.toInt ≤ v31.toInt ∧ v31.toInt ≤ 6 ∧ -100 ≤ (4 : Int32).toInt ∧ (4 : Int32).toInt ≤ 100 := by
  obtain ⟨a, b, c, d, -⟩ := own_ft p2 p3
  rw [← hv28] at a b c d
  rw [← hv31] at c d
  refine ⟨a, c, d, ?_⟩
  first
    | decide
    | (have k1 : (1 : Int32).toInt = 1 := by decide
       have k6 : (6 : Int32).toInt = 6 := by decide
       rw [Int32.lt_iff_toInt_lt, k1] at hc74
       rw [Int32.lt_iff_toInt_lt, k6] at hc76
       omega)
theorem own_preV_5 (q0 : Int64) (p1 : Int32) (p2 : Int32) (p3 : Int32) (v28 : Int32) (hv28 : v28 = ((p2 &&& (2147483647 : Int32)) % (7 : Int32))) (v31 : Int32) (hv31 : v31 = (v28 + ((p3 &&& (2147483647 : Int32)) % ((7 : Int32) - v28)))) (vs33 : List Int32) (hvs33 : vs33 = [(nar .byte (f1 q0 p1 (0 : Int32))), (nar .byte (f1 q0 p1 (1 : Int32))), (nar .byte (f1 q0 p1 (2 : Int32))), (nar .byte (f1 q0 p1 (3 : Int32))), (nar .byte (f1 q0 p1 (4 : Int32))), (nar .byte (f1 q0 p1 (5 : Int32)))]) (v38 : Int32) (hv38 : v38 = (f2 v28 v31 vs33)) (hc43 : (f3 v28 v31 (1 : Int32) vs33) = (0 : Int32)) (hc47 : (f3 v28 v31 (2 : Int32) vs33) = (0 : Int32)) (hc51 : (f3 v28 v31 (3 : Int32) vs33) = (0 : Int32)) (hc55 : (f3 v28 v31 (4 : Int32) vs33) = (0 : Int32)) : 0 ≤ (v28 : Int32).toInt ∧ v28.toInt ≤ v31.toInt ∧ v31.toInt ≤ 6 ∧ -100 ≤ (5 : Int32).toInt ∧ (5 : Int32).toInt ≤ 100 := by
  obtain ⟨a, b, c, d, -⟩ := own_ft p2 p3
  rw [← hv28] at a b c d
  rw [← hv31] at c d
  refine ⟨a, c, d, ?_⟩
  first
    | decide
    | (have k1 : (1 : Int32).toInt = 1 := by decide
       have k6 : (6 : Int32).toInt = 6 := by decide
       rw [Int32.lt_iff_toInt_lt, k1] at hc74
       rw [Int32.lt_iff_toInt_lt, k6] at hc76
       omega)
theorem own_preV_6 (q0 : Int64) (p1 : Int32) (p2 : Int32) (p3 : Int32) (v28 : Int32) (hv28 : v28 = ((p2 &&& (2147483647 : Int32)) % (7 : Int32))) (v31 : Int32) (hv31 : v31 = (v28 + ((p3 &&& (2147483647 : Int32)) % ((7 : Int32) - v28)))) (vs33 : List Int32) (hvs33 : vs33 = [(nar .byte (f1 q0 p1 (0 : Int32))), (nar .byte (f1 q0 p1 (1 : Int32))), (nar .byte (f1 q0 p1 (2 : Int32))), (nar .byte (f1 q0 p1 (3 : Int32))), (nar .byte (f1 q0 p1 (4 : Int32))), (nar .byte (f1 q0 p1 (5 : Int32)))]) (v38 : Int32) (hv38 : v38 = (f2 v28 v31 vs33)) (hc43 : (f3 v28 v31 (1 : Int32) vs33) = (0 : Int32)) (hc47 : (f3 v28 v31 (2 : Int32) vs33) = (0 : Int32)) (hc51 : (f3 v28 v31 (3 : Int32) vs33) = (0 : Int32)) (hc55 : (f3 v28 v31 (4 : Int32) vs33) = (0 : Int32)) (hc59 : (f3 v28 v31 (5 : Int32) vs33) = (0 : Int32)) : 0 ≤ (v28 : Int32).toInt ∧ v28.toInt ≤ v31.toInt ∧ v31.toInt ≤ 6 ∧ -100 ≤ (6 : Int32).toInt ∧ (6 : Int32).toInt ≤ 100 := by
  obtain ⟨a, b, c, d, -⟩ := own_ft p2 p3
  rw [← hv28] at a b c d
  rw [← hv31] at c d
  refine ⟨a, c, d, ?_⟩
  first
    | decide
    | (have k1 : (1 : Int32).toInt = 1 := by decide
       have k6 : (6 : Int32).toInt = 6 := by decide
       rw [Int32.lt_iff_toInt_lt, k1] at hc74
       rw [Int32.lt_iff_toInt_lt, k6] at hc76
       omega)
theorem own_preV_7 (q0 : Int64) (p1 : Int32) (p2 : Int32) (p3 : Int32) (v28 : Int32) (hv28 : v28 = ((p2 &&& (2147483647 : Int32)) % (7 : Int32))) (v31 : Int32) (hv31 : v31 = (v28 + ((p3 &&& (2147483647 : Int32)) % ((7 : Int32) - v28)))) (vs33 : List Int32) (hvs33 : vs33 = [(nar .byte (f1 q0 p1 (0 : Int32))), (nar .byte (f1 q0 p1 (1 : Int32))), (nar .byte (f1 q0 p1 (2 : Int32))), (nar .byte (f1 q0 p1 (3 : Int32))), (nar .byte (f1 q0 p1 (4 : Int32))), (nar .byte (f1 q0 p1 (5 : Int32)))]) (v38 : Int32) (hv38 : v38 = (f2 v28 v31 vs33)) (j64 : Int32) (hj64 : j64 = (if (f3 v28 v31 (1 : Int32) vs33) = (0 : Int32) then (if (f3 v28 v31 (2 : Int32) vs33) = (0 : Int32) then (if (f3 v28 v31 (3 : Int32) vs33) = (0 : Int32) then (if (f3 v28 v31 (4 : Int32) vs33) = (0 : Int32) then (if (f3 v28 v31 (5 : Int32) vs33) = (0 : Int32) then (if (f3 v28 v31 (6 : Int32) vs33) = (0 : Int32) then (0 : Int32) else (1 : Int32)) else (1 : Int32)) else (1 : Int32)) else (1 : Int32)) else (1 : Int32)) else (1 : Int32))) (hc68 : ¬ (v38 = (0 : Int32))) (hc74 : ¬ (v38 < (1 : Int32))) (hc76 : ¬ ((6 : Int32) < v38)) : 0 ≤ (v28 : Int32).toInt ∧ v28.toInt ≤ v31.toInt ∧ v31.toInt ≤ 6 ∧ -100 ≤ v38.toInt ∧ v38.toInt ≤ 100 := by
  obtain ⟨a, b, c, d, -⟩ := own_ft p2 p3
  rw [← hv28] at a b c d
  rw [← hv31] at c d
  refine ⟨a, c, d, ?_⟩
  first
    | decide
    | (have k1 : (1 : Int32).toInt = 1 := by decide
       have k6 : (6 : Int32).toInt = 6 := by decide
       rw [Int32.lt_iff_toInt_lt, k1] at hc74
       rw [Int32.lt_iff_toInt_lt, k6] at hc76
       omega)
set_option maxRecDepth 65536 in
set_option maxHeartbeats 40000000 in
theorem rm0 (l : Launch) (Z : State) (aw : Array Value) (hw : ∀ d ∈ tables_1, d.before aw Z = true) (ws : List Jvm.Cond) (q0 : Int64) (p1 : Int32) (p2 : Int32) (p3 : Int32) (h0 : Heap) (n0 : Nat) (Z0 : n0 ≤ h0.size) (hlaw : f0 q0 p1 p2 p3 = 1) :
    MetFree l x (head1 (Jvm.Cond.code x code maxLocals ret :: ws) room_1) (fun a U => a = #[(.long q0), (.int p1), (.int p2), (.int p3)] ∧ Z.Warmed39 U.vm ∧ U.heap = h0) (fun _ _ _ _ _ => True) (fun _ U o U' => ∃ v L, o = .returned v ∧ Q0 Z q0 p1 p2 p3 h0 n0 v U'.heap L ∧ FrameEnd U o U' L room_1.cells room_1.slots) := by
  refine MetFree.of_bodySF (plainFor_of_name pn_1) hisR ?_
  intro p e s m args below meth c s₁ Bd hml0 hP hK
  obtain ⟨rfl, hZ, hh⟩ := hP
  have hx := Bd.exec
  have hby := Bd.bytes
  have hml : c.maxLocals = 10 := hml0
  have hown : s.vm.findClass "com/example/tercet/tercet/ConflictMarkersMarkerRunPinLaw" = some m.cls := findClass_of_methodNamed Bd.named
  have hnm := (name_of_methodNamed Bd.named Bd.method).1
  have X0 : Stand p l e room_1 s m #[(.long q0), (.int p1), (.int p2), (.int p3)] below meth c s₁ [] 0 0 := Stand.of_body Bd
  have e0 : s₁.heap = h0 := by rw [← hh, Bd.state]; rfl
  have N0 := Fr.nil n0
  have pre0 : ∀ t, Steps p.tables e below (s₁.setTop (mkF m 0 #[.val (.long q0), .second, .val (.int p1), .val (.int p2), .val (.int p3), .unset, .unset, .unset, .unset, .unset] [])) t → Steps p.tables e below (s₁.setTop (entryFrame m #[(.long q0), (.int p1), (.int p2), (.int p3)] maxLocals)) t := fun t k => castTop (ef_0 m q0 p1 p2 p3) k
  have pre1 : ∀ t, Steps p.tables e below (s₁.setTop (mkF m 2 #[.val (.long q0), .second, .val (.int p1), .val (.int p2), .val (.int p3), .unset, .unset, .unset, .unset, .unset] [(.int (6 : Int32))])) t → Steps p.tables e below (s₁.setTop (entryFrame m #[(.long q0), (.int p1), (.int p2), (.int p3)] maxLocals)) t := fun t k => pre0 t (by
    show Steps p.tables e below (s₁.setTop (mkF m 0 #[.val (.long q0), .second, .val (.int p1), .val (.int p2), .val (.int p3), .unset, .unset, .unset, .unset, .unset] [])) _
    refine XS.bipush X0.here hx rfl (hb hby at_0) ?_
    exact k)
  obtain ⟨T2, h2, k2, X2, e2, E2, A2, st2⟩ := newP X0 hx hZ (hw _ (List.mem_of_getElem? (i := 0) rfl)) e0 (g := (mkF m 2 #[.val (.long q0), .second, .val (.int p1), .val (.int p2), .val (.int p3), .unset, .unset, .unset, .unset, .unset] [(.int (6 : Int32))])) rfl (hb hby at_2) rfl (by decide) (cap := 6) (by decide) (by decide) (by decide) (by decide)
  obtain ⟨b2, g2⟩ : ∃ z, z = h0.size := ⟨_, rfl⟩
  have g_b2 : n0 ≤ b2 := Nat.le_trans Z0 (Nat.le_of_eq g2.symm)
  have sz_b2 : h0.size ≤ b2 := Nat.le_trans (Keep.refl h0 []).1 (Nat.le_of_eq g2.symm)
  rw [← g2] at A2 st2
  have K2 : Keep h0 h2 [] := (Keep.refl h0 []).ext E2
  have Z2 : n0 ≤ h2.size := Nat.le_trans Z0 E2.1
  have V_b2 : Arv Z h2 b2 k2 .byte (6 : Int32) [(.int (0 : Int32)), (.int (0 : Int32)), (.int (0 : Int32)), (.int (0 : Int32)), (.int (0 : Int32)), (.int (0 : Int32))] (.int (0 : Int32)) := (Arv.new A2 (by decide)).pad (pad_rep [] (.int (0 : Int32)) 6)
  have pre3 : ∀ t, Steps p.tables e below (T2.setTop (mkF m 12 #[.val (.long q0), .second, .val (.int p1), .val (.int p2), .val (.int p3), .val (.ref b2), .unset, .unset, .unset, .unset] [(.int (0 : Int32)), (.int p1), (.long q0), (.int (0 : Int32)), (.ref b2)])) t → Steps p.tables e below (s₁.setTop (entryFrame m #[(.long q0), (.int p1), (.int p2), (.int p3)] maxLocals)) t := fun t k => pre1 t (by
    show Steps p.tables e below (s₁.setTop (mkF m 2 #[.val (.long q0), .second, .val (.int p1), .val (.int p2), .val (.int p3), .unset, .unset, .unset, .unset, .unset] [(.int (6 : Int32))])) _
    refine st2 _ ?_
    show Steps p.tables e below (T2.setTop (mkF m 4 #[.val (.long q0), .second, .val (.int p1), .val (.int p2), .val (.int p3), .unset, .unset, .unset, .unset, .unset] [(.ref b2)])) _
    refine XS.astore X2.here hx rfl (hb hby at_4) rfl rfl (l' := #[.val (.long q0), .second, .val (.int p1), .val (.int p2), .val (.int p3), .val (.ref b2), .unset, .unset, .unset, .unset]) rfl ?_
    show Steps p.tables e below (T2.setTop (mkF m 6 #[.val (.long q0), .second, .val (.int p1), .val (.int p2), .val (.int p3), .val (.ref b2), .unset, .unset, .unset, .unset] [])) _
    refine XS.aload X2.here hx rfl (hb hby at_6) rfl rfl ?_
    show Steps p.tables e below (T2.setTop (mkF m 8 #[.val (.long q0), .second, .val (.int p1), .val (.int p2), .val (.int p3), .val (.ref b2), .unset, .unset, .unset, .unset] [(.ref b2)])) _
    refine XS.iconst X2.here hx rfl (hb hby at_8) ?_
    show Steps p.tables e below (T2.setTop (mkF m 9 #[.val (.long q0), .second, .val (.int p1), .val (.int p2), .val (.int p3), .val (.ref b2), .unset, .unset, .unset, .unset] [(.int (0 : Int32)), (.ref b2)])) _
    refine XS.lloadN X2.here hx rfl (hb hby at_9) rfl ?_
    show Steps p.tables e below (T2.setTop (mkF m 10 #[.val (.long q0), .second, .val (.int p1), .val (.int p2), .val (.int p3), .val (.ref b2), .unset, .unset, .unset, .unset] [(.long q0), (.int (0 : Int32)), (.ref b2)])) _
    refine XS.iloadN X2.here hx rfl (hb hby at_10) rfl ?_
    show Steps p.tables e below (T2.setTop (mkF m 11 #[.val (.long q0), .second, .val (.int p1), .val (.int p2), .val (.int p3), .val (.ref b2), .unset, .unset, .unset, .unset] [(.int p1), (.long q0), (.int (0 : Int32)), (.ref b2)])) _
    refine XS.iconst X2.here hx rfl (hb hby at_11) ?_
    exact k)
  obtain ⟨_, _, ⟨T4, L4, k4, n4⟩, -, X4, ⟨Lc4, hQ4, l4, y4, z4⟩, st4⟩ := Jvm.LawKit.callS X2 hx (y := (⟨"com/example/tercet/tercet/ConflictMarkersMarkerRunPinLaw", "pick", "(JII)B"⟩ : MethodName)) hown (mvT hZ (hw _ (List.mem_of_getElem? (i := 1) rfl))) (mvT hZ (hw _ (List.mem_of_getElem? (i := 2) rfl))) (mvT hZ (hw _ (List.mem_of_getElem? (i := 3) rfl))) (mvT hZ (hw _ (List.mem_of_getElem? (i := 4) rfl))) (by decide) (backOf (W := 2) (rm1 l Z aw hw [] q0 p1 (0 : Int32) h2 n0 Z2) hZ (hw _ (List.mem_of_getElem? (i := 4) rfl)) (hw _ (List.mem_of_getElem? (i := 3) rfl)) (by decide) (by decide)) (g := (mkF m 12 #[.val (.long q0), .second, .val (.int p1), .val (.int p2), .val (.int p3), .val (.ref b2), .unset, .unset, .unset, .unset] [(.int (0 : Int32)), (.int p1), (.long q0), (.int (0 : Int32)), (.ref b2)])) rfl (by rw [hml]; rfl) (argsL := [(.long q0), (.int p1), (.int (0 : Int32))]) (rest := [(.int (0 : Int32)), (.ref b2)]) (lenOf pd_0 rfl) rfl (by show 2 * 0 + _ ≤ _; exact Nat.le_of_eq rfl) (hb hby at_12) (fun _ _ => ⟨rfl, e2, (by decide : 1 + 1 ≤ _), (by decide : 6 + 8 ≤ _)⟩)
  dsimp only [Pt.U, Pt.locs, Pt.cells, Pt.slots] at X4 l4 y4 z4 st4 hQ4
  subst l4 y4 z4
  obtain ⟨rfl, N4q, K4q⟩ := hQ4
  have N4 := Fr.app N0 N4q
  have V_b2_4 := V_b2.keep K4q nin0
  have K4 : Keep h0 T4.heap [] := K2.trans K4q all0
  have Z4 : n0 ≤ T4.heap.size := Nat.le_trans Z2 K4q.1
  have pre5 : ∀ t, Steps p.tables e below (T4.setTop (mkF m 15 #[.val (.long q0), .second, .val (.int p1), .val (.int p2), .val (.int p3), .val (.ref b2), .unset, .unset, .unset, .unset] [(.int (f1 q0 p1 (0 : Int32))), (.int (0 : Int32)), (.ref b2)])) t → Steps p.tables e below (s₁.setTop (entryFrame m #[(.long q0), (.int p1), (.int p2), (.int p3)] maxLocals)) t := fun t k => pre3 t (by
    show Steps p.tables e below (T2.setTop (mkF m 12 #[.val (.long q0), .second, .val (.int p1), .val (.int p2), .val (.int p3), .val (.ref b2), .unset, .unset, .unset, .unset] [(.int (0 : Int32)), (.int p1), (.long q0), (.int (0 : Int32)), (.ref b2)])) _
    refine st4 _ ?_
    exact k)
  obtain ⟨cl6, Ar6, q6, S6, M6, H6, G6⟩ := id V_b2_4
  have hin6 : ¬ ((0 : Int32) < 0 ∨ cl6.slots.size ≤ ((0 : Int32)).toNatClampNeg) := inb_of S6 ⟨by decide, by decide⟩
  obtain ⟨T6, h6, X6, e6, W6, st6⟩ := stB X4 hx hZ rfl Ar6 (j := (0 : Int32)) hin6 (g := (mkF m 15 #[.val (.long q0), .second, .val (.int p1), .val (.int p2), .val (.int p3), .val (.ref b2), .unset, .unset, .unset, .unset] [(.int (f1 q0 p1 (0 : Int32))), (.int (0 : Int32)), (.ref b2)])) rfl rfl (hb hby at_15)
  have V_b2_6 : Arv Z h6 b2 k2 .byte (6 : Int32) [(.int (nar .byte (f1 q0 p1 (0 : Int32)))), (.int (0 : Int32)), (.int (0 : Int32)), (.int (0 : Int32)), (.int (0 : Int32)), (.int (0 : Int32))] (.int (0 : Int32)) := Arv.set Ar6 q6 S6 M6 H6 G6 (fits_nar_byte _) W6 0 rfl (Nat.le_of_ble_eq_true rfl)
  have K6 : Keep h0 h6 [] := K4.wr W6 (Or.inr sz_b2)
  have N6 := Fr.snoc X6 N4 g_b2
  have Z6 : n0 ≤ h6.size := Nat.le_trans Z4 (Nat.le_of_eq W6.size.symm)
  have pre7 : ∀ t, Steps p.tables e below (T6.setTop (mkF m 22 #[.val (.long q0), .second, .val (.int p1), .val (.int p2), .val (.int p3), .val (.ref b2), .unset, .unset, .unset, .unset] [(.int (1 : Int32)), (.int p1), (.long q0), (.int (1 : Int32)), (.ref b2)])) t → Steps p.tables e below (s₁.setTop (entryFrame m #[(.long q0), (.int p1), (.int p2), (.int p3)] maxLocals)) t := fun t k => pre5 t (by
    show Steps p.tables e below (T4.setTop (mkF m 15 #[.val (.long q0), .second, .val (.int p1), .val (.int p2), .val (.int p3), .val (.ref b2), .unset, .unset, .unset, .unset] [(.int (f1 q0 p1 (0 : Int32))), (.int (0 : Int32)), (.ref b2)])) _
    refine st6 _ ?_
    show Steps p.tables e below (T6.setTop (mkF m 16 #[.val (.long q0), .second, .val (.int p1), .val (.int p2), .val (.int p3), .val (.ref b2), .unset, .unset, .unset, .unset] [])) _
    refine XS.aload X6.here hx rfl (hb hby at_16) rfl rfl ?_
    show Steps p.tables e below (T6.setTop (mkF m 18 #[.val (.long q0), .second, .val (.int p1), .val (.int p2), .val (.int p3), .val (.ref b2), .unset, .unset, .unset, .unset] [(.ref b2)])) _
    refine XS.iconst X6.here hx rfl (hb hby at_18) ?_
    show Steps p.tables e below (T6.setTop (mkF m 19 #[.val (.long q0), .second, .val (.int p1), .val (.int p2), .val (.int p3), .val (.ref b2), .unset, .unset, .unset, .unset] [(.int (1 : Int32)), (.ref b2)])) _
    refine XS.lloadN X6.here hx rfl (hb hby at_19) rfl ?_
    show Steps p.tables e below (T6.setTop (mkF m 20 #[.val (.long q0), .second, .val (.int p1), .val (.int p2), .val (.int p3), .val (.ref b2), .unset, .unset, .unset, .unset] [(.long q0), (.int (1 : Int32)), (.ref b2)])) _
    refine XS.iloadN X6.here hx rfl (hb hby at_20) rfl ?_
    show Steps p.tables e below (T6.setTop (mkF m 21 #[.val (.long q0), .second, .val (.int p1), .val (.int p2), .val (.int p3), .val (.ref b2), .unset, .unset, .unset, .unset] [(.int p1), (.long q0), (.int (1 : Int32)), (.ref b2)])) _
    refine XS.iconst X6.here hx rfl (hb hby at_21) ?_
    exact k)
  obtain ⟨_, _, ⟨T8, L8, k8, n8⟩, -, X8, ⟨Lc8, hQ8, l8, y8, z8⟩, st8⟩ := Jvm.LawKit.callS X6 hx (y := (⟨"com/example/tercet/tercet/ConflictMarkersMarkerRunPinLaw", "pick", "(JII)B"⟩ : MethodName)) hown (mvT hZ (hw _ (List.mem_of_getElem? (i := 1) rfl))) (mvT hZ (hw _ (List.mem_of_getElem? (i := 2) rfl))) (mvT hZ (hw _ (List.mem_of_getElem? (i := 3) rfl))) (mvT hZ (hw _ (List.mem_of_getElem? (i := 4) rfl))) (by decide) (backOf (W := 2) (rm1 l Z aw hw [] q0 p1 (1 : Int32) h6 n0 Z6) hZ (hw _ (List.mem_of_getElem? (i := 4) rfl)) (hw _ (List.mem_of_getElem? (i := 3) rfl)) (by decide) (by decide)) (g := (mkF m 22 #[.val (.long q0), .second, .val (.int p1), .val (.int p2), .val (.int p3), .val (.ref b2), .unset, .unset, .unset, .unset] [(.int (1 : Int32)), (.int p1), (.long q0), (.int (1 : Int32)), (.ref b2)])) rfl (by rw [hml]; rfl) (argsL := [(.long q0), (.int p1), (.int (1 : Int32))]) (rest := [(.int (1 : Int32)), (.ref b2)]) (lenOf pd_0 rfl) rfl (by show 2 * 0 + _ ≤ _; exact Nat.le_of_eq rfl) (hb hby at_22) (fun _ _ => ⟨rfl, e6, (by decide : 2 + 1 ≤ _), (by decide : 14 + 8 ≤ _)⟩)
  dsimp only [Pt.U, Pt.locs, Pt.cells, Pt.slots] at X8 l8 y8 z8 st8 hQ8
  subst l8 y8 z8
  obtain ⟨rfl, N8q, K8q⟩ := hQ8
  have N8 := Fr.app N6 N8q
  have V_b2_8 := V_b2_6.keep K8q nin0
  have K8 : Keep h0 T8.heap [] := K6.trans K8q all0
  have Z8 : n0 ≤ T8.heap.size := Nat.le_trans Z6 K8q.1
  have pre9 : ∀ t, Steps p.tables e below (T8.setTop (mkF m 25 #[.val (.long q0), .second, .val (.int p1), .val (.int p2), .val (.int p3), .val (.ref b2), .unset, .unset, .unset, .unset] [(.int (f1 q0 p1 (1 : Int32))), (.int (1 : Int32)), (.ref b2)])) t → Steps p.tables e below (s₁.setTop (entryFrame m #[(.long q0), (.int p1), (.int p2), (.int p3)] maxLocals)) t := fun t k => pre7 t (by
    show Steps p.tables e below (T6.setTop (mkF m 22 #[.val (.long q0), .second, .val (.int p1), .val (.int p2), .val (.int p3), .val (.ref b2), .unset, .unset, .unset, .unset] [(.int (1 : Int32)), (.int p1), (.long q0), (.int (1 : Int32)), (.ref b2)])) _
    refine st8 _ ?_
    exact k)
  obtain ⟨cl10, Ar10, q10, S10, M10, H10, G10⟩ := id V_b2_8
  have hin10 : ¬ ((1 : Int32) < 0 ∨ cl10.slots.size ≤ ((1 : Int32)).toNatClampNeg) := inb_of S10 ⟨by decide, by decide⟩
  obtain ⟨T10, h10, X10, e10, W10, st10⟩ := stB X8 hx hZ rfl Ar10 (j := (1 : Int32)) hin10 (g := (mkF m 25 #[.val (.long q0), .second, .val (.int p1), .val (.int p2), .val (.int p3), .val (.ref b2), .unset, .unset, .unset, .unset] [(.int (f1 q0 p1 (1 : Int32))), (.int (1 : Int32)), (.ref b2)])) rfl rfl (hb hby at_25)
  have V_b2_10 : Arv Z h10 b2 k2 .byte (6 : Int32) [(.int (nar .byte (f1 q0 p1 (0 : Int32)))), (.int (nar .byte (f1 q0 p1 (1 : Int32)))), (.int (0 : Int32)), (.int (0 : Int32)), (.int (0 : Int32)), (.int (0 : Int32))] (.int (0 : Int32)) := Arv.set Ar10 q10 S10 M10 H10 G10 (fits_nar_byte _) W10 1 rfl (Nat.le_of_ble_eq_true rfl)
  have K10 : Keep h0 h10 [] := K8.wr W10 (Or.inr sz_b2)
  have N10 := Fr.snoc X10 N8 g_b2
  have Z10 : n0 ≤ h10.size := Nat.le_trans Z8 (Nat.le_of_eq W10.size.symm)
  have pre11 : ∀ t, Steps p.tables e below (T10.setTop (mkF m 32 #[.val (.long q0), .second, .val (.int p1), .val (.int p2), .val (.int p3), .val (.ref b2), .unset, .unset, .unset, .unset] [(.int (2 : Int32)), (.int p1), (.long q0), (.int (2 : Int32)), (.ref b2)])) t → Steps p.tables e below (s₁.setTop (entryFrame m #[(.long q0), (.int p1), (.int p2), (.int p3)] maxLocals)) t := fun t k => pre9 t (by
    show Steps p.tables e below (T8.setTop (mkF m 25 #[.val (.long q0), .second, .val (.int p1), .val (.int p2), .val (.int p3), .val (.ref b2), .unset, .unset, .unset, .unset] [(.int (f1 q0 p1 (1 : Int32))), (.int (1 : Int32)), (.ref b2)])) _
    refine st10 _ ?_
    show Steps p.tables e below (T10.setTop (mkF m 26 #[.val (.long q0), .second, .val (.int p1), .val (.int p2), .val (.int p3), .val (.ref b2), .unset, .unset, .unset, .unset] [])) _
    refine XS.aload X10.here hx rfl (hb hby at_26) rfl rfl ?_
    show Steps p.tables e below (T10.setTop (mkF m 28 #[.val (.long q0), .second, .val (.int p1), .val (.int p2), .val (.int p3), .val (.ref b2), .unset, .unset, .unset, .unset] [(.ref b2)])) _
    refine XS.iconst X10.here hx rfl (hb hby at_28) ?_
    show Steps p.tables e below (T10.setTop (mkF m 29 #[.val (.long q0), .second, .val (.int p1), .val (.int p2), .val (.int p3), .val (.ref b2), .unset, .unset, .unset, .unset] [(.int (2 : Int32)), (.ref b2)])) _
    refine XS.lloadN X10.here hx rfl (hb hby at_29) rfl ?_
    show Steps p.tables e below (T10.setTop (mkF m 30 #[.val (.long q0), .second, .val (.int p1), .val (.int p2), .val (.int p3), .val (.ref b2), .unset, .unset, .unset, .unset] [(.long q0), (.int (2 : Int32)), (.ref b2)])) _
    refine XS.iloadN X10.here hx rfl (hb hby at_30) rfl ?_
    show Steps p.tables e below (T10.setTop (mkF m 31 #[.val (.long q0), .second, .val (.int p1), .val (.int p2), .val (.int p3), .val (.ref b2), .unset, .unset, .unset, .unset] [(.int p1), (.long q0), (.int (2 : Int32)), (.ref b2)])) _
    refine XS.iconst X10.here hx rfl (hb hby at_31) ?_
    exact k)
  obtain ⟨_, _, ⟨T12, L12, k12, n12⟩, -, X12, ⟨Lc12, hQ12, l12, y12, z12⟩, st12⟩ := Jvm.LawKit.callS X10 hx (y := (⟨"com/example/tercet/tercet/ConflictMarkersMarkerRunPinLaw", "pick", "(JII)B"⟩ : MethodName)) hown (mvT hZ (hw _ (List.mem_of_getElem? (i := 1) rfl))) (mvT hZ (hw _ (List.mem_of_getElem? (i := 2) rfl))) (mvT hZ (hw _ (List.mem_of_getElem? (i := 3) rfl))) (mvT hZ (hw _ (List.mem_of_getElem? (i := 4) rfl))) (by decide) (backOf (W := 2) (rm1 l Z aw hw [] q0 p1 (2 : Int32) h10 n0 Z10) hZ (hw _ (List.mem_of_getElem? (i := 4) rfl)) (hw _ (List.mem_of_getElem? (i := 3) rfl)) (by decide) (by decide)) (g := (mkF m 32 #[.val (.long q0), .second, .val (.int p1), .val (.int p2), .val (.int p3), .val (.ref b2), .unset, .unset, .unset, .unset] [(.int (2 : Int32)), (.int p1), (.long q0), (.int (2 : Int32)), (.ref b2)])) rfl (by rw [hml]; rfl) (argsL := [(.long q0), (.int p1), (.int (2 : Int32))]) (rest := [(.int (2 : Int32)), (.ref b2)]) (lenOf pd_0 rfl) rfl (by show 2 * 0 + _ ≤ _; exact Nat.le_of_eq rfl) (hb hby at_32) (fun _ _ => ⟨rfl, e10, (by decide : 3 + 1 ≤ _), (by decide : 22 + 8 ≤ _)⟩)
  dsimp only [Pt.U, Pt.locs, Pt.cells, Pt.slots] at X12 l12 y12 z12 st12 hQ12
  subst l12 y12 z12
  obtain ⟨rfl, N12q, K12q⟩ := hQ12
  have N12 := Fr.app N10 N12q
  have V_b2_12 := V_b2_10.keep K12q nin0
  have K12 : Keep h0 T12.heap [] := K10.trans K12q all0
  have Z12 : n0 ≤ T12.heap.size := Nat.le_trans Z10 K12q.1
  have pre13 : ∀ t, Steps p.tables e below (T12.setTop (mkF m 35 #[.val (.long q0), .second, .val (.int p1), .val (.int p2), .val (.int p3), .val (.ref b2), .unset, .unset, .unset, .unset] [(.int (f1 q0 p1 (2 : Int32))), (.int (2 : Int32)), (.ref b2)])) t → Steps p.tables e below (s₁.setTop (entryFrame m #[(.long q0), (.int p1), (.int p2), (.int p3)] maxLocals)) t := fun t k => pre11 t (by
    show Steps p.tables e below (T10.setTop (mkF m 32 #[.val (.long q0), .second, .val (.int p1), .val (.int p2), .val (.int p3), .val (.ref b2), .unset, .unset, .unset, .unset] [(.int (2 : Int32)), (.int p1), (.long q0), (.int (2 : Int32)), (.ref b2)])) _
    refine st12 _ ?_
    exact k)
  obtain ⟨cl14, Ar14, q14, S14, M14, H14, G14⟩ := id V_b2_12
  have hin14 : ¬ ((2 : Int32) < 0 ∨ cl14.slots.size ≤ ((2 : Int32)).toNatClampNeg) := inb_of S14 ⟨by decide, by decide⟩
  obtain ⟨T14, h14, X14, e14, W14, st14⟩ := stB X12 hx hZ rfl Ar14 (j := (2 : Int32)) hin14 (g := (mkF m 35 #[.val (.long q0), .second, .val (.int p1), .val (.int p2), .val (.int p3), .val (.ref b2), .unset, .unset, .unset, .unset] [(.int (f1 q0 p1 (2 : Int32))), (.int (2 : Int32)), (.ref b2)])) rfl rfl (hb hby at_35)
  have V_b2_14 : Arv Z h14 b2 k2 .byte (6 : Int32) [(.int (nar .byte (f1 q0 p1 (0 : Int32)))), (.int (nar .byte (f1 q0 p1 (1 : Int32)))), (.int (nar .byte (f1 q0 p1 (2 : Int32)))), (.int (0 : Int32)), (.int (0 : Int32)), (.int (0 : Int32))] (.int (0 : Int32)) := Arv.set Ar14 q14 S14 M14 H14 G14 (fits_nar_byte _) W14 2 rfl (Nat.le_of_ble_eq_true rfl)
  have K14 : Keep h0 h14 [] := K12.wr W14 (Or.inr sz_b2)
  have N14 := Fr.snoc X14 N12 g_b2
  have Z14 : n0 ≤ h14.size := Nat.le_trans Z12 (Nat.le_of_eq W14.size.symm)
  have pre15 : ∀ t, Steps p.tables e below (T14.setTop (mkF m 42 #[.val (.long q0), .second, .val (.int p1), .val (.int p2), .val (.int p3), .val (.ref b2), .unset, .unset, .unset, .unset] [(.int (3 : Int32)), (.int p1), (.long q0), (.int (3 : Int32)), (.ref b2)])) t → Steps p.tables e below (s₁.setTop (entryFrame m #[(.long q0), (.int p1), (.int p2), (.int p3)] maxLocals)) t := fun t k => pre13 t (by
    show Steps p.tables e below (T12.setTop (mkF m 35 #[.val (.long q0), .second, .val (.int p1), .val (.int p2), .val (.int p3), .val (.ref b2), .unset, .unset, .unset, .unset] [(.int (f1 q0 p1 (2 : Int32))), (.int (2 : Int32)), (.ref b2)])) _
    refine st14 _ ?_
    show Steps p.tables e below (T14.setTop (mkF m 36 #[.val (.long q0), .second, .val (.int p1), .val (.int p2), .val (.int p3), .val (.ref b2), .unset, .unset, .unset, .unset] [])) _
    refine XS.aload X14.here hx rfl (hb hby at_36) rfl rfl ?_
    show Steps p.tables e below (T14.setTop (mkF m 38 #[.val (.long q0), .second, .val (.int p1), .val (.int p2), .val (.int p3), .val (.ref b2), .unset, .unset, .unset, .unset] [(.ref b2)])) _
    refine XS.iconst X14.here hx rfl (hb hby at_38) ?_
    show Steps p.tables e below (T14.setTop (mkF m 39 #[.val (.long q0), .second, .val (.int p1), .val (.int p2), .val (.int p3), .val (.ref b2), .unset, .unset, .unset, .unset] [(.int (3 : Int32)), (.ref b2)])) _
    refine XS.lloadN X14.here hx rfl (hb hby at_39) rfl ?_
    show Steps p.tables e below (T14.setTop (mkF m 40 #[.val (.long q0), .second, .val (.int p1), .val (.int p2), .val (.int p3), .val (.ref b2), .unset, .unset, .unset, .unset] [(.long q0), (.int (3 : Int32)), (.ref b2)])) _
    refine XS.iloadN X14.here hx rfl (hb hby at_40) rfl ?_
    show Steps p.tables e below (T14.setTop (mkF m 41 #[.val (.long q0), .second, .val (.int p1), .val (.int p2), .val (.int p3), .val (.ref b2), .unset, .unset, .unset, .unset] [(.int p1), (.long q0), (.int (3 : Int32)), (.ref b2)])) _
    refine XS.iconst X14.here hx rfl (hb hby at_41) ?_
    exact k)
  obtain ⟨_, _, ⟨T16, L16, k16, n16⟩, -, X16, ⟨Lc16, hQ16, l16, y16, z16⟩, st16⟩ := Jvm.LawKit.callS X14 hx (y := (⟨"com/example/tercet/tercet/ConflictMarkersMarkerRunPinLaw", "pick", "(JII)B"⟩ : MethodName)) hown (mvT hZ (hw _ (List.mem_of_getElem? (i := 1) rfl))) (mvT hZ (hw _ (List.mem_of_getElem? (i := 2) rfl))) (mvT hZ (hw _ (List.mem_of_getElem? (i := 3) rfl))) (mvT hZ (hw _ (List.mem_of_getElem? (i := 4) rfl))) (by decide) (backOf (W := 2) (rm1 l Z aw hw [] q0 p1 (3 : Int32) h14 n0 Z14) hZ (hw _ (List.mem_of_getElem? (i := 4) rfl)) (hw _ (List.mem_of_getElem? (i := 3) rfl)) (by decide) (by decide)) (g := (mkF m 42 #[.val (.long q0), .second, .val (.int p1), .val (.int p2), .val (.int p3), .val (.ref b2), .unset, .unset, .unset, .unset] [(.int (3 : Int32)), (.int p1), (.long q0), (.int (3 : Int32)), (.ref b2)])) rfl (by rw [hml]; rfl) (argsL := [(.long q0), (.int p1), (.int (3 : Int32))]) (rest := [(.int (3 : Int32)), (.ref b2)]) (lenOf pd_0 rfl) rfl (by show 2 * 0 + _ ≤ _; exact Nat.le_of_eq rfl) (hb hby at_42) (fun _ _ => ⟨rfl, e14, (by decide : 4 + 1 ≤ _), (by decide : 30 + 8 ≤ _)⟩)
  dsimp only [Pt.U, Pt.locs, Pt.cells, Pt.slots] at X16 l16 y16 z16 st16 hQ16
  subst l16 y16 z16
  obtain ⟨rfl, N16q, K16q⟩ := hQ16
  have N16 := Fr.app N14 N16q
  have V_b2_16 := V_b2_14.keep K16q nin0
  have K16 : Keep h0 T16.heap [] := K14.trans K16q all0
  have Z16 : n0 ≤ T16.heap.size := Nat.le_trans Z14 K16q.1
  have pre17 : ∀ t, Steps p.tables e below (T16.setTop (mkF m 45 #[.val (.long q0), .second, .val (.int p1), .val (.int p2), .val (.int p3), .val (.ref b2), .unset, .unset, .unset, .unset] [(.int (f1 q0 p1 (3 : Int32))), (.int (3 : Int32)), (.ref b2)])) t → Steps p.tables e below (s₁.setTop (entryFrame m #[(.long q0), (.int p1), (.int p2), (.int p3)] maxLocals)) t := fun t k => pre15 t (by
    show Steps p.tables e below (T14.setTop (mkF m 42 #[.val (.long q0), .second, .val (.int p1), .val (.int p2), .val (.int p3), .val (.ref b2), .unset, .unset, .unset, .unset] [(.int (3 : Int32)), (.int p1), (.long q0), (.int (3 : Int32)), (.ref b2)])) _
    refine st16 _ ?_
    exact k)
  obtain ⟨cl18, Ar18, q18, S18, M18, H18, G18⟩ := id V_b2_16
  have hin18 : ¬ ((3 : Int32) < 0 ∨ cl18.slots.size ≤ ((3 : Int32)).toNatClampNeg) := inb_of S18 ⟨by decide, by decide⟩
  obtain ⟨T18, h18, X18, e18, W18, st18⟩ := stB X16 hx hZ rfl Ar18 (j := (3 : Int32)) hin18 (g := (mkF m 45 #[.val (.long q0), .second, .val (.int p1), .val (.int p2), .val (.int p3), .val (.ref b2), .unset, .unset, .unset, .unset] [(.int (f1 q0 p1 (3 : Int32))), (.int (3 : Int32)), (.ref b2)])) rfl rfl (hb hby at_45)
  have V_b2_18 : Arv Z h18 b2 k2 .byte (6 : Int32) [(.int (nar .byte (f1 q0 p1 (0 : Int32)))), (.int (nar .byte (f1 q0 p1 (1 : Int32)))), (.int (nar .byte (f1 q0 p1 (2 : Int32)))), (.int (nar .byte (f1 q0 p1 (3 : Int32)))), (.int (0 : Int32)), (.int (0 : Int32))] (.int (0 : Int32)) := Arv.set Ar18 q18 S18 M18 H18 G18 (fits_nar_byte _) W18 3 rfl (Nat.le_of_ble_eq_true rfl)
  have K18 : Keep h0 h18 [] := K16.wr W18 (Or.inr sz_b2)
  have N18 := Fr.snoc X18 N16 g_b2
  have Z18 : n0 ≤ h18.size := Nat.le_trans Z16 (Nat.le_of_eq W18.size.symm)
  have pre19 : ∀ t, Steps p.tables e below (T18.setTop (mkF m 52 #[.val (.long q0), .second, .val (.int p1), .val (.int p2), .val (.int p3), .val (.ref b2), .unset, .unset, .unset, .unset] [(.int (4 : Int32)), (.int p1), (.long q0), (.int (4 : Int32)), (.ref b2)])) t → Steps p.tables e below (s₁.setTop (entryFrame m #[(.long q0), (.int p1), (.int p2), (.int p3)] maxLocals)) t := fun t k => pre17 t (by
    show Steps p.tables e below (T16.setTop (mkF m 45 #[.val (.long q0), .second, .val (.int p1), .val (.int p2), .val (.int p3), .val (.ref b2), .unset, .unset, .unset, .unset] [(.int (f1 q0 p1 (3 : Int32))), (.int (3 : Int32)), (.ref b2)])) _
    refine st18 _ ?_
    show Steps p.tables e below (T18.setTop (mkF m 46 #[.val (.long q0), .second, .val (.int p1), .val (.int p2), .val (.int p3), .val (.ref b2), .unset, .unset, .unset, .unset] [])) _
    refine XS.aload X18.here hx rfl (hb hby at_46) rfl rfl ?_
    show Steps p.tables e below (T18.setTop (mkF m 48 #[.val (.long q0), .second, .val (.int p1), .val (.int p2), .val (.int p3), .val (.ref b2), .unset, .unset, .unset, .unset] [(.ref b2)])) _
    refine XS.iconst X18.here hx rfl (hb hby at_48) ?_
    show Steps p.tables e below (T18.setTop (mkF m 49 #[.val (.long q0), .second, .val (.int p1), .val (.int p2), .val (.int p3), .val (.ref b2), .unset, .unset, .unset, .unset] [(.int (4 : Int32)), (.ref b2)])) _
    refine XS.lloadN X18.here hx rfl (hb hby at_49) rfl ?_
    show Steps p.tables e below (T18.setTop (mkF m 50 #[.val (.long q0), .second, .val (.int p1), .val (.int p2), .val (.int p3), .val (.ref b2), .unset, .unset, .unset, .unset] [(.long q0), (.int (4 : Int32)), (.ref b2)])) _
    refine XS.iloadN X18.here hx rfl (hb hby at_50) rfl ?_
    show Steps p.tables e below (T18.setTop (mkF m 51 #[.val (.long q0), .second, .val (.int p1), .val (.int p2), .val (.int p3), .val (.ref b2), .unset, .unset, .unset, .unset] [(.int p1), (.long q0), (.int (4 : Int32)), (.ref b2)])) _
    refine XS.iconst X18.here hx rfl (hb hby at_51) ?_
    exact k)
  obtain ⟨_, _, ⟨T20, L20, k20, n20⟩, -, X20, ⟨Lc20, hQ20, l20, y20, z20⟩, st20⟩ := Jvm.LawKit.callS X18 hx (y := (⟨"com/example/tercet/tercet/ConflictMarkersMarkerRunPinLaw", "pick", "(JII)B"⟩ : MethodName)) hown (mvT hZ (hw _ (List.mem_of_getElem? (i := 1) rfl))) (mvT hZ (hw _ (List.mem_of_getElem? (i := 2) rfl))) (mvT hZ (hw _ (List.mem_of_getElem? (i := 3) rfl))) (mvT hZ (hw _ (List.mem_of_getElem? (i := 4) rfl))) (by decide) (backOf (W := 2) (rm1 l Z aw hw [] q0 p1 (4 : Int32) h18 n0 Z18) hZ (hw _ (List.mem_of_getElem? (i := 4) rfl)) (hw _ (List.mem_of_getElem? (i := 3) rfl)) (by decide) (by decide)) (g := (mkF m 52 #[.val (.long q0), .second, .val (.int p1), .val (.int p2), .val (.int p3), .val (.ref b2), .unset, .unset, .unset, .unset] [(.int (4 : Int32)), (.int p1), (.long q0), (.int (4 : Int32)), (.ref b2)])) rfl (by rw [hml]; rfl) (argsL := [(.long q0), (.int p1), (.int (4 : Int32))]) (rest := [(.int (4 : Int32)), (.ref b2)]) (lenOf pd_0 rfl) rfl (by show 2 * 0 + _ ≤ _; exact Nat.le_of_eq rfl) (hb hby at_52) (fun _ _ => ⟨rfl, e18, (by decide : 5 + 1 ≤ _), (by decide : 38 + 8 ≤ _)⟩)
  dsimp only [Pt.U, Pt.locs, Pt.cells, Pt.slots] at X20 l20 y20 z20 st20 hQ20
  subst l20 y20 z20
  obtain ⟨rfl, N20q, K20q⟩ := hQ20
  have N20 := Fr.app N18 N20q
  have V_b2_20 := V_b2_18.keep K20q nin0
  have K20 : Keep h0 T20.heap [] := K18.trans K20q all0
  have Z20 : n0 ≤ T20.heap.size := Nat.le_trans Z18 K20q.1
  have pre21 : ∀ t, Steps p.tables e below (T20.setTop (mkF m 55 #[.val (.long q0), .second, .val (.int p1), .val (.int p2), .val (.int p3), .val (.ref b2), .unset, .unset, .unset, .unset] [(.int (f1 q0 p1 (4 : Int32))), (.int (4 : Int32)), (.ref b2)])) t → Steps p.tables e below (s₁.setTop (entryFrame m #[(.long q0), (.int p1), (.int p2), (.int p3)] maxLocals)) t := fun t k => pre19 t (by
    show Steps p.tables e below (T18.setTop (mkF m 52 #[.val (.long q0), .second, .val (.int p1), .val (.int p2), .val (.int p3), .val (.ref b2), .unset, .unset, .unset, .unset] [(.int (4 : Int32)), (.int p1), (.long q0), (.int (4 : Int32)), (.ref b2)])) _
    refine st20 _ ?_
    exact k)
  obtain ⟨cl22, Ar22, q22, S22, M22, H22, G22⟩ := id V_b2_20
  have hin22 : ¬ ((4 : Int32) < 0 ∨ cl22.slots.size ≤ ((4 : Int32)).toNatClampNeg) := inb_of S22 ⟨by decide, by decide⟩
  obtain ⟨T22, h22, X22, e22, W22, st22⟩ := stB X20 hx hZ rfl Ar22 (j := (4 : Int32)) hin22 (g := (mkF m 55 #[.val (.long q0), .second, .val (.int p1), .val (.int p2), .val (.int p3), .val (.ref b2), .unset, .unset, .unset, .unset] [(.int (f1 q0 p1 (4 : Int32))), (.int (4 : Int32)), (.ref b2)])) rfl rfl (hb hby at_55)
  have V_b2_22 : Arv Z h22 b2 k2 .byte (6 : Int32) [(.int (nar .byte (f1 q0 p1 (0 : Int32)))), (.int (nar .byte (f1 q0 p1 (1 : Int32)))), (.int (nar .byte (f1 q0 p1 (2 : Int32)))), (.int (nar .byte (f1 q0 p1 (3 : Int32)))), (.int (nar .byte (f1 q0 p1 (4 : Int32)))), (.int (0 : Int32))] (.int (0 : Int32)) := Arv.set Ar22 q22 S22 M22 H22 G22 (fits_nar_byte _) W22 4 rfl (Nat.le_of_ble_eq_true rfl)
  have K22 : Keep h0 h22 [] := K20.wr W22 (Or.inr sz_b2)
  have N22 := Fr.snoc X22 N20 g_b2
  have Z22 : n0 ≤ h22.size := Nat.le_trans Z20 (Nat.le_of_eq W22.size.symm)
  have pre23 : ∀ t, Steps p.tables e below (T22.setTop (mkF m 62 #[.val (.long q0), .second, .val (.int p1), .val (.int p2), .val (.int p3), .val (.ref b2), .unset, .unset, .unset, .unset] [(.int (5 : Int32)), (.int p1), (.long q0), (.int (5 : Int32)), (.ref b2)])) t → Steps p.tables e below (s₁.setTop (entryFrame m #[(.long q0), (.int p1), (.int p2), (.int p3)] maxLocals)) t := fun t k => pre21 t (by
    show Steps p.tables e below (T20.setTop (mkF m 55 #[.val (.long q0), .second, .val (.int p1), .val (.int p2), .val (.int p3), .val (.ref b2), .unset, .unset, .unset, .unset] [(.int (f1 q0 p1 (4 : Int32))), (.int (4 : Int32)), (.ref b2)])) _
    refine st22 _ ?_
    show Steps p.tables e below (T22.setTop (mkF m 56 #[.val (.long q0), .second, .val (.int p1), .val (.int p2), .val (.int p3), .val (.ref b2), .unset, .unset, .unset, .unset] [])) _
    refine XS.aload X22.here hx rfl (hb hby at_56) rfl rfl ?_
    show Steps p.tables e below (T22.setTop (mkF m 58 #[.val (.long q0), .second, .val (.int p1), .val (.int p2), .val (.int p3), .val (.ref b2), .unset, .unset, .unset, .unset] [(.ref b2)])) _
    refine XS.iconst X22.here hx rfl (hb hby at_58) ?_
    show Steps p.tables e below (T22.setTop (mkF m 59 #[.val (.long q0), .second, .val (.int p1), .val (.int p2), .val (.int p3), .val (.ref b2), .unset, .unset, .unset, .unset] [(.int (5 : Int32)), (.ref b2)])) _
    refine XS.lloadN X22.here hx rfl (hb hby at_59) rfl ?_
    show Steps p.tables e below (T22.setTop (mkF m 60 #[.val (.long q0), .second, .val (.int p1), .val (.int p2), .val (.int p3), .val (.ref b2), .unset, .unset, .unset, .unset] [(.long q0), (.int (5 : Int32)), (.ref b2)])) _
    refine XS.iloadN X22.here hx rfl (hb hby at_60) rfl ?_
    show Steps p.tables e below (T22.setTop (mkF m 61 #[.val (.long q0), .second, .val (.int p1), .val (.int p2), .val (.int p3), .val (.ref b2), .unset, .unset, .unset, .unset] [(.int p1), (.long q0), (.int (5 : Int32)), (.ref b2)])) _
    refine XS.iconst X22.here hx rfl (hb hby at_61) ?_
    exact k)
  obtain ⟨_, _, ⟨T24, L24, k24, n24⟩, -, X24, ⟨Lc24, hQ24, l24, y24, z24⟩, st24⟩ := Jvm.LawKit.callS X22 hx (y := (⟨"com/example/tercet/tercet/ConflictMarkersMarkerRunPinLaw", "pick", "(JII)B"⟩ : MethodName)) hown (mvT hZ (hw _ (List.mem_of_getElem? (i := 1) rfl))) (mvT hZ (hw _ (List.mem_of_getElem? (i := 2) rfl))) (mvT hZ (hw _ (List.mem_of_getElem? (i := 3) rfl))) (mvT hZ (hw _ (List.mem_of_getElem? (i := 4) rfl))) (by decide) (backOf (W := 2) (rm1 l Z aw hw [] q0 p1 (5 : Int32) h22 n0 Z22) hZ (hw _ (List.mem_of_getElem? (i := 4) rfl)) (hw _ (List.mem_of_getElem? (i := 3) rfl)) (by decide) (by decide)) (g := (mkF m 62 #[.val (.long q0), .second, .val (.int p1), .val (.int p2), .val (.int p3), .val (.ref b2), .unset, .unset, .unset, .unset] [(.int (5 : Int32)), (.int p1), (.long q0), (.int (5 : Int32)), (.ref b2)])) rfl (by rw [hml]; rfl) (argsL := [(.long q0), (.int p1), (.int (5 : Int32))]) (rest := [(.int (5 : Int32)), (.ref b2)]) (lenOf pd_0 rfl) rfl (by show 2 * 0 + _ ≤ _; exact Nat.le_of_eq rfl) (hb hby at_62) (fun _ _ => ⟨rfl, e22, (by decide : 6 + 1 ≤ _), (by decide : 46 + 8 ≤ _)⟩)
  dsimp only [Pt.U, Pt.locs, Pt.cells, Pt.slots] at X24 l24 y24 z24 st24 hQ24
  subst l24 y24 z24
  obtain ⟨rfl, N24q, K24q⟩ := hQ24
  have N24 := Fr.app N22 N24q
  have V_b2_24 := V_b2_22.keep K24q nin0
  have K24 : Keep h0 T24.heap [] := K22.trans K24q all0
  have Z24 : n0 ≤ T24.heap.size := Nat.le_trans Z22 K24q.1
  have pre25 : ∀ t, Steps p.tables e below (T24.setTop (mkF m 65 #[.val (.long q0), .second, .val (.int p1), .val (.int p2), .val (.int p3), .val (.ref b2), .unset, .unset, .unset, .unset] [(.int (f1 q0 p1 (5 : Int32))), (.int (5 : Int32)), (.ref b2)])) t → Steps p.tables e below (s₁.setTop (entryFrame m #[(.long q0), (.int p1), (.int p2), (.int p3)] maxLocals)) t := fun t k => pre23 t (by
    show Steps p.tables e below (T22.setTop (mkF m 62 #[.val (.long q0), .second, .val (.int p1), .val (.int p2), .val (.int p3), .val (.ref b2), .unset, .unset, .unset, .unset] [(.int (5 : Int32)), (.int p1), (.long q0), (.int (5 : Int32)), (.ref b2)])) _
    refine st24 _ ?_
    exact k)
  obtain ⟨cl26, Ar26, q26, S26, M26, H26, G26⟩ := id V_b2_24
  have hin26 : ¬ ((5 : Int32) < 0 ∨ cl26.slots.size ≤ ((5 : Int32)).toNatClampNeg) := inb_of S26 ⟨by decide, by decide⟩
  obtain ⟨T26, h26, X26, e26, W26, st26⟩ := stB X24 hx hZ rfl Ar26 (j := (5 : Int32)) hin26 (g := (mkF m 65 #[.val (.long q0), .second, .val (.int p1), .val (.int p2), .val (.int p3), .val (.ref b2), .unset, .unset, .unset, .unset] [(.int (f1 q0 p1 (5 : Int32))), (.int (5 : Int32)), (.ref b2)])) rfl rfl (hb hby at_65)
  have V_b2_26 : Arv Z h26 b2 k2 .byte (6 : Int32) [(.int (nar .byte (f1 q0 p1 (0 : Int32)))), (.int (nar .byte (f1 q0 p1 (1 : Int32)))), (.int (nar .byte (f1 q0 p1 (2 : Int32)))), (.int (nar .byte (f1 q0 p1 (3 : Int32)))), (.int (nar .byte (f1 q0 p1 (4 : Int32)))), (.int (nar .byte (f1 q0 p1 (5 : Int32))))] (.int (0 : Int32)) := Arv.set Ar26 q26 S26 M26 H26 G26 (fits_nar_byte _) W26 5 rfl (Nat.le_of_ble_eq_true rfl)
  have K26 : Keep h0 h26 [] := K24.wr W26 (Or.inr sz_b2)
  have N26 := Fr.snoc X26 N24 g_b2
  have Z26 : n0 ≤ h26.size := Nat.le_trans Z24 (Nat.le_of_eq W26.size.symm)
  have pre27 : ∀ t, Steps p.tables e below (T26.setTop (mkF m 73 #[.val (.long q0), .second, .val (.int p1), .val (.int p2), .val (.int p3), .val (.ref b2), .unset, .unset, .unset, .unset] [(.int ((p2 &&& (2147483647 : Int32)) % (7 : Int32)))])) t → Steps p.tables e below (s₁.setTop (entryFrame m #[(.long q0), (.int p1), (.int p2), (.int p3)] maxLocals)) t := fun t k => pre25 t (by
    show Steps p.tables e below (T24.setTop (mkF m 65 #[.val (.long q0), .second, .val (.int p1), .val (.int p2), .val (.int p3), .val (.ref b2), .unset, .unset, .unset, .unset] [(.int (f1 q0 p1 (5 : Int32))), (.int (5 : Int32)), (.ref b2)])) _
    refine st26 _ ?_
    show Steps p.tables e below (T26.setTop (mkF m 66 #[.val (.long q0), .second, .val (.int p1), .val (.int p2), .val (.int p3), .val (.ref b2), .unset, .unset, .unset, .unset] [])) _
    refine XS.iloadN X26.here hx rfl (hb hby at_66) rfl ?_
    show Steps p.tables e below (T26.setTop (mkF m 67 #[.val (.long q0), .second, .val (.int p1), .val (.int p2), .val (.int p3), .val (.ref b2), .unset, .unset, .unset, .unset] [(.int p2)])) _
    refine X26.ldcInt hx hown (mvT hZ (hw _ (List.mem_of_getElem? (i := 5) rfl))) (g := (mkF m 67 #[.val (.long q0), .second, .val (.int p1), .val (.int p2), .val (.int p3), .val (.ref b2), .unset, .unset, .unset, .unset] [(.int p2)])) rfl (hb hby at_67) _ ?_
    show Steps p.tables e below (T26.setTop (mkF m 69 #[.val (.long q0), .second, .val (.int p1), .val (.int p2), .val (.int p3), .val (.ref b2), .unset, .unset, .unset, .unset] [(.int (2147483647 : Int32)), (.int p2)])) _
    refine XS.iand X26.here hx rfl (hb hby at_69) rfl ?_
    show Steps p.tables e below (T26.setTop (mkF m 70 #[.val (.long q0), .second, .val (.int p1), .val (.int p2), .val (.int p3), .val (.ref b2), .unset, .unset, .unset, .unset] [(.int (p2 &&& (2147483647 : Int32)))])) _
    refine XS.bipush X26.here hx rfl (hb hby at_70) ?_
    show Steps p.tables e below (T26.setTop (mkF m 72 #[.val (.long q0), .second, .val (.int p1), .val (.int p2), .val (.int p3), .val (.ref b2), .unset, .unset, .unset, .unset] [(.int (7 : Int32)), (.int (p2 &&& (2147483647 : Int32)))])) _
    refine iremM X26 hx rfl (hb hby at_72) rfl (by decide) ?_
    exact k)
  obtain ⟨v28, hv28⟩ : ∃ z : Int32, z = ((p2 &&& (2147483647 : Int32)) % (7 : Int32)) := ⟨_, rfl⟩
  have pre29 : ∀ t, Steps p.tables e below (T26.setTop (mkF m 73 #[.val (.long q0), .second, .val (.int p1), .val (.int p2), .val (.int p3), .val (.ref b2), .unset, .unset, .unset, .unset] [(.int v28)])) t → Steps p.tables e below (s₁.setTop (entryFrame m #[(.long q0), (.int p1), (.int p2), (.int p3)] maxLocals)) t := fun t k => pre27 t (by rw [hv28] at k; exact k)
  have kown_nz0_87 : ((7 : Int32) - v28) ≠ (0 : Int32) := own_nz0_87 q0 p1 p2 p3 v28 hv28
  have pre30 : ∀ t, Steps p.tables e below (T26.setTop (mkF m 89 #[.val (.long q0), .second, .val (.int p1), .val (.int p2), .val (.int p3), .val (.ref b2), .val (.int v28), .unset, .unset, .unset] [(.int (v28 + ((p3 &&& (2147483647 : Int32)) % ((7 : Int32) - v28))))])) t → Steps p.tables e below (s₁.setTop (entryFrame m #[(.long q0), (.int p1), (.int p2), (.int p3)] maxLocals)) t := fun t k => pre29 t (by
    show Steps p.tables e below (T26.setTop (mkF m 73 #[.val (.long q0), .second, .val (.int p1), .val (.int p2), .val (.int p3), .val (.ref b2), .unset, .unset, .unset, .unset] [(.int v28)])) _
    refine XS.istore X26.here hx rfl (hb hby at_73) rfl (l' := #[.val (.long q0), .second, .val (.int p1), .val (.int p2), .val (.int p3), .val (.ref b2), .val (.int v28), .unset, .unset, .unset]) rfl ?_
    show Steps p.tables e below (T26.setTop (mkF m 75 #[.val (.long q0), .second, .val (.int p1), .val (.int p2), .val (.int p3), .val (.ref b2), .val (.int v28), .unset, .unset, .unset] [])) _
    refine XS.iload X26.here hx rfl (hb hby at_75) rfl ?_
    show Steps p.tables e below (T26.setTop (mkF m 77 #[.val (.long q0), .second, .val (.int p1), .val (.int p2), .val (.int p3), .val (.ref b2), .val (.int v28), .unset, .unset, .unset] [(.int v28)])) _
    refine XS.iload X26.here hx rfl (hb hby at_77) rfl ?_
    show Steps p.tables e below (T26.setTop (mkF m 79 #[.val (.long q0), .second, .val (.int p1), .val (.int p2), .val (.int p3), .val (.ref b2), .val (.int v28), .unset, .unset, .unset] [(.int p3), (.int v28)])) _
    refine X26.ldcInt hx hown (mvT hZ (hw _ (List.mem_of_getElem? (i := 5) rfl))) (g := (mkF m 79 #[.val (.long q0), .second, .val (.int p1), .val (.int p2), .val (.int p3), .val (.ref b2), .val (.int v28), .unset, .unset, .unset] [(.int p3), (.int v28)])) rfl (hb hby at_79) _ ?_
    show Steps p.tables e below (T26.setTop (mkF m 81 #[.val (.long q0), .second, .val (.int p1), .val (.int p2), .val (.int p3), .val (.ref b2), .val (.int v28), .unset, .unset, .unset] [(.int (2147483647 : Int32)), (.int p3), (.int v28)])) _
    refine XS.iand X26.here hx rfl (hb hby at_81) rfl ?_
    show Steps p.tables e below (T26.setTop (mkF m 82 #[.val (.long q0), .second, .val (.int p1), .val (.int p2), .val (.int p3), .val (.ref b2), .val (.int v28), .unset, .unset, .unset] [(.int (p3 &&& (2147483647 : Int32))), (.int v28)])) _
    refine XS.bipush X26.here hx rfl (hb hby at_82) ?_
    show Steps p.tables e below (T26.setTop (mkF m 84 #[.val (.long q0), .second, .val (.int p1), .val (.int p2), .val (.int p3), .val (.ref b2), .val (.int v28), .unset, .unset, .unset] [(.int (7 : Int32)), (.int (p3 &&& (2147483647 : Int32))), (.int v28)])) _
    refine XS.iload X26.here hx rfl (hb hby at_84) rfl ?_
    show Steps p.tables e below (T26.setTop (mkF m 86 #[.val (.long q0), .second, .val (.int p1), .val (.int p2), .val (.int p3), .val (.ref b2), .val (.int v28), .unset, .unset, .unset] [(.int v28), (.int (7 : Int32)), (.int (p3 &&& (2147483647 : Int32))), (.int v28)])) _
    refine XS.isub X26.here hx rfl (hb hby at_86) rfl ?_
    show Steps p.tables e below (T26.setTop (mkF m 87 #[.val (.long q0), .second, .val (.int p1), .val (.int p2), .val (.int p3), .val (.ref b2), .val (.int v28), .unset, .unset, .unset] [(.int ((7 : Int32) - v28)), (.int (p3 &&& (2147483647 : Int32))), (.int v28)])) _
    refine iremM X26 hx rfl (hb hby at_87) rfl kown_nz0_87 ?_
    show Steps p.tables e below (T26.setTop (mkF m 88 #[.val (.long q0), .second, .val (.int p1), .val (.int p2), .val (.int p3), .val (.ref b2), .val (.int v28), .unset, .unset, .unset] [(.int ((p3 &&& (2147483647 : Int32)) % ((7 : Int32) - v28))), (.int v28)])) _
    refine XS.iadd X26.here hx rfl (hb hby at_88) rfl ?_
    exact k)
  obtain ⟨v31, hv31⟩ : ∃ z : Int32, z = (v28 + ((p3 &&& (2147483647 : Int32)) % ((7 : Int32) - v28))) := ⟨_, rfl⟩
  have pre32 : ∀ t, Steps p.tables e below (T26.setTop (mkF m 89 #[.val (.long q0), .second, .val (.int p1), .val (.int p2), .val (.int p3), .val (.ref b2), .val (.int v28), .unset, .unset, .unset] [(.int v31)])) t → Steps p.tables e below (s₁.setTop (entryFrame m #[(.long q0), (.int p1), (.int p2), (.int p3)] maxLocals)) t := fun t k => pre30 t (by rw [hv31] at k; exact k)
  have pre34 : ∀ t, Steps p.tables e below (T26.setTop (mkF m 91 #[.val (.long q0), .second, .val (.int p1), .val (.int p2), .val (.int p3), .val (.ref b2), .val (.int v28), .val (.int v31), .unset, .unset] [])) t → Steps p.tables e below (s₁.setTop (entryFrame m #[(.long q0), (.int p1), (.int p2), (.int p3)] maxLocals)) t := fun t k => pre32 t (by
    show Steps p.tables e below (T26.setTop (mkF m 89 #[.val (.long q0), .second, .val (.int p1), .val (.int p2), .val (.int p3), .val (.ref b2), .val (.int v28), .unset, .unset, .unset] [(.int v31)])) _
    refine XS.istore X26.here hx rfl (hb hby at_89) rfl (l' := #[.val (.long q0), .second, .val (.int p1), .val (.int p2), .val (.int p3), .val (.ref b2), .val (.int v28), .val (.int v31), .unset, .unset]) rfl ?_
    exact k)
  obtain ⟨vs33, hvs33⟩ : ∃ z : List Int32, z = [(nar .byte (f1 q0 p1 (0 : Int32))), (nar .byte (f1 q0 p1 (1 : Int32))), (nar .byte (f1 q0 p1 (2 : Int32))), (nar .byte (f1 q0 p1 (3 : Int32))), (nar .byte (f1 q0 p1 (4 : Int32))), (nar .byte (f1 q0 p1 (5 : Int32)))] := ⟨_, rfl⟩
  have hl_vs33 : vs33.length = 6 := by rw [hvs33]; rfl
  have V_b2_vs33 : Arv Z h26 b2 k2 .byte (6 : Int32) (List.map Value.int vs33) (.int (0 : Int32)) := by rw [hvs33]; exact V_b2_26
  have pre35 : ∀ t, Steps p.tables e below (T26.setTop (mkF m 97 #[.val (.long q0), .second, .val (.int p1), .val (.int p2), .val (.int p3), .val (.ref b2), .val (.int v28), .val (.int v31), .unset, .unset] [(.int v31), (.int v28), (.ref b2)])) t → Steps p.tables e below (s₁.setTop (entryFrame m #[(.long q0), (.int p1), (.int p2), (.int p3)] maxLocals)) t := fun t k => pre34 t (by
    show Steps p.tables e below (T26.setTop (mkF m 91 #[.val (.long q0), .second, .val (.int p1), .val (.int p2), .val (.int p3), .val (.ref b2), .val (.int v28), .val (.int v31), .unset, .unset] [])) _
    refine XS.aload X26.here hx rfl (hb hby at_91) rfl rfl ?_
    show Steps p.tables e below (T26.setTop (mkF m 93 #[.val (.long q0), .second, .val (.int p1), .val (.int p2), .val (.int p3), .val (.ref b2), .val (.int v28), .val (.int v31), .unset, .unset] [(.ref b2)])) _
    refine XS.iload X26.here hx rfl (hb hby at_93) rfl ?_
    show Steps p.tables e below (T26.setTop (mkF m 95 #[.val (.long q0), .second, .val (.int p1), .val (.int p2), .val (.int p3), .val (.ref b2), .val (.int v28), .val (.int v31), .unset, .unset] [(.int v28), (.ref b2)])) _
    refine XS.iload X26.here hx rfl (hb hby at_95) rfl ?_
    exact k)
  have kown_preM_1 : 0 ≤ (v28 : Int32).toInt ∧ v28.toInt ≤ v31.toInt ∧ v31.toInt ≤ 6 := own_preM_1 q0 p1 p2 p3 v28 hv28 v31 hv31 vs33 hvs33
  obtain ⟨_, _, ⟨T36, L36, k36, n36⟩, -, X36, ⟨Lc36, hQ36, l36, y36, z36⟩, st36⟩ := Jvm.LawKit.callS X26 hx (y := (⟨"com/example/tercet/tercet/ConflictMarkers", "markerRun", "([BII)I"⟩ : MethodName)) hown (mvT hZ (hw _ (List.mem_of_getElem? (i := 6) rfl))) (mvT hZ (hw _ (List.mem_of_getElem? (i := 7) rfl))) (mvT hZ (hw _ (List.mem_of_getElem? (i := 8) rfl))) (mvT hZ (hw _ (List.mem_of_getElem? (i := 9) rfl))) (by decide) (backOf (W := 0) (rm2 l Z aw hw [] b2 v28 v31 k2 vs33 h26 n0 Z26 V_b2_vs33 kown_preM_1) hZ (hw _ (List.mem_of_getElem? (i := 9) rfl)) (hw _ (List.mem_of_getElem? (i := 8) rfl)) (by decide) (by decide)) (g := (mkF m 97 #[.val (.long q0), .second, .val (.int p1), .val (.int p2), .val (.int p3), .val (.ref b2), .val (.int v28), .val (.int v31), .unset, .unset] [(.int v31), (.int v28), (.ref b2)])) rfl (by rw [hml]; rfl) (argsL := [(.ref b2), (.int v28), (.int v31)]) (rest := []) (lenOf pd_1 rfl) rfl (by show 2 * 0 + _ ≤ _; exact Nat.le_of_eq rfl) (hb hby at_97) (fun _ _ => ⟨rfl, e26, (by decide : 7 + 0 ≤ _), (by decide : 54 + 0 ≤ _)⟩)
  dsimp only [Pt.U, Pt.locs, Pt.cells, Pt.slots] at X36 l36 y36 z36 st36 hQ36
  subst l36 y36 z36
  obtain ⟨rfl, N36q, e36⟩ := hQ36
  have N36 := Fr.app N26 N36q
  have pre37 : ∀ t, Steps p.tables e below (T36.setTop (mkF m 100 #[.val (.long q0), .second, .val (.int p1), .val (.int p2), .val (.int p3), .val (.ref b2), .val (.int v28), .val (.int v31), .unset, .unset] [(.int (f2 v28 v31 vs33))])) t → Steps p.tables e below (s₁.setTop (entryFrame m #[(.long q0), (.int p1), (.int p2), (.int p3)] maxLocals)) t := fun t k => pre35 t (by
    show Steps p.tables e below (T26.setTop (mkF m 97 #[.val (.long q0), .second, .val (.int p1), .val (.int p2), .val (.int p3), .val (.ref b2), .val (.int v28), .val (.int v31), .unset, .unset] [(.int v31), (.int v28), (.ref b2)])) _
    refine st36 _ ?_
    exact k)
  obtain ⟨v38, hv38⟩ : ∃ z : Int32, z = (f2 v28 v31 vs33) := ⟨_, rfl⟩
  have pre39 : ∀ t, Steps p.tables e below (T36.setTop (mkF m 100 #[.val (.long q0), .second, .val (.int p1), .val (.int p2), .val (.int p3), .val (.ref b2), .val (.int v28), .val (.int v31), .unset, .unset] [(.int v38)])) t → Steps p.tables e below (s₁.setTop (entryFrame m #[(.long q0), (.int p1), (.int p2), (.int p3)] maxLocals)) t := fun t k => pre37 t (by rw [hv38] at k; exact k)
  have pre40 : ∀ t, Steps p.tables e below (T36.setTop (mkF m 109 #[.val (.long q0), .second, .val (.int p1), .val (.int p2), .val (.int p3), .val (.ref b2), .val (.int v28), .val (.int v31), .val (.int v38), .unset] [(.int (1 : Int32)), (.int v31), (.int v28), (.ref b2)])) t → Steps p.tables e below (s₁.setTop (entryFrame m #[(.long q0), (.int p1), (.int p2), (.int p3)] maxLocals)) t := fun t k => pre39 t (by
    show Steps p.tables e below (T36.setTop (mkF m 100 #[.val (.long q0), .second, .val (.int p1), .val (.int p2), .val (.int p3), .val (.ref b2), .val (.int v28), .val (.int v31), .unset, .unset] [(.int v38)])) _
    refine XS.istore X36.here hx rfl (hb hby at_100) rfl (l' := #[.val (.long q0), .second, .val (.int p1), .val (.int p2), .val (.int p3), .val (.ref b2), .val (.int v28), .val (.int v31), .val (.int v38), .unset]) rfl ?_
    show Steps p.tables e below (T36.setTop (mkF m 102 #[.val (.long q0), .second, .val (.int p1), .val (.int p2), .val (.int p3), .val (.ref b2), .val (.int v28), .val (.int v31), .val (.int v38), .unset] [])) _
    refine XS.aload X36.here hx rfl (hb hby at_102) rfl rfl ?_
    show Steps p.tables e below (T36.setTop (mkF m 104 #[.val (.long q0), .second, .val (.int p1), .val (.int p2), .val (.int p3), .val (.ref b2), .val (.int v28), .val (.int v31), .val (.int v38), .unset] [(.ref b2)])) _
    refine XS.iload X36.here hx rfl (hb hby at_104) rfl ?_
    show Steps p.tables e below (T36.setTop (mkF m 106 #[.val (.long q0), .second, .val (.int p1), .val (.int p2), .val (.int p3), .val (.ref b2), .val (.int v28), .val (.int v31), .val (.int v38), .unset] [(.int v28), (.ref b2)])) _
    refine XS.iload X36.here hx rfl (hb hby at_106) rfl ?_
    show Steps p.tables e below (T36.setTop (mkF m 108 #[.val (.long q0), .second, .val (.int p1), .val (.int p2), .val (.int p3), .val (.ref b2), .val (.int v28), .val (.int v31), .val (.int v38), .unset] [(.int v31), (.int v28), (.ref b2)])) _
    refine XS.iconst X36.here hx rfl (hb hby at_108) ?_
    exact k)
  have kown_preV_1 : 0 ≤ (v28 : Int32).toInt ∧ v28.toInt ≤ v31.toInt ∧ v31.toInt ≤ 6 ∧ -100 ≤ (1 : Int32).toInt ∧ (1 : Int32).toInt ≤ 100 := own_preV_1 q0 p1 p2 p3 v28 hv28 v31 hv31 vs33 hvs33 v38 hv38
  obtain ⟨_, _, ⟨T41, L41, k41, n41⟩, -, X41, ⟨Lc41, hQ41, l41, y41, z41⟩, st41⟩ := Jvm.LawKit.callS X36 hx (y := (⟨"com/example/tercet/tercet/ConflictMarkersMarkerRunPinLaw", "valid", "([BIII)Z"⟩ : MethodName)) hown (mvT hZ (hw _ (List.mem_of_getElem? (i := 10) rfl))) (mvT hZ (hw _ (List.mem_of_getElem? (i := 11) rfl))) (mvT hZ (hw _ (List.mem_of_getElem? (i := 3) rfl))) (mvT hZ (hw _ (List.mem_of_getElem? (i := 12) rfl))) (by decide) (backOf (W := 0) (rm3 l Z aw hw [] b2 v28 v31 (1 : Int32) k2 vs33 h26 n0 Z26 V_b2_vs33 kown_preV_1) hZ (hw _ (List.mem_of_getElem? (i := 12) rfl)) (hw _ (List.mem_of_getElem? (i := 3) rfl)) (by decide) (by decide)) (g := (mkF m 109 #[.val (.long q0), .second, .val (.int p1), .val (.int p2), .val (.int p3), .val (.ref b2), .val (.int v28), .val (.int v31), .val (.int v38), .unset] [(.int (1 : Int32)), (.int v31), (.int v28), (.ref b2)])) rfl (by rw [hml]; rfl) (argsL := [(.ref b2), (.int v28), (.int v31), (.int (1 : Int32))]) (rest := []) (lenOf pd_2 rfl) rfl (by show 2 * 0 + _ ≤ _; exact Nat.le_of_eq rfl) (hb hby at_109) (fun _ _ => ⟨rfl, e36, (by decide : 7 + 0 ≤ _), (by decide : 54 + 0 ≤ _)⟩)
  dsimp only [Pt.U, Pt.locs, Pt.cells, Pt.slots] at X41 l41 y41 z41 st41 hQ41
  subst l41 y41 z41
  obtain ⟨rfl, N41q, e41⟩ := hQ41
  have N41 := Fr.app N36 N41q
  have pre42 : ∀ t, Steps p.tables e below (T41.setTop (mkF m 112 #[.val (.long q0), .second, .val (.int p1), .val (.int p2), .val (.int p3), .val (.ref b2), .val (.int v28), .val (.int v31), .val (.int v38), .unset] [(.int (f3 v28 v31 (1 : Int32) vs33))])) t → Steps p.tables e below (s₁.setTop (entryFrame m #[(.long q0), (.int p1), (.int p2), (.int p3)] maxLocals)) t := fun t k => pre40 t (by
    show Steps p.tables e below (T36.setTop (mkF m 109 #[.val (.long q0), .second, .val (.int p1), .val (.int p2), .val (.int p3), .val (.ref b2), .val (.int v28), .val (.int v31), .val (.int v38), .unset] [(.int (1 : Int32)), (.int v31), (.int v28), (.ref b2)])) _
    refine st41 _ ?_
    exact k)
  obtain ⟨T66, LjT66, j64, X66, N66, e66, hj64, pre65⟩ : ∃ (T66 : State) (LjT66 : List Loc) (j64 : Int32), Stand p l e room_1 s m #[(.long q0), (.int p1), (.int p2), (.int p3)] below meth c T66 LjT66 7 54 ∧ Fr n0 LjT66 ∧ T66.heap = h26 ∧ j64 = (if (f3 v28 v31 (1 : Int32) vs33) = (0 : Int32) then (if (f3 v28 v31 (2 : Int32) vs33) = (0 : Int32) then (if (f3 v28 v31 (3 : Int32) vs33) = (0 : Int32) then (if (f3 v28 v31 (4 : Int32) vs33) = (0 : Int32) then (if (f3 v28 v31 (5 : Int32) vs33) = (0 : Int32) then (if (f3 v28 v31 (6 : Int32) vs33) = (0 : Int32) then (0 : Int32) else (1 : Int32)) else (1 : Int32)) else (1 : Int32)) else (1 : Int32)) else (1 : Int32)) else (1 : Int32)) ∧ ∀ t, Steps p.tables e below (T66.setTop (mkF m 186 #[.val (.long q0), .second, .val (.int p1), .val (.int p2), .val (.int p3), .val (.ref b2), .val (.int v28), .val (.int v31), .val (.int v38), .unset] [(.int j64)])) t → Steps p.tables e below (s₁.setTop (entryFrame m #[(.long q0), (.int p1), (.int p2), (.int p3)] maxLocals)) t := by
    by_cases hc43 : (f3 v28 v31 (1 : Int32) vs33) = (0 : Int32)
    · have pre44 : ∀ t, Steps p.tables e below (T41.setTop (mkF m 122 #[.val (.long q0), .second, .val (.int p1), .val (.int p2), .val (.int p3), .val (.ref b2), .val (.int v28), .val (.int v31), .val (.int v38), .unset] [(.int (2 : Int32)), (.int v31), (.int v28), (.ref b2)])) t → Steps p.tables e below (s₁.setTop (entryFrame m #[(.long q0), (.int p1), (.int p2), (.int p3)] maxLocals)) t := fun t k => pre42 t (by
        show Steps p.tables e below (T41.setTop (mkF m 112 #[.val (.long q0), .second, .val (.int p1), .val (.int p2), .val (.int p3), .val (.ref b2), .val (.int v28), .val (.int v31), .val (.int v38), .unset] [(.int (f3 v28 v31 (1 : Int32) vs33))])) _
        refine XS.ifNo X41.here hx rfl (hb hby at_112) rfl ((if0 _ _).trans (teq hc43).2) ?_
        show Steps p.tables e below (T41.setTop (mkF m 115 #[.val (.long q0), .second, .val (.int p1), .val (.int p2), .val (.int p3), .val (.ref b2), .val (.int v28), .val (.int v31), .val (.int v38), .unset] [])) _
        refine XS.aload X41.here hx rfl (hb hby at_115) rfl rfl ?_
        show Steps p.tables e below (T41.setTop (mkF m 117 #[.val (.long q0), .second, .val (.int p1), .val (.int p2), .val (.int p3), .val (.ref b2), .val (.int v28), .val (.int v31), .val (.int v38), .unset] [(.ref b2)])) _
        refine XS.iload X41.here hx rfl (hb hby at_117) rfl ?_
        show Steps p.tables e below (T41.setTop (mkF m 119 #[.val (.long q0), .second, .val (.int p1), .val (.int p2), .val (.int p3), .val (.ref b2), .val (.int v28), .val (.int v31), .val (.int v38), .unset] [(.int v28), (.ref b2)])) _
        refine XS.iload X41.here hx rfl (hb hby at_119) rfl ?_
        show Steps p.tables e below (T41.setTop (mkF m 121 #[.val (.long q0), .second, .val (.int p1), .val (.int p2), .val (.int p3), .val (.ref b2), .val (.int v28), .val (.int v31), .val (.int v38), .unset] [(.int v31), (.int v28), (.ref b2)])) _
        refine XS.iconst X41.here hx rfl (hb hby at_121) ?_
        exact k)
      have kown_preV_2 : 0 ≤ (v28 : Int32).toInt ∧ v28.toInt ≤ v31.toInt ∧ v31.toInt ≤ 6 ∧ -100 ≤ (2 : Int32).toInt ∧ (2 : Int32).toInt ≤ 100 := own_preV_2 q0 p1 p2 p3 v28 hv28 v31 hv31 vs33 hvs33 v38 hv38 hc43
      obtain ⟨_, _, ⟨T45, L45, k45, n45⟩, -, X45, ⟨Lc45, hQ45, l45, y45, z45⟩, st45⟩ := Jvm.LawKit.callS X41 hx (y := (⟨"com/example/tercet/tercet/ConflictMarkersMarkerRunPinLaw", "valid", "([BIII)Z"⟩ : MethodName)) hown (mvT hZ (hw _ (List.mem_of_getElem? (i := 10) rfl))) (mvT hZ (hw _ (List.mem_of_getElem? (i := 11) rfl))) (mvT hZ (hw _ (List.mem_of_getElem? (i := 3) rfl))) (mvT hZ (hw _ (List.mem_of_getElem? (i := 12) rfl))) (by decide) (backOf (W := 0) (rm3 l Z aw hw [] b2 v28 v31 (2 : Int32) k2 vs33 h26 n0 Z26 V_b2_vs33 kown_preV_2) hZ (hw _ (List.mem_of_getElem? (i := 12) rfl)) (hw _ (List.mem_of_getElem? (i := 3) rfl)) (by decide) (by decide)) (g := (mkF m 122 #[.val (.long q0), .second, .val (.int p1), .val (.int p2), .val (.int p3), .val (.ref b2), .val (.int v28), .val (.int v31), .val (.int v38), .unset] [(.int (2 : Int32)), (.int v31), (.int v28), (.ref b2)])) rfl (by rw [hml]; rfl) (argsL := [(.ref b2), (.int v28), (.int v31), (.int (2 : Int32))]) (rest := []) (lenOf pd_2 rfl) rfl (by show 2 * 0 + _ ≤ _; exact Nat.le_of_eq rfl) (hb hby at_122) (fun _ _ => ⟨rfl, e41, (by decide : 7 + 0 ≤ _), (by decide : 54 + 0 ≤ _)⟩)
      dsimp only [Pt.U, Pt.locs, Pt.cells, Pt.slots] at X45 l45 y45 z45 st45 hQ45
      subst l45 y45 z45
      obtain ⟨rfl, N45q, e45⟩ := hQ45
      have N45 := Fr.app N41 N45q
      have pre46 : ∀ t, Steps p.tables e below (T45.setTop (mkF m 125 #[.val (.long q0), .second, .val (.int p1), .val (.int p2), .val (.int p3), .val (.ref b2), .val (.int v28), .val (.int v31), .val (.int v38), .unset] [(.int (f3 v28 v31 (2 : Int32) vs33))])) t → Steps p.tables e below (s₁.setTop (entryFrame m #[(.long q0), (.int p1), (.int p2), (.int p3)] maxLocals)) t := fun t k => pre44 t (by
        show Steps p.tables e below (T41.setTop (mkF m 122 #[.val (.long q0), .second, .val (.int p1), .val (.int p2), .val (.int p3), .val (.ref b2), .val (.int v28), .val (.int v31), .val (.int v38), .unset] [(.int (2 : Int32)), (.int v31), (.int v28), (.ref b2)])) _
        refine st45 _ ?_
        exact k)
      by_cases hc47 : (f3 v28 v31 (2 : Int32) vs33) = (0 : Int32)
      · have pre48 : ∀ t, Steps p.tables e below (T45.setTop (mkF m 135 #[.val (.long q0), .second, .val (.int p1), .val (.int p2), .val (.int p3), .val (.ref b2), .val (.int v28), .val (.int v31), .val (.int v38), .unset] [(.int (3 : Int32)), (.int v31), (.int v28), (.ref b2)])) t → Steps p.tables e below (s₁.setTop (entryFrame m #[(.long q0), (.int p1), (.int p2), (.int p3)] maxLocals)) t := fun t k => pre46 t (by
          show Steps p.tables e below (T45.setTop (mkF m 125 #[.val (.long q0), .second, .val (.int p1), .val (.int p2), .val (.int p3), .val (.ref b2), .val (.int v28), .val (.int v31), .val (.int v38), .unset] [(.int (f3 v28 v31 (2 : Int32) vs33))])) _
          refine XS.ifNo X45.here hx rfl (hb hby at_125) rfl ((if0 _ _).trans (teq hc47).2) ?_
          show Steps p.tables e below (T45.setTop (mkF m 128 #[.val (.long q0), .second, .val (.int p1), .val (.int p2), .val (.int p3), .val (.ref b2), .val (.int v28), .val (.int v31), .val (.int v38), .unset] [])) _
          refine XS.aload X45.here hx rfl (hb hby at_128) rfl rfl ?_
          show Steps p.tables e below (T45.setTop (mkF m 130 #[.val (.long q0), .second, .val (.int p1), .val (.int p2), .val (.int p3), .val (.ref b2), .val (.int v28), .val (.int v31), .val (.int v38), .unset] [(.ref b2)])) _
          refine XS.iload X45.here hx rfl (hb hby at_130) rfl ?_
          show Steps p.tables e below (T45.setTop (mkF m 132 #[.val (.long q0), .second, .val (.int p1), .val (.int p2), .val (.int p3), .val (.ref b2), .val (.int v28), .val (.int v31), .val (.int v38), .unset] [(.int v28), (.ref b2)])) _
          refine XS.iload X45.here hx rfl (hb hby at_132) rfl ?_
          show Steps p.tables e below (T45.setTop (mkF m 134 #[.val (.long q0), .second, .val (.int p1), .val (.int p2), .val (.int p3), .val (.ref b2), .val (.int v28), .val (.int v31), .val (.int v38), .unset] [(.int v31), (.int v28), (.ref b2)])) _
          refine XS.iconst X45.here hx rfl (hb hby at_134) ?_
          exact k)
        have kown_preV_3 : 0 ≤ (v28 : Int32).toInt ∧ v28.toInt ≤ v31.toInt ∧ v31.toInt ≤ 6 ∧ -100 ≤ (3 : Int32).toInt ∧ (3 : Int32).toInt ≤ 100 := own_preV_3 q0 p1 p2 p3 v28 hv28 v31 hv31 vs33 hvs33 v38 hv38 hc43 hc47
        obtain ⟨_, _, ⟨T49, L49, k49, n49⟩, -, X49, ⟨Lc49, hQ49, l49, y49, z49⟩, st49⟩ := Jvm.LawKit.callS X45 hx (y := (⟨"com/example/tercet/tercet/ConflictMarkersMarkerRunPinLaw", "valid", "([BIII)Z"⟩ : MethodName)) hown (mvT hZ (hw _ (List.mem_of_getElem? (i := 10) rfl))) (mvT hZ (hw _ (List.mem_of_getElem? (i := 11) rfl))) (mvT hZ (hw _ (List.mem_of_getElem? (i := 3) rfl))) (mvT hZ (hw _ (List.mem_of_getElem? (i := 12) rfl))) (by decide) (backOf (W := 0) (rm3 l Z aw hw [] b2 v28 v31 (3 : Int32) k2 vs33 h26 n0 Z26 V_b2_vs33 kown_preV_3) hZ (hw _ (List.mem_of_getElem? (i := 12) rfl)) (hw _ (List.mem_of_getElem? (i := 3) rfl)) (by decide) (by decide)) (g := (mkF m 135 #[.val (.long q0), .second, .val (.int p1), .val (.int p2), .val (.int p3), .val (.ref b2), .val (.int v28), .val (.int v31), .val (.int v38), .unset] [(.int (3 : Int32)), (.int v31), (.int v28), (.ref b2)])) rfl (by rw [hml]; rfl) (argsL := [(.ref b2), (.int v28), (.int v31), (.int (3 : Int32))]) (rest := []) (lenOf pd_2 rfl) rfl (by show 2 * 0 + _ ≤ _; exact Nat.le_of_eq rfl) (hb hby at_135) (fun _ _ => ⟨rfl, e45, (by decide : 7 + 0 ≤ _), (by decide : 54 + 0 ≤ _)⟩)
        dsimp only [Pt.U, Pt.locs, Pt.cells, Pt.slots] at X49 l49 y49 z49 st49 hQ49
        subst l49 y49 z49
        obtain ⟨rfl, N49q, e49⟩ := hQ49
        have N49 := Fr.app N45 N49q
        have pre50 : ∀ t, Steps p.tables e below (T49.setTop (mkF m 138 #[.val (.long q0), .second, .val (.int p1), .val (.int p2), .val (.int p3), .val (.ref b2), .val (.int v28), .val (.int v31), .val (.int v38), .unset] [(.int (f3 v28 v31 (3 : Int32) vs33))])) t → Steps p.tables e below (s₁.setTop (entryFrame m #[(.long q0), (.int p1), (.int p2), (.int p3)] maxLocals)) t := fun t k => pre48 t (by
          show Steps p.tables e below (T45.setTop (mkF m 135 #[.val (.long q0), .second, .val (.int p1), .val (.int p2), .val (.int p3), .val (.ref b2), .val (.int v28), .val (.int v31), .val (.int v38), .unset] [(.int (3 : Int32)), (.int v31), (.int v28), (.ref b2)])) _
          refine st49 _ ?_
          exact k)
        by_cases hc51 : (f3 v28 v31 (3 : Int32) vs33) = (0 : Int32)
        · have pre52 : ∀ t, Steps p.tables e below (T49.setTop (mkF m 148 #[.val (.long q0), .second, .val (.int p1), .val (.int p2), .val (.int p3), .val (.ref b2), .val (.int v28), .val (.int v31), .val (.int v38), .unset] [(.int (4 : Int32)), (.int v31), (.int v28), (.ref b2)])) t → Steps p.tables e below (s₁.setTop (entryFrame m #[(.long q0), (.int p1), (.int p2), (.int p3)] maxLocals)) t := fun t k => pre50 t (by
            show Steps p.tables e below (T49.setTop (mkF m 138 #[.val (.long q0), .second, .val (.int p1), .val (.int p2), .val (.int p3), .val (.ref b2), .val (.int v28), .val (.int v31), .val (.int v38), .unset] [(.int (f3 v28 v31 (3 : Int32) vs33))])) _
            refine XS.ifNo X49.here hx rfl (hb hby at_138) rfl ((if0 _ _).trans (teq hc51).2) ?_
            show Steps p.tables e below (T49.setTop (mkF m 141 #[.val (.long q0), .second, .val (.int p1), .val (.int p2), .val (.int p3), .val (.ref b2), .val (.int v28), .val (.int v31), .val (.int v38), .unset] [])) _
            refine XS.aload X49.here hx rfl (hb hby at_141) rfl rfl ?_
            show Steps p.tables e below (T49.setTop (mkF m 143 #[.val (.long q0), .second, .val (.int p1), .val (.int p2), .val (.int p3), .val (.ref b2), .val (.int v28), .val (.int v31), .val (.int v38), .unset] [(.ref b2)])) _
            refine XS.iload X49.here hx rfl (hb hby at_143) rfl ?_
            show Steps p.tables e below (T49.setTop (mkF m 145 #[.val (.long q0), .second, .val (.int p1), .val (.int p2), .val (.int p3), .val (.ref b2), .val (.int v28), .val (.int v31), .val (.int v38), .unset] [(.int v28), (.ref b2)])) _
            refine XS.iload X49.here hx rfl (hb hby at_145) rfl ?_
            show Steps p.tables e below (T49.setTop (mkF m 147 #[.val (.long q0), .second, .val (.int p1), .val (.int p2), .val (.int p3), .val (.ref b2), .val (.int v28), .val (.int v31), .val (.int v38), .unset] [(.int v31), (.int v28), (.ref b2)])) _
            refine XS.iconst X49.here hx rfl (hb hby at_147) ?_
            exact k)
          have kown_preV_4 : 0 ≤ (v28 : Int32).toInt ∧ v28.toInt ≤ v31.toInt ∧ v31.toInt ≤ 6 ∧ -100 ≤ (4 : Int32).toInt ∧ (4 : Int32).toInt ≤ 100 := own_preV_4 q0 p1 p2 p3 v28 hv28 v31 hv31 vs33 hvs33 v38 hv38 hc43 hc47 hc51
          obtain ⟨_, _, ⟨T53, L53, k53, n53⟩, -, X53, ⟨Lc53, hQ53, l53, y53, z53⟩, st53⟩ := Jvm.LawKit.callS X49 hx (y := (⟨"com/example/tercet/tercet/ConflictMarkersMarkerRunPinLaw", "valid", "([BIII)Z"⟩ : MethodName)) hown (mvT hZ (hw _ (List.mem_of_getElem? (i := 10) rfl))) (mvT hZ (hw _ (List.mem_of_getElem? (i := 11) rfl))) (mvT hZ (hw _ (List.mem_of_getElem? (i := 3) rfl))) (mvT hZ (hw _ (List.mem_of_getElem? (i := 12) rfl))) (by decide) (backOf (W := 0) (rm3 l Z aw hw [] b2 v28 v31 (4 : Int32) k2 vs33 h26 n0 Z26 V_b2_vs33 kown_preV_4) hZ (hw _ (List.mem_of_getElem? (i := 12) rfl)) (hw _ (List.mem_of_getElem? (i := 3) rfl)) (by decide) (by decide)) (g := (mkF m 148 #[.val (.long q0), .second, .val (.int p1), .val (.int p2), .val (.int p3), .val (.ref b2), .val (.int v28), .val (.int v31), .val (.int v38), .unset] [(.int (4 : Int32)), (.int v31), (.int v28), (.ref b2)])) rfl (by rw [hml]; rfl) (argsL := [(.ref b2), (.int v28), (.int v31), (.int (4 : Int32))]) (rest := []) (lenOf pd_2 rfl) rfl (by show 2 * 0 + _ ≤ _; exact Nat.le_of_eq rfl) (hb hby at_148) (fun _ _ => ⟨rfl, e49, (by decide : 7 + 0 ≤ _), (by decide : 54 + 0 ≤ _)⟩)
          dsimp only [Pt.U, Pt.locs, Pt.cells, Pt.slots] at X53 l53 y53 z53 st53 hQ53
          subst l53 y53 z53
          obtain ⟨rfl, N53q, e53⟩ := hQ53
          have N53 := Fr.app N49 N53q
          have pre54 : ∀ t, Steps p.tables e below (T53.setTop (mkF m 151 #[.val (.long q0), .second, .val (.int p1), .val (.int p2), .val (.int p3), .val (.ref b2), .val (.int v28), .val (.int v31), .val (.int v38), .unset] [(.int (f3 v28 v31 (4 : Int32) vs33))])) t → Steps p.tables e below (s₁.setTop (entryFrame m #[(.long q0), (.int p1), (.int p2), (.int p3)] maxLocals)) t := fun t k => pre52 t (by
            show Steps p.tables e below (T49.setTop (mkF m 148 #[.val (.long q0), .second, .val (.int p1), .val (.int p2), .val (.int p3), .val (.ref b2), .val (.int v28), .val (.int v31), .val (.int v38), .unset] [(.int (4 : Int32)), (.int v31), (.int v28), (.ref b2)])) _
            refine st53 _ ?_
            exact k)
          by_cases hc55 : (f3 v28 v31 (4 : Int32) vs33) = (0 : Int32)
          · have pre56 : ∀ t, Steps p.tables e below (T53.setTop (mkF m 161 #[.val (.long q0), .second, .val (.int p1), .val (.int p2), .val (.int p3), .val (.ref b2), .val (.int v28), .val (.int v31), .val (.int v38), .unset] [(.int (5 : Int32)), (.int v31), (.int v28), (.ref b2)])) t → Steps p.tables e below (s₁.setTop (entryFrame m #[(.long q0), (.int p1), (.int p2), (.int p3)] maxLocals)) t := fun t k => pre54 t (by
              show Steps p.tables e below (T53.setTop (mkF m 151 #[.val (.long q0), .second, .val (.int p1), .val (.int p2), .val (.int p3), .val (.ref b2), .val (.int v28), .val (.int v31), .val (.int v38), .unset] [(.int (f3 v28 v31 (4 : Int32) vs33))])) _
              refine XS.ifNo X53.here hx rfl (hb hby at_151) rfl ((if0 _ _).trans (teq hc55).2) ?_
              show Steps p.tables e below (T53.setTop (mkF m 154 #[.val (.long q0), .second, .val (.int p1), .val (.int p2), .val (.int p3), .val (.ref b2), .val (.int v28), .val (.int v31), .val (.int v38), .unset] [])) _
              refine XS.aload X53.here hx rfl (hb hby at_154) rfl rfl ?_
              show Steps p.tables e below (T53.setTop (mkF m 156 #[.val (.long q0), .second, .val (.int p1), .val (.int p2), .val (.int p3), .val (.ref b2), .val (.int v28), .val (.int v31), .val (.int v38), .unset] [(.ref b2)])) _
              refine XS.iload X53.here hx rfl (hb hby at_156) rfl ?_
              show Steps p.tables e below (T53.setTop (mkF m 158 #[.val (.long q0), .second, .val (.int p1), .val (.int p2), .val (.int p3), .val (.ref b2), .val (.int v28), .val (.int v31), .val (.int v38), .unset] [(.int v28), (.ref b2)])) _
              refine XS.iload X53.here hx rfl (hb hby at_158) rfl ?_
              show Steps p.tables e below (T53.setTop (mkF m 160 #[.val (.long q0), .second, .val (.int p1), .val (.int p2), .val (.int p3), .val (.ref b2), .val (.int v28), .val (.int v31), .val (.int v38), .unset] [(.int v31), (.int v28), (.ref b2)])) _
              refine XS.iconst X53.here hx rfl (hb hby at_160) ?_
              exact k)
            have kown_preV_5 : 0 ≤ (v28 : Int32).toInt ∧ v28.toInt ≤ v31.toInt ∧ v31.toInt ≤ 6 ∧ -100 ≤ (5 : Int32).toInt ∧ (5 : Int32).toInt ≤ 100 := own_preV_5 q0 p1 p2 p3 v28 hv28 v31 hv31 vs33 hvs33 v38 hv38 hc43 hc47 hc51 hc55
            obtain ⟨_, _, ⟨T57, L57, k57, n57⟩, -, X57, ⟨Lc57, hQ57, l57, y57, z57⟩, st57⟩ := Jvm.LawKit.callS X53 hx (y := (⟨"com/example/tercet/tercet/ConflictMarkersMarkerRunPinLaw", "valid", "([BIII)Z"⟩ : MethodName)) hown (mvT hZ (hw _ (List.mem_of_getElem? (i := 10) rfl))) (mvT hZ (hw _ (List.mem_of_getElem? (i := 11) rfl))) (mvT hZ (hw _ (List.mem_of_getElem? (i := 3) rfl))) (mvT hZ (hw _ (List.mem_of_getElem? (i := 12) rfl))) (by decide) (backOf (W := 0) (rm3 l Z aw hw [] b2 v28 v31 (5 : Int32) k2 vs33 h26 n0 Z26 V_b2_vs33 kown_preV_5) hZ (hw _ (List.mem_of_getElem? (i := 12) rfl)) (hw _ (List.mem_of_getElem? (i := 3) rfl)) (by decide) (by decide)) (g := (mkF m 161 #[.val (.long q0), .second, .val (.int p1), .val (.int p2), .val (.int p3), .val (.ref b2), .val (.int v28), .val (.int v31), .val (.int v38), .unset] [(.int (5 : Int32)), (.int v31), (.int v28), (.ref b2)])) rfl (by rw [hml]; rfl) (argsL := [(.ref b2), (.int v28), (.int v31), (.int (5 : Int32))]) (rest := []) (lenOf pd_2 rfl) rfl (by show 2 * 0 + _ ≤ _; exact Nat.le_of_eq rfl) (hb hby at_161) (fun _ _ => ⟨rfl, e53, (by decide : 7 + 0 ≤ _), (by decide : 54 + 0 ≤ _)⟩)
            dsimp only [Pt.U, Pt.locs, Pt.cells, Pt.slots] at X57 l57 y57 z57 st57 hQ57
            subst l57 y57 z57
            obtain ⟨rfl, N57q, e57⟩ := hQ57
            have N57 := Fr.app N53 N57q
            have pre58 : ∀ t, Steps p.tables e below (T57.setTop (mkF m 164 #[.val (.long q0), .second, .val (.int p1), .val (.int p2), .val (.int p3), .val (.ref b2), .val (.int v28), .val (.int v31), .val (.int v38), .unset] [(.int (f3 v28 v31 (5 : Int32) vs33))])) t → Steps p.tables e below (s₁.setTop (entryFrame m #[(.long q0), (.int p1), (.int p2), (.int p3)] maxLocals)) t := fun t k => pre56 t (by
              show Steps p.tables e below (T53.setTop (mkF m 161 #[.val (.long q0), .second, .val (.int p1), .val (.int p2), .val (.int p3), .val (.ref b2), .val (.int v28), .val (.int v31), .val (.int v38), .unset] [(.int (5 : Int32)), (.int v31), (.int v28), (.ref b2)])) _
              refine st57 _ ?_
              exact k)
            by_cases hc59 : (f3 v28 v31 (5 : Int32) vs33) = (0 : Int32)
            · have pre60 : ∀ t, Steps p.tables e below (T57.setTop (mkF m 175 #[.val (.long q0), .second, .val (.int p1), .val (.int p2), .val (.int p3), .val (.ref b2), .val (.int v28), .val (.int v31), .val (.int v38), .unset] [(.int (6 : Int32)), (.int v31), (.int v28), (.ref b2)])) t → Steps p.tables e below (s₁.setTop (entryFrame m #[(.long q0), (.int p1), (.int p2), (.int p3)] maxLocals)) t := fun t k => pre58 t (by
                show Steps p.tables e below (T57.setTop (mkF m 164 #[.val (.long q0), .second, .val (.int p1), .val (.int p2), .val (.int p3), .val (.ref b2), .val (.int v28), .val (.int v31), .val (.int v38), .unset] [(.int (f3 v28 v31 (5 : Int32) vs33))])) _
                refine XS.ifNo X57.here hx rfl (hb hby at_164) rfl ((if0 _ _).trans (teq hc59).2) ?_
                show Steps p.tables e below (T57.setTop (mkF m 167 #[.val (.long q0), .second, .val (.int p1), .val (.int p2), .val (.int p3), .val (.ref b2), .val (.int v28), .val (.int v31), .val (.int v38), .unset] [])) _
                refine XS.aload X57.here hx rfl (hb hby at_167) rfl rfl ?_
                show Steps p.tables e below (T57.setTop (mkF m 169 #[.val (.long q0), .second, .val (.int p1), .val (.int p2), .val (.int p3), .val (.ref b2), .val (.int v28), .val (.int v31), .val (.int v38), .unset] [(.ref b2)])) _
                refine XS.iload X57.here hx rfl (hb hby at_169) rfl ?_
                show Steps p.tables e below (T57.setTop (mkF m 171 #[.val (.long q0), .second, .val (.int p1), .val (.int p2), .val (.int p3), .val (.ref b2), .val (.int v28), .val (.int v31), .val (.int v38), .unset] [(.int v28), (.ref b2)])) _
                refine XS.iload X57.here hx rfl (hb hby at_171) rfl ?_
                show Steps p.tables e below (T57.setTop (mkF m 173 #[.val (.long q0), .second, .val (.int p1), .val (.int p2), .val (.int p3), .val (.ref b2), .val (.int v28), .val (.int v31), .val (.int v38), .unset] [(.int v31), (.int v28), (.ref b2)])) _
                refine XS.bipush X57.here hx rfl (hb hby at_173) ?_
                exact k)
              have kown_preV_6 : 0 ≤ (v28 : Int32).toInt ∧ v28.toInt ≤ v31.toInt ∧ v31.toInt ≤ 6 ∧ -100 ≤ (6 : Int32).toInt ∧ (6 : Int32).toInt ≤ 100 := own_preV_6 q0 p1 p2 p3 v28 hv28 v31 hv31 vs33 hvs33 v38 hv38 hc43 hc47 hc51 hc55 hc59
              obtain ⟨_, _, ⟨T61, L61, k61, n61⟩, -, X61, ⟨Lc61, hQ61, l61, y61, z61⟩, st61⟩ := Jvm.LawKit.callS X57 hx (y := (⟨"com/example/tercet/tercet/ConflictMarkersMarkerRunPinLaw", "valid", "([BIII)Z"⟩ : MethodName)) hown (mvT hZ (hw _ (List.mem_of_getElem? (i := 10) rfl))) (mvT hZ (hw _ (List.mem_of_getElem? (i := 11) rfl))) (mvT hZ (hw _ (List.mem_of_getElem? (i := 3) rfl))) (mvT hZ (hw _ (List.mem_of_getElem? (i := 12) rfl))) (by decide) (backOf (W := 0) (rm3 l Z aw hw [] b2 v28 v31 (6 : Int32) k2 vs33 h26 n0 Z26 V_b2_vs33 kown_preV_6) hZ (hw _ (List.mem_of_getElem? (i := 12) rfl)) (hw _ (List.mem_of_getElem? (i := 3) rfl)) (by decide) (by decide)) (g := (mkF m 175 #[.val (.long q0), .second, .val (.int p1), .val (.int p2), .val (.int p3), .val (.ref b2), .val (.int v28), .val (.int v31), .val (.int v38), .unset] [(.int (6 : Int32)), (.int v31), (.int v28), (.ref b2)])) rfl (by rw [hml]; rfl) (argsL := [(.ref b2), (.int v28), (.int v31), (.int (6 : Int32))]) (rest := []) (lenOf pd_2 rfl) rfl (by show 2 * 0 + _ ≤ _; exact Nat.le_of_eq rfl) (hb hby at_175) (fun _ _ => ⟨rfl, e57, (by decide : 7 + 0 ≤ _), (by decide : 54 + 0 ≤ _)⟩)
              dsimp only [Pt.U, Pt.locs, Pt.cells, Pt.slots] at X61 l61 y61 z61 st61 hQ61
              subst l61 y61 z61
              obtain ⟨rfl, N61q, e61⟩ := hQ61
              have N61 := Fr.app N57 N61q
              have pre62 : ∀ t, Steps p.tables e below (T61.setTop (mkF m 178 #[.val (.long q0), .second, .val (.int p1), .val (.int p2), .val (.int p3), .val (.ref b2), .val (.int v28), .val (.int v31), .val (.int v38), .unset] [(.int (f3 v28 v31 (6 : Int32) vs33))])) t → Steps p.tables e below (s₁.setTop (entryFrame m #[(.long q0), (.int p1), (.int p2), (.int p3)] maxLocals)) t := fun t k => pre60 t (by
                show Steps p.tables e below (T57.setTop (mkF m 175 #[.val (.long q0), .second, .val (.int p1), .val (.int p2), .val (.int p3), .val (.ref b2), .val (.int v28), .val (.int v31), .val (.int v38), .unset] [(.int (6 : Int32)), (.int v31), (.int v28), (.ref b2)])) _
                refine st61 _ ?_
                exact k)
              by_cases hc63 : (f3 v28 v31 (6 : Int32) vs33) = (0 : Int32)
              · exact ⟨_, _, (0 : Int32), X61, N61, e61, (by rw [if_pos hc43, if_pos hc47, if_pos hc51, if_pos hc55, if_pos hc59, if_pos hc63]), fun t k => pre62 t (by
                  show Steps p.tables e below (T61.setTop (mkF m 178 #[.val (.long q0), .second, .val (.int p1), .val (.int p2), .val (.int p3), .val (.ref b2), .val (.int v28), .val (.int v31), .val (.int v38), .unset] [(.int (f3 v28 v31 (6 : Int32) vs33))])) _
                  refine XS.ifYes X61.here hx rfl (pc0 := 178) (pc' := 185) rfl (hb hby at_178) rfl ((if0 _ _).trans (teq hc63).1) (by decide) (by decide) ?_
                  show Steps p.tables e below (T61.setTop (mkF m 185 #[.val (.long q0), .second, .val (.int p1), .val (.int p2), .val (.int p3), .val (.ref b2), .val (.int v28), .val (.int v31), .val (.int v38), .unset] [])) _
                  refine XS.iconst X61.here hx rfl (hb hby at_185) ?_
                  exact k)⟩
              · exact ⟨_, _, (1 : Int32), X61, N61, e61, (by rw [if_pos hc43, if_pos hc47, if_pos hc51, if_pos hc55, if_pos hc59, if_neg hc63]), fun t k => pre62 t (by
                  show Steps p.tables e below (T61.setTop (mkF m 178 #[.val (.long q0), .second, .val (.int p1), .val (.int p2), .val (.int p3), .val (.ref b2), .val (.int v28), .val (.int v31), .val (.int v38), .unset] [(.int (f3 v28 v31 (6 : Int32) vs33))])) _
                  refine XS.ifNo X61.here hx rfl (hb hby at_178) rfl ((if0 _ _).trans (feq hc63).1) ?_
                  show Steps p.tables e below (T61.setTop (mkF m 181 #[.val (.long q0), .second, .val (.int p1), .val (.int p2), .val (.int p3), .val (.ref b2), .val (.int v28), .val (.int v31), .val (.int v38), .unset] [])) _
                  refine XS.iconst X61.here hx rfl (hb hby at_181) ?_
                  show Steps p.tables e below (T61.setTop (mkF m 182 #[.val (.long q0), .second, .val (.int p1), .val (.int p2), .val (.int p3), .val (.ref b2), .val (.int v28), .val (.int v31), .val (.int v38), .unset] [(.int (1 : Int32))])) _
                  refine XS.goto X61.here hx rfl (pc0 := 182) (pc' := 186) rfl (hb hby at_182) (by decide) (by decide) ?_
                  exact k)⟩
            · exact ⟨_, _, (1 : Int32), X57, N57, e57, (by rw [if_pos hc43, if_pos hc47, if_pos hc51, if_pos hc55, if_neg hc59]), fun t k => pre58 t (by
                show Steps p.tables e below (T57.setTop (mkF m 164 #[.val (.long q0), .second, .val (.int p1), .val (.int p2), .val (.int p3), .val (.ref b2), .val (.int v28), .val (.int v31), .val (.int v38), .unset] [(.int (f3 v28 v31 (5 : Int32) vs33))])) _
                refine XS.ifYes X57.here hx rfl (pc0 := 164) (pc' := 181) rfl (hb hby at_164) rfl ((if0 _ _).trans (feq hc59).2) (by decide) (by decide) ?_
                show Steps p.tables e below (T57.setTop (mkF m 181 #[.val (.long q0), .second, .val (.int p1), .val (.int p2), .val (.int p3), .val (.ref b2), .val (.int v28), .val (.int v31), .val (.int v38), .unset] [])) _
                refine XS.iconst X57.here hx rfl (hb hby at_181) ?_
                show Steps p.tables e below (T57.setTop (mkF m 182 #[.val (.long q0), .second, .val (.int p1), .val (.int p2), .val (.int p3), .val (.ref b2), .val (.int v28), .val (.int v31), .val (.int v38), .unset] [(.int (1 : Int32))])) _
                refine XS.goto X57.here hx rfl (pc0 := 182) (pc' := 186) rfl (hb hby at_182) (by decide) (by decide) ?_
                exact k)⟩
          · exact ⟨_, _, (1 : Int32), X53, N53, e53, (by rw [if_pos hc43, if_pos hc47, if_pos hc51, if_neg hc55]), fun t k => pre54 t (by
              show Steps p.tables e below (T53.setTop (mkF m 151 #[.val (.long q0), .second, .val (.int p1), .val (.int p2), .val (.int p3), .val (.ref b2), .val (.int v28), .val (.int v31), .val (.int v38), .unset] [(.int (f3 v28 v31 (4 : Int32) vs33))])) _
              refine XS.ifYes X53.here hx rfl (pc0 := 151) (pc' := 181) rfl (hb hby at_151) rfl ((if0 _ _).trans (feq hc55).2) (by decide) (by decide) ?_
              show Steps p.tables e below (T53.setTop (mkF m 181 #[.val (.long q0), .second, .val (.int p1), .val (.int p2), .val (.int p3), .val (.ref b2), .val (.int v28), .val (.int v31), .val (.int v38), .unset] [])) _
              refine XS.iconst X53.here hx rfl (hb hby at_181) ?_
              show Steps p.tables e below (T53.setTop (mkF m 182 #[.val (.long q0), .second, .val (.int p1), .val (.int p2), .val (.int p3), .val (.ref b2), .val (.int v28), .val (.int v31), .val (.int v38), .unset] [(.int (1 : Int32))])) _
              refine XS.goto X53.here hx rfl (pc0 := 182) (pc' := 186) rfl (hb hby at_182) (by decide) (by decide) ?_
              exact k)⟩
        · exact ⟨_, _, (1 : Int32), X49, N49, e49, (by rw [if_pos hc43, if_pos hc47, if_neg hc51]), fun t k => pre50 t (by
            show Steps p.tables e below (T49.setTop (mkF m 138 #[.val (.long q0), .second, .val (.int p1), .val (.int p2), .val (.int p3), .val (.ref b2), .val (.int v28), .val (.int v31), .val (.int v38), .unset] [(.int (f3 v28 v31 (3 : Int32) vs33))])) _
            refine XS.ifYes X49.here hx rfl (pc0 := 138) (pc' := 181) rfl (hb hby at_138) rfl ((if0 _ _).trans (feq hc51).2) (by decide) (by decide) ?_
            show Steps p.tables e below (T49.setTop (mkF m 181 #[.val (.long q0), .second, .val (.int p1), .val (.int p2), .val (.int p3), .val (.ref b2), .val (.int v28), .val (.int v31), .val (.int v38), .unset] [])) _
            refine XS.iconst X49.here hx rfl (hb hby at_181) ?_
            show Steps p.tables e below (T49.setTop (mkF m 182 #[.val (.long q0), .second, .val (.int p1), .val (.int p2), .val (.int p3), .val (.ref b2), .val (.int v28), .val (.int v31), .val (.int v38), .unset] [(.int (1 : Int32))])) _
            refine XS.goto X49.here hx rfl (pc0 := 182) (pc' := 186) rfl (hb hby at_182) (by decide) (by decide) ?_
            exact k)⟩
      · exact ⟨_, _, (1 : Int32), X45, N45, e45, (by rw [if_pos hc43, if_neg hc47]), fun t k => pre46 t (by
          show Steps p.tables e below (T45.setTop (mkF m 125 #[.val (.long q0), .second, .val (.int p1), .val (.int p2), .val (.int p3), .val (.ref b2), .val (.int v28), .val (.int v31), .val (.int v38), .unset] [(.int (f3 v28 v31 (2 : Int32) vs33))])) _
          refine XS.ifYes X45.here hx rfl (pc0 := 125) (pc' := 181) rfl (hb hby at_125) rfl ((if0 _ _).trans (feq hc47).2) (by decide) (by decide) ?_
          show Steps p.tables e below (T45.setTop (mkF m 181 #[.val (.long q0), .second, .val (.int p1), .val (.int p2), .val (.int p3), .val (.ref b2), .val (.int v28), .val (.int v31), .val (.int v38), .unset] [])) _
          refine XS.iconst X45.here hx rfl (hb hby at_181) ?_
          show Steps p.tables e below (T45.setTop (mkF m 182 #[.val (.long q0), .second, .val (.int p1), .val (.int p2), .val (.int p3), .val (.ref b2), .val (.int v28), .val (.int v31), .val (.int v38), .unset] [(.int (1 : Int32))])) _
          refine XS.goto X45.here hx rfl (pc0 := 182) (pc' := 186) rfl (hb hby at_182) (by decide) (by decide) ?_
          exact k)⟩
    · exact ⟨_, _, (1 : Int32), X41, N41, e41, (by rw [if_neg hc43]), fun t k => pre42 t (by
        show Steps p.tables e below (T41.setTop (mkF m 112 #[.val (.long q0), .second, .val (.int p1), .val (.int p2), .val (.int p3), .val (.ref b2), .val (.int v28), .val (.int v31), .val (.int v38), .unset] [(.int (f3 v28 v31 (1 : Int32) vs33))])) _
        refine XS.ifYes X41.here hx rfl (pc0 := 112) (pc' := 181) rfl (hb hby at_112) rfl ((if0 _ _).trans (feq hc43).2) (by decide) (by decide) ?_
        show Steps p.tables e below (T41.setTop (mkF m 181 #[.val (.long q0), .second, .val (.int p1), .val (.int p2), .val (.int p3), .val (.ref b2), .val (.int v28), .val (.int v31), .val (.int v38), .unset] [])) _
        refine XS.iconst X41.here hx rfl (hb hby at_181) ?_
        show Steps p.tables e below (T41.setTop (mkF m 182 #[.val (.long q0), .second, .val (.int p1), .val (.int p2), .val (.int p3), .val (.ref b2), .val (.int v28), .val (.int v31), .val (.int v38), .unset] [(.int (1 : Int32))])) _
        refine XS.goto X41.here hx rfl (pc0 := 182) (pc' := 186) rfl (hb hby at_182) (by decide) (by decide) ?_
        exact k)⟩
  have pre67 : ∀ t, Steps p.tables e below (T66.setTop (mkF m 190 #[.val (.long q0), .second, .val (.int p1), .val (.int p2), .val (.int p3), .val (.ref b2), .val (.int v28), .val (.int v31), .val (.int v38), .val (.int j64)] [(.int v38)])) t → Steps p.tables e below (s₁.setTop (entryFrame m #[(.long q0), (.int p1), (.int p2), (.int p3)] maxLocals)) t := fun t k => pre65 t (by
    show Steps p.tables e below (T66.setTop (mkF m 186 #[.val (.long q0), .second, .val (.int p1), .val (.int p2), .val (.int p3), .val (.ref b2), .val (.int v28), .val (.int v31), .val (.int v38), .unset] [(.int j64)])) _
    refine XS.istore X66.here hx rfl (hb hby at_186) rfl (l' := #[.val (.long q0), .second, .val (.int p1), .val (.int p2), .val (.int p3), .val (.ref b2), .val (.int v28), .val (.int v31), .val (.int v38), .val (.int j64)]) rfl ?_
    show Steps p.tables e below (T66.setTop (mkF m 188 #[.val (.long q0), .second, .val (.int p1), .val (.int p2), .val (.int p3), .val (.ref b2), .val (.int v28), .val (.int v31), .val (.int v38), .val (.int j64)] [])) _
    refine XS.iload X66.here hx rfl (hb hby at_188) rfl ?_
    exact k)
  by_cases hc68 : v38 = (0 : Int32)
  · have pre69 : ∀ t, Steps p.tables e below (T66.setTop (mkF m 195 #[.val (.long q0), .second, .val (.int p1), .val (.int p2), .val (.int p3), .val (.ref b2), .val (.int v28), .val (.int v31), .val (.int v38), .val (.int j64)] [(.int j64)])) t → Steps p.tables e below (s₁.setTop (entryFrame m #[(.long q0), (.int p1), (.int p2), (.int p3)] maxLocals)) t := fun t k => pre67 t (by
      show Steps p.tables e below (T66.setTop (mkF m 190 #[.val (.long q0), .second, .val (.int p1), .val (.int p2), .val (.int p3), .val (.ref b2), .val (.int v28), .val (.int v31), .val (.int v38), .val (.int j64)] [(.int v38)])) _
      refine XS.ifNo X66.here hx rfl (hb hby at_190) rfl ((if0 _ _).trans (teq hc68).2) ?_
      show Steps p.tables e below (T66.setTop (mkF m 193 #[.val (.long q0), .second, .val (.int p1), .val (.int p2), .val (.int p3), .val (.ref b2), .val (.int v28), .val (.int v31), .val (.int v38), .val (.int j64)] [])) _
      refine XS.iload X66.here hx rfl (hb hby at_193) rfl ?_
      exact k)
    obtain ⟨j71, hj71, pre72⟩ : ∃ (j71 : Int32), j71 = (if j64 = (0 : Int32) then (1 : Int32) else (0 : Int32)) ∧ ∀ t, Steps p.tables e below (T66.setTop (mkF m 203 #[.val (.long q0), .second, .val (.int p1), .val (.int p2), .val (.int p3), .val (.ref b2), .val (.int v28), .val (.int v31), .val (.int v38), .val (.int j64)] [(.int j71)])) t → Steps p.tables e below (s₁.setTop (entryFrame m #[(.long q0), (.int p1), (.int p2), (.int p3)] maxLocals)) t := by
      by_cases hc70 : j64 = (0 : Int32)
      · exact ⟨(1 : Int32), (by rw [if_pos hc70]), fun t k => pre69 t (by
          show Steps p.tables e below (T66.setTop (mkF m 195 #[.val (.long q0), .second, .val (.int p1), .val (.int p2), .val (.int p3), .val (.ref b2), .val (.int v28), .val (.int v31), .val (.int v38), .val (.int j64)] [(.int j64)])) _
          refine XS.ifNo X66.here hx rfl (hb hby at_195) rfl ((if0 _ _).trans (teq hc70).2) ?_
          show Steps p.tables e below (T66.setTop (mkF m 198 #[.val (.long q0), .second, .val (.int p1), .val (.int p2), .val (.int p3), .val (.ref b2), .val (.int v28), .val (.int v31), .val (.int v38), .val (.int j64)] [])) _
          refine XS.iconst X66.here hx rfl (hb hby at_198) ?_
          show Steps p.tables e below (T66.setTop (mkF m 199 #[.val (.long q0), .second, .val (.int p1), .val (.int p2), .val (.int p3), .val (.ref b2), .val (.int v28), .val (.int v31), .val (.int v38), .val (.int j64)] [(.int (1 : Int32))])) _
          refine XS.goto X66.here hx rfl (pc0 := 199) (pc' := 203) rfl (hb hby at_199) (by decide) (by decide) ?_
          exact k)⟩
      · exact ⟨(0 : Int32), (by rw [if_neg hc70]), fun t k => pre69 t (by
          show Steps p.tables e below (T66.setTop (mkF m 195 #[.val (.long q0), .second, .val (.int p1), .val (.int p2), .val (.int p3), .val (.ref b2), .val (.int v28), .val (.int v31), .val (.int v38), .val (.int j64)] [(.int j64)])) _
          refine XS.ifYes X66.here hx rfl (pc0 := 195) (pc' := 202) rfl (hb hby at_195) rfl ((if0 _ _).trans (feq hc70).2) (by decide) (by decide) ?_
          show Steps p.tables e below (T66.setTop (mkF m 202 #[.val (.long q0), .second, .val (.int p1), .val (.int p2), .val (.int p3), .val (.ref b2), .val (.int v28), .val (.int v31), .val (.int v38), .val (.int j64)] [])) _
          refine XS.iconst X66.here hx rfl (hb hby at_202) ?_
          exact k)⟩
    obtain ⟨fs, hr, hrun, hended, hW, hsame⟩ := X66.leave (v := some (.int (nar .boolean j71))) (fun h => by rw [Bd.returns] at h; cases h)
    refine ⟨_, _, pre72 _ ?_, hrun, hended, _, _, rfl, ?_, ⟨_, rfl⟩, hW, hsame.mono (by decide) (by decide)⟩
    · show Steps p.tables e below (T66.setTop (mkF m 203 #[.val (.long q0), .second, .val (.int p1), .val (.int p2), .val (.int p3), .val (.ref b2), .val (.int v28), .val (.int v31), .val (.int v38), .val (.int j64)] [(.int j71)])) _
      exact retN X66 hx (t := .boolean) Bd.returns (by simp) (hb hby at_203) hr
    · show Q0 Z q0 p1 p2 p3 h0 n0 _ T66.heap _
      rw [e66]
      have hv : (nar .boolean j71) = f0 q0 p1 p2 p3 := (by subst hj71 hj64 hv38 hvs33 hv31 hv28; simp only [f0, if_pos hc68])
      exact ⟨congrArg (fun z => some (Value.int z)) (hv.trans hlaw), N66⟩
  · have pre73 : ∀ t, Steps p.tables e below (T66.setTop (mkF m 207 #[.val (.long q0), .second, .val (.int p1), .val (.int p2), .val (.int p3), .val (.ref b2), .val (.int v28), .val (.int v31), .val (.int v38), .val (.int j64)] [(.int (1 : Int32)), (.int v38)])) t → Steps p.tables e below (s₁.setTop (entryFrame m #[(.long q0), (.int p1), (.int p2), (.int p3)] maxLocals)) t := fun t k => pre67 t (by
      show Steps p.tables e below (T66.setTop (mkF m 190 #[.val (.long q0), .second, .val (.int p1), .val (.int p2), .val (.int p3), .val (.ref b2), .val (.int v28), .val (.int v31), .val (.int v38), .val (.int j64)] [(.int v38)])) _
      refine XS.ifYes X66.here hx rfl (pc0 := 190) (pc' := 204) rfl (hb hby at_190) rfl ((if0 _ _).trans (feq hc68).2) (by decide) (by decide) ?_
      show Steps p.tables e below (T66.setTop (mkF m 204 #[.val (.long q0), .second, .val (.int p1), .val (.int p2), .val (.int p3), .val (.ref b2), .val (.int v28), .val (.int v31), .val (.int v38), .val (.int j64)] [])) _
      refine XS.iload X66.here hx rfl (hb hby at_204) rfl ?_
      show Steps p.tables e below (T66.setTop (mkF m 206 #[.val (.long q0), .second, .val (.int p1), .val (.int p2), .val (.int p3), .val (.ref b2), .val (.int v28), .val (.int v31), .val (.int v38), .val (.int j64)] [(.int v38)])) _
      refine XS.iconst X66.here hx rfl (hb hby at_206) ?_
      exact k)
    obtain ⟨T83, LjT83, j81, X83, N83, e83, hj81, pre82⟩ : ∃ (T83 : State) (LjT83 : List Loc) (j81 : Int32), Stand p l e room_1 s m #[(.long q0), (.int p1), (.int p2), (.int p3)] below meth c T83 LjT83 7 54 ∧ Fr n0 LjT83 ∧ T83.heap = h26 ∧ j81 = (if v38 < (1 : Int32) then (0 : Int32) else (if (6 : Int32) < v38 then (0 : Int32) else (if (f3 v28 v31 v38 vs33) = (0 : Int32) then (0 : Int32) else (1 : Int32)))) ∧ ∀ t, Steps p.tables e below (T83.setTop (mkF m 236 #[.val (.long q0), .second, .val (.int p1), .val (.int p2), .val (.int p3), .val (.ref b2), .val (.int v28), .val (.int v31), .val (.int v38), .val (.int j64)] [(.int j81)])) t → Steps p.tables e below (s₁.setTop (entryFrame m #[(.long q0), (.int p1), (.int p2), (.int p3)] maxLocals)) t := by
      by_cases hc74 : v38 < (1 : Int32)
      · exact ⟨_, _, (0 : Int32), X66, N66, e66, (by rw [if_pos hc74]), fun t k => pre73 t (by
          show Steps p.tables e below (T66.setTop (mkF m 207 #[.val (.long q0), .second, .val (.int p1), .val (.int p2), .val (.int p3), .val (.ref b2), .val (.int v28), .val (.int v31), .val (.int v38), .val (.int j64)] [(.int (1 : Int32)), (.int v38)])) _
          refine XS.icmpYes X66.here hx rfl (pc0 := 207) (pc' := 235) rfl (hb hby at_207) rfl (tlt hc74).1 (by decide) (by decide) ?_
          show Steps p.tables e below (T66.setTop (mkF m 235 #[.val (.long q0), .second, .val (.int p1), .val (.int p2), .val (.int p3), .val (.ref b2), .val (.int v28), .val (.int v31), .val (.int v38), .val (.int j64)] [])) _
          refine XS.iconst X66.here hx rfl (hb hby at_235) ?_
          exact k)⟩
      · have pre75 : ∀ t, Steps p.tables e below (T66.setTop (mkF m 214 #[.val (.long q0), .second, .val (.int p1), .val (.int p2), .val (.int p3), .val (.ref b2), .val (.int v28), .val (.int v31), .val (.int v38), .val (.int j64)] [(.int (6 : Int32)), (.int v38)])) t → Steps p.tables e below (s₁.setTop (entryFrame m #[(.long q0), (.int p1), (.int p2), (.int p3)] maxLocals)) t := fun t k => pre73 t (by
          show Steps p.tables e below (T66.setTop (mkF m 207 #[.val (.long q0), .second, .val (.int p1), .val (.int p2), .val (.int p3), .val (.ref b2), .val (.int v28), .val (.int v31), .val (.int v38), .val (.int j64)] [(.int (1 : Int32)), (.int v38)])) _
          refine XS.icmpNo X66.here hx rfl (hb hby at_207) rfl (flt hc74).1 ?_
          show Steps p.tables e below (T66.setTop (mkF m 210 #[.val (.long q0), .second, .val (.int p1), .val (.int p2), .val (.int p3), .val (.ref b2), .val (.int v28), .val (.int v31), .val (.int v38), .val (.int j64)] [])) _
          refine XS.iload X66.here hx rfl (hb hby at_210) rfl ?_
          show Steps p.tables e below (T66.setTop (mkF m 212 #[.val (.long q0), .second, .val (.int p1), .val (.int p2), .val (.int p3), .val (.ref b2), .val (.int v28), .val (.int v31), .val (.int v38), .val (.int j64)] [(.int v38)])) _
          refine XS.bipush X66.here hx rfl (hb hby at_212) ?_
          exact k)
        by_cases hc76 : (6 : Int32) < v38
        · exact ⟨_, _, (0 : Int32), X66, N66, e66, (by rw [if_neg hc74, if_pos hc76]), fun t k => pre75 t (by
            show Steps p.tables e below (T66.setTop (mkF m 214 #[.val (.long q0), .second, .val (.int p1), .val (.int p2), .val (.int p3), .val (.ref b2), .val (.int v28), .val (.int v31), .val (.int v38), .val (.int j64)] [(.int (6 : Int32)), (.int v38)])) _
            refine XS.icmpYes X66.here hx rfl (pc0 := 214) (pc' := 235) rfl (hb hby at_214) rfl (tlt hc76).2.2.1 (by decide) (by decide) ?_
            show Steps p.tables e below (T66.setTop (mkF m 235 #[.val (.long q0), .second, .val (.int p1), .val (.int p2), .val (.int p3), .val (.ref b2), .val (.int v28), .val (.int v31), .val (.int v38), .val (.int j64)] [])) _
            refine XS.iconst X66.here hx rfl (hb hby at_235) ?_
            exact k)⟩
        · have pre77 : ∀ t, Steps p.tables e below (T66.setTop (mkF m 225 #[.val (.long q0), .second, .val (.int p1), .val (.int p2), .val (.int p3), .val (.ref b2), .val (.int v28), .val (.int v31), .val (.int v38), .val (.int j64)] [(.int v38), (.int v31), (.int v28), (.ref b2)])) t → Steps p.tables e below (s₁.setTop (entryFrame m #[(.long q0), (.int p1), (.int p2), (.int p3)] maxLocals)) t := fun t k => pre75 t (by
            show Steps p.tables e below (T66.setTop (mkF m 214 #[.val (.long q0), .second, .val (.int p1), .val (.int p2), .val (.int p3), .val (.ref b2), .val (.int v28), .val (.int v31), .val (.int v38), .val (.int j64)] [(.int (6 : Int32)), (.int v38)])) _
            refine XS.icmpNo X66.here hx rfl (hb hby at_214) rfl (flt hc76).2.2.1 ?_
            show Steps p.tables e below (T66.setTop (mkF m 217 #[.val (.long q0), .second, .val (.int p1), .val (.int p2), .val (.int p3), .val (.ref b2), .val (.int v28), .val (.int v31), .val (.int v38), .val (.int j64)] [])) _
            refine XS.aload X66.here hx rfl (hb hby at_217) rfl rfl ?_
            show Steps p.tables e below (T66.setTop (mkF m 219 #[.val (.long q0), .second, .val (.int p1), .val (.int p2), .val (.int p3), .val (.ref b2), .val (.int v28), .val (.int v31), .val (.int v38), .val (.int j64)] [(.ref b2)])) _
            refine XS.iload X66.here hx rfl (hb hby at_219) rfl ?_
            show Steps p.tables e below (T66.setTop (mkF m 221 #[.val (.long q0), .second, .val (.int p1), .val (.int p2), .val (.int p3), .val (.ref b2), .val (.int v28), .val (.int v31), .val (.int v38), .val (.int j64)] [(.int v28), (.ref b2)])) _
            refine XS.iload X66.here hx rfl (hb hby at_221) rfl ?_
            show Steps p.tables e below (T66.setTop (mkF m 223 #[.val (.long q0), .second, .val (.int p1), .val (.int p2), .val (.int p3), .val (.ref b2), .val (.int v28), .val (.int v31), .val (.int v38), .val (.int j64)] [(.int v31), (.int v28), (.ref b2)])) _
            refine XS.iload X66.here hx rfl (hb hby at_223) rfl ?_
            exact k)
          have kown_preV_7 : 0 ≤ (v28 : Int32).toInt ∧ v28.toInt ≤ v31.toInt ∧ v31.toInt ≤ 6 ∧ -100 ≤ v38.toInt ∧ v38.toInt ≤ 100 := own_preV_7 q0 p1 p2 p3 v28 hv28 v31 hv31 vs33 hvs33 v38 hv38 j64 hj64 hc68 hc74 hc76
          obtain ⟨_, _, ⟨T78, L78, k78, n78⟩, -, X78, ⟨Lc78, hQ78, l78, y78, z78⟩, st78⟩ := Jvm.LawKit.callS X66 hx (y := (⟨"com/example/tercet/tercet/ConflictMarkersMarkerRunPinLaw", "valid", "([BIII)Z"⟩ : MethodName)) hown (mvT hZ (hw _ (List.mem_of_getElem? (i := 10) rfl))) (mvT hZ (hw _ (List.mem_of_getElem? (i := 11) rfl))) (mvT hZ (hw _ (List.mem_of_getElem? (i := 3) rfl))) (mvT hZ (hw _ (List.mem_of_getElem? (i := 12) rfl))) (by decide) (backOf (W := 0) (rm3 l Z aw hw [] b2 v28 v31 v38 k2 vs33 h26 n0 Z26 V_b2_vs33 kown_preV_7) hZ (hw _ (List.mem_of_getElem? (i := 12) rfl)) (hw _ (List.mem_of_getElem? (i := 3) rfl)) (by decide) (by decide)) (g := (mkF m 225 #[.val (.long q0), .second, .val (.int p1), .val (.int p2), .val (.int p3), .val (.ref b2), .val (.int v28), .val (.int v31), .val (.int v38), .val (.int j64)] [(.int v38), (.int v31), (.int v28), (.ref b2)])) rfl (by rw [hml]; rfl) (argsL := [(.ref b2), (.int v28), (.int v31), (.int v38)]) (rest := []) (lenOf pd_2 rfl) rfl (by show 2 * 0 + _ ≤ _; exact Nat.le_of_eq rfl) (hb hby at_225) (fun _ _ => ⟨rfl, e66, (by decide : 7 + 0 ≤ _), (by decide : 54 + 0 ≤ _)⟩)
          dsimp only [Pt.U, Pt.locs, Pt.cells, Pt.slots] at X78 l78 y78 z78 st78 hQ78
          subst l78 y78 z78
          obtain ⟨rfl, N78q, e78⟩ := hQ78
          have N78 := Fr.app N66 N78q
          have pre79 : ∀ t, Steps p.tables e below (T78.setTop (mkF m 228 #[.val (.long q0), .second, .val (.int p1), .val (.int p2), .val (.int p3), .val (.ref b2), .val (.int v28), .val (.int v31), .val (.int v38), .val (.int j64)] [(.int (f3 v28 v31 v38 vs33))])) t → Steps p.tables e below (s₁.setTop (entryFrame m #[(.long q0), (.int p1), (.int p2), (.int p3)] maxLocals)) t := fun t k => pre77 t (by
            show Steps p.tables e below (T66.setTop (mkF m 225 #[.val (.long q0), .second, .val (.int p1), .val (.int p2), .val (.int p3), .val (.ref b2), .val (.int v28), .val (.int v31), .val (.int v38), .val (.int j64)] [(.int v38), (.int v31), (.int v28), (.ref b2)])) _
            refine st78 _ ?_
            exact k)
          by_cases hc80 : (f3 v28 v31 v38 vs33) = (0 : Int32)
          · exact ⟨_, _, (0 : Int32), X78, N78, e78, (by rw [if_neg hc74, if_neg hc76, if_pos hc80]), fun t k => pre79 t (by
              show Steps p.tables e below (T78.setTop (mkF m 228 #[.val (.long q0), .second, .val (.int p1), .val (.int p2), .val (.int p3), .val (.ref b2), .val (.int v28), .val (.int v31), .val (.int v38), .val (.int j64)] [(.int (f3 v28 v31 v38 vs33))])) _
              refine XS.ifYes X78.here hx rfl (pc0 := 228) (pc' := 235) rfl (hb hby at_228) rfl ((if0 _ _).trans (teq hc80).1) (by decide) (by decide) ?_
              show Steps p.tables e below (T78.setTop (mkF m 235 #[.val (.long q0), .second, .val (.int p1), .val (.int p2), .val (.int p3), .val (.ref b2), .val (.int v28), .val (.int v31), .val (.int v38), .val (.int j64)] [])) _
              refine XS.iconst X78.here hx rfl (hb hby at_235) ?_
              exact k)⟩
          · exact ⟨_, _, (1 : Int32), X78, N78, e78, (by rw [if_neg hc74, if_neg hc76, if_neg hc80]), fun t k => pre79 t (by
              show Steps p.tables e below (T78.setTop (mkF m 228 #[.val (.long q0), .second, .val (.int p1), .val (.int p2), .val (.int p3), .val (.ref b2), .val (.int v28), .val (.int v31), .val (.int v38), .val (.int j64)] [(.int (f3 v28 v31 v38 vs33))])) _
              refine XS.ifNo X78.here hx rfl (hb hby at_228) rfl ((if0 _ _).trans (feq hc80).1) ?_
              show Steps p.tables e below (T78.setTop (mkF m 231 #[.val (.long q0), .second, .val (.int p1), .val (.int p2), .val (.int p3), .val (.ref b2), .val (.int v28), .val (.int v31), .val (.int v38), .val (.int j64)] [])) _
              refine XS.iconst X78.here hx rfl (hb hby at_231) ?_
              show Steps p.tables e below (T78.setTop (mkF m 232 #[.val (.long q0), .second, .val (.int p1), .val (.int p2), .val (.int p3), .val (.ref b2), .val (.int v28), .val (.int v31), .val (.int v38), .val (.int j64)] [(.int (1 : Int32))])) _
              refine XS.goto X78.here hx rfl (pc0 := 232) (pc' := 236) rfl (hb hby at_232) (by decide) (by decide) ?_
              exact k)⟩
    obtain ⟨fs, hr, hrun, hended, hW, hsame⟩ := X83.leave (v := some (.int (nar .boolean j81))) (fun h => by rw [Bd.returns] at h; cases h)
    refine ⟨_, _, pre82 _ ?_, hrun, hended, _, _, rfl, ?_, ⟨_, rfl⟩, hW, hsame.mono (by decide) (by decide)⟩
    · show Steps p.tables e below (T83.setTop (mkF m 236 #[.val (.long q0), .second, .val (.int p1), .val (.int p2), .val (.int p3), .val (.ref b2), .val (.int v28), .val (.int v31), .val (.int v38), .val (.int j64)] [(.int j81)])) _
      exact retN X83 hx (t := .boolean) Bd.returns (by simp) (hb hby at_236) hr
    · show Q0 Z q0 p1 p2 p3 h0 n0 _ T83.heap _
      rw [e83]
      have hv : (nar .boolean j81) = f0 q0 p1 p2 p3 := (by subst hj81 hj64 hv38 hvs33 hv31 hv28; simp only [f0, if_neg hc68])
      exact ⟨congrArg (fun z => some (Value.int z)) (hv.trans hlaw), N83⟩
def own_M (c : Int32) : Prop := c = (60 : Int32) ∨ c = (124 : Int32) ∨ c = (61 : Int32) ∨ c = (62 : Int32)
def own_E (vs : List Int32) (p2 e : Int32) : Prop := e = p2 ∨ own_get vs e = (32 : Int32) ∨ own_get vs e = (10 : Int32) ∨ (own_get vs e = (13 : Int32) ∧ e + (2 : Int32) = p2 ∧ own_get vs (e + (1 : Int32)) = (10 : Int32))
def own_tl (vs : List Int32) (p2 e : Int32) : Int32 := (if e = p2 then (1 : Int32) else (if (own_get vs e) = (32 : Int32) then (1 : Int32) else (if (own_get vs e) = (10 : Int32) then (1 : Int32) else (if (own_get vs e) = (13 : Int32) then (if (e + (2 : Int32)) = p2 then (if (own_get vs (e + (1 : Int32))) = (10 : Int32) then (1 : Int32) else (0 : Int32)) else (0 : Int32)) else (0 : Int32)))))
theorem own_n1 : ¬ ((1 : Int32) = 0) := by decide
theorem own_tl_iff (vs : List Int32) (p2 e : Int32) : ¬ own_tl vs p2 e = 0 ↔ own_E vs p2 e := by
  unfold own_tl own_E
  by_cases a : e = p2
  · rw [if_pos a]; exact ⟨fun _ => Or.inl a, fun _ => own_n1⟩
  · rw [if_neg a]
    by_cases b : own_get vs e = (32 : Int32)
    · rw [if_pos b]; exact ⟨fun _ => Or.inr (Or.inl b), fun _ => own_n1⟩
    · rw [if_neg b]
      by_cases c : own_get vs e = (10 : Int32)
      · rw [if_pos c]; exact ⟨fun _ => Or.inr (Or.inr (Or.inl c)), fun _ => own_n1⟩
      · rw [if_neg c]
        by_cases d : own_get vs e = (13 : Int32)
        · rw [if_pos d]
          by_cases f : e + (2 : Int32) = p2
          · rw [if_pos f]
            by_cases g : own_get vs (e + (1 : Int32)) = (10 : Int32)
            · rw [if_pos g]; exact ⟨fun _ => Or.inr (Or.inr (Or.inr ⟨d, f, g⟩)), fun _ => own_n1⟩
            · rw [if_neg g]; exact ⟨fun h => absurd rfl h, fun h => by rcases h with h | h | h | ⟨-, -, h⟩ <;> contradiction⟩
          · rw [if_neg f]; exact ⟨fun h => absurd rfl h, fun h => by rcases h with h | h | h | ⟨-, h, -⟩ <;> contradiction⟩
        · rw [if_neg d]; exact ⟨fun h => absurd rfl h, fun h => by rcases h with h | h | h | ⟨h, -, -⟩ <;> contradiction⟩
theorem own_f4 (c : Int32) : f4 c = 0 ↔ ¬ own_M c := by
  unfold f4 own_M
  dsimp only
  by_cases a : c = (60 : Int32)
  · rw [if_pos a]; exact ⟨fun h => absurd h (by decide), fun h => absurd (Or.inl a) h⟩
  · rw [if_neg a]
    by_cases b : c = (124 : Int32)
    · rw [if_pos b]; exact ⟨fun h => absurd h (by decide), fun h => absurd (Or.inr (Or.inl b)) h⟩
    · rw [if_neg b]
      by_cases d : c = (61 : Int32)
      · rw [if_pos d]; exact ⟨fun h => absurd h (by decide), fun h => absurd (Or.inr (Or.inr (Or.inl d))) h⟩
      · rw [if_neg d]
        by_cases e : c = (62 : Int32)
        · rw [if_pos e]; exact ⟨fun h => absurd h (by decide), fun h => absurd (Or.inr (Or.inr (Or.inr e))) h⟩
        · rw [if_neg e]; exact ⟨fun _ h => by rcases h with h | h | h | h <;> contradiction, fun _ => rfl⟩
def own_V (vs : List Int32) (p1 p2 p3 : Int32) : Prop := ¬ p3 < (1 : Int32) ∧ ¬ p2 < (p1 + p3) ∧ own_M (own_get vs p1) ∧ (¬ ((1 : Int32) < p3 ∧ ¬ ((own_get vs (p1 + (1 : Int32))) = own_get vs p1))) ∧ (¬ ((2 : Int32) < p3 ∧ ¬ ((own_get vs (p1 + (2 : Int32))) = own_get vs p1))) ∧ (¬ ((3 : Int32) < p3 ∧ ¬ ((own_get vs (p1 + (3 : Int32))) = own_get vs p1))) ∧ (¬ ((4 : Int32) < p3 ∧ ¬ ((own_get vs (p1 + (4 : Int32))) = own_get vs p1))) ∧ (¬ ((5 : Int32) < p3 ∧ ¬ ((own_get vs (p1 + (5 : Int32))) = own_get vs p1))) ∧ own_E vs p2 (p1 + p3)
theorem own_z3 (P Q : Prop) [Decidable P] [Decidable Q] : (if P then (if Q then (0 : Int32) else (0 : Int32)) else (0 : Int32)) = 0 := by
  repeat' split
  all_goals rfl
theorem own_f3 (vs : List Int32) (p1 p2 p3 : Int32) : ¬ f3 p1 p2 p3 vs = 0 ↔ own_V vs p1 p2 p3 := by
  have t : f3 p1 p2 p3 vs = (if p3 < (1 : Int32) then (0 : Int32) else (if p2 < (p1 + p3) then (0 : Int32) else (if (f4 (own_get vs p1)) = (0 : Int32) then (0 : Int32) else (if ¬ ((1 : Int32) < p3 ∧ ¬ ((own_get vs (p1 + (1 : Int32))) = own_get vs p1)) then (if ¬ ((2 : Int32) < p3 ∧ ¬ ((own_get vs (p1 + (2 : Int32))) = own_get vs p1)) then (if ¬ ((3 : Int32) < p3 ∧ ¬ ((own_get vs (p1 + (3 : Int32))) = own_get vs p1)) then (if ¬ ((4 : Int32) < p3 ∧ ¬ ((own_get vs (p1 + (4 : Int32))) = own_get vs p1)) then (if ¬ ((5 : Int32) < p3 ∧ ¬ ((own_get vs (p1 + (5 : Int32))) = own_get vs p1)) then own_tl vs p2 (p1 + p3) else 0) else 0) else 0) else 0) else 0)))) := by
    unfold f3
    dsimp only
    simp only [own_z3]
    rfl
  rw [t]
  unfold own_V
  by_cases h1 : p3 < (1 : Int32)
  · rw [if_pos h1]; exact ⟨fun h => absurd rfl h, fun h => absurd h1 h.1⟩
  rw [if_neg h1]
  by_cases h2 : p2 < (p1 + p3)
  · rw [if_pos h2]; exact ⟨fun h => absurd rfl h, fun h => absurd h2 h.2.1⟩
  rw [if_neg h2]
  by_cases h3 : f4 (own_get vs p1) = 0
  · rw [if_pos h3]; exact ⟨fun h => absurd rfl h, fun h => absurd h.2.2.1 ((own_f4 _).mp h3)⟩
  rw [if_neg h3]
  have m : own_M (own_get vs p1) := Classical.byContradiction fun z => h3 ((own_f4 _).mpr z)
  by_cases g1 : ¬ ((1 : Int32) < p3 ∧ ¬ ((own_get vs (p1 + (1 : Int32))) = own_get vs p1))
  case neg => rw [if_neg g1]; exact ⟨fun h => absurd rfl h, fun h => absurd h.2.2.2.1 g1⟩
  rw [if_pos g1]
  by_cases g2 : ¬ ((2 : Int32) < p3 ∧ ¬ ((own_get vs (p1 + (2 : Int32))) = own_get vs p1))
  case neg => rw [if_neg g2]; exact ⟨fun h => absurd rfl h, fun h => absurd h.2.2.2.2.1 g2⟩
  rw [if_pos g2]
  by_cases g3 : ¬ ((3 : Int32) < p3 ∧ ¬ ((own_get vs (p1 + (3 : Int32))) = own_get vs p1))
  case neg => rw [if_neg g3]; exact ⟨fun h => absurd rfl h, fun h => absurd h.2.2.2.2.2.1 g3⟩
  rw [if_pos g3]
  by_cases g4 : ¬ ((4 : Int32) < p3 ∧ ¬ ((own_get vs (p1 + (4 : Int32))) = own_get vs p1))
  case neg => rw [if_neg g4]; exact ⟨fun h => absurd rfl h, fun h => absurd h.2.2.2.2.2.2.1 g4⟩
  rw [if_pos g4]
  by_cases g5 : ¬ ((5 : Int32) < p3 ∧ ¬ ((own_get vs (p1 + (5 : Int32))) = own_get vs p1))
  case neg => rw [if_neg g5]; exact ⟨fun h => absurd rfl h, fun h => absurd h.2.2.2.2.2.2.2.1 g5⟩
  rw [if_pos g5, own_tl_iff]
  exact ⟨fun h => ⟨h1, h2, m, g1, g2, g3, g4, g5, h⟩, fun h => h.2.2.2.2.2.2.2.2⟩
theorem own_f2 (vs : List Int32) (p1 p2 : Int32) : f2 p1 p2 vs = (if p1 = p2 then (0 : Int32) else (if own_get vs p1 = (60 : Int32) ∨ own_get vs p1 = (124 : Int32) ∨ own_get vs p1 = (61 : Int32) ∨ own_get vs p1 = (62 : Int32) then (if own_tl vs p2 (own_runI vs (own_get vs p1) p2 6 p1) = 0 then (0 : Int32) else (own_runI vs (own_get vs p1) p2 6 p1) - p1) else 0)) := by
  have z : ∀ c : Int32, (if c = (60 : Int32) then (0 : Int32) else (if c = (124 : Int32) then (0 : Int32) else (if c = (61 : Int32) then (0 : Int32) else (if c = (62 : Int32) then (0 : Int32) else (0 : Int32))))) = 0 := fun c => by
    repeat' split
    all_goals rfl
  unfold f2
  dsimp only
  rw [z]
  rfl
theorem own_no (c : Int32) (m : own_M c) : ¬ c = (32 : Int32) ∧ ¬ c = (10 : Int32) ∧ ¬ c = (13 : Int32) := by
  rcases m with rfl | rfl | rfl | rfl <;> decide
theorem own_A (vs : List Int32) (p1 p2 n : Int32) (k : Int) (hk : n.toInt = k) (k1 : 1 ≤ k) (k6 : k ≤ 6) (r1 : 0 ≤ p1.toInt) (r2 : p1.toInt ≤ p2.toInt) (r3 : p2.toInt ≤ 6) (h : own_V vs p1 p2 n) : f2 p1 p2 vs = n := by
  obtain ⟨-, h2, m, g1, g2, g3, g4, g5, e⟩ := h
  have s : (p1 + n).toInt = p1.toInt + k := own_addk p1 n k hk rfl (by omega) (by omega)
  have h2' : p1.toInt + k ≤ p2.toInt := by
    rw [Int32.lt_iff_toInt_lt, s] at h2
    omega
  have ne : ¬ p1 = p2 := fun z => by rw [z] at h2'; omega
  obtain ⟨q1, q2, q3, q4⟩ := own_run_spec vs (own_get vs p1) p2 r3 6 p1 r1 r2 (by omega)
  rw [own_f2, if_neg ne, if_pos (show own_get vs p1 = (60 : Int32) ∨ own_get vs p1 = (124 : Int32) ∨ own_get vs p1 = (61 : Int32) ∨ own_get vs p1 = (62 : Int32) from m)]
  generalize own_runI vs (own_get vs p1) p2 6 p1 = r at *
  have a1 := own_addk p1 1 1 (by decide) rfl (by omega) (by omega)
  have a2 := own_addk p1 2 2 (by decide) rfl (by omega) (by omega)
  have a3 := own_addk p1 3 3 (by decide) rfl (by omega) (by omega)
  have a4 := own_addk p1 4 4 (by decide) rfl (by omega) (by omega)
  have a5 := own_addk p1 5 5 (by decide) rfl (by omega) (by omega)
  have c1 : (1 : Int32) < n ↔ 1 < k := own_ltk _ _ (by decide) hk
  have c2 : (2 : Int32) < n ↔ 2 < k := own_ltk _ _ (by decide) hk
  have c3 : (3 : Int32) < n ↔ 3 < k := own_ltk _ _ (by decide) hk
  have c4 : (4 : Int32) < n ↔ 4 < k := own_ltk _ _ (by decide) hk
  have c5 : (5 : Int32) < n ↔ 5 < k := own_ltk _ _ (by decide) hk
  have er : r = p1 + n := by
    apply Int32.toInt_inj.mp
    rw [s]
    apply Classical.byContradiction
    intro ct
    by_cases lt : r.toInt < p1.toInt + k
    · have nc : ¬ own_get vs r = own_get vs p1 := by
        rcases q4 with q | q
        · omega
        · exact q
      have cases6 : r.toInt = p1.toInt ∨ r.toInt = p1.toInt + 1 ∨ r.toInt = p1.toInt + 2 ∨ r.toInt = p1.toInt + 3 ∨ r.toInt = p1.toInt + 4 ∨ r.toInt = p1.toInt + 5 := by omega
      rcases cases6 with w | w | w | w | w | w
      · exact nc (by rw [Int32.toInt_inj.mp w])
      · rw [← a1] at w
        exact g1 ⟨c1.mpr (by omega), by rw [← Int32.toInt_inj.mp w]; exact nc⟩
      · rw [← a2] at w
        exact g2 ⟨c2.mpr (by omega), by rw [← Int32.toInt_inj.mp w]; exact nc⟩
      · rw [← a3] at w
        exact g3 ⟨c3.mpr (by omega), by rw [← Int32.toInt_inj.mp w]; exact nc⟩
      · rw [← a4] at w
        exact g4 ⟨c4.mpr (by omega), by rw [← Int32.toInt_inj.mp w]; exact nc⟩
      · rw [← a5] at w
        exact g5 ⟨c5.mpr (by omega), by rw [← Int32.toInt_inj.mp w]; exact nc⟩
    · have y := q3 (p1 + n) (by omega) (by omega)
      obtain ⟨n1, n2, n3⟩ := own_no _ m
      rcases e with e | e | e | ⟨e, -, -⟩
      · have : (p1 + n).toInt = p2.toInt := by rw [e]
        omega
      · exact n1 (y.symm.trans e)
      · exact n2 (y.symm.trans e)
      · exact n3 (y.symm.trans e)
  rw [er, if_neg ((own_tl_iff vs p2 _).mpr e)]
  apply Int32.toInt_inj.mp
  rw [own_sub _ _ (by omega) (by omega), s]
  omega
theorem own_B (vs : List Int32) (p1 p2 : Int32) (r1 : 0 ≤ p1.toInt) (r2 : p1.toInt ≤ p2.toInt) (r3 : p2.toInt ≤ 6) (h : ¬ f2 p1 p2 vs = 0) : 1 ≤ (f2 p1 p2 vs).toInt ∧ (f2 p1 p2 vs).toInt ≤ 6 ∧ own_V vs p1 p2 (f2 p1 p2 vs) := by
  obtain ⟨q1, q2, q3, q4⟩ := own_run_spec vs (own_get vs p1) p2 r3 6 p1 r1 r2 (by omega)
  rw [own_f2] at h ⊢
  by_cases ne : p1 = p2
  · rw [if_pos ne] at h; exact absurd rfl h
  rw [if_neg ne] at h ⊢
  by_cases m : own_get vs p1 = (60 : Int32) ∨ own_get vs p1 = (124 : Int32) ∨ own_get vs p1 = (61 : Int32) ∨ own_get vs p1 = (62 : Int32)
  case neg => rw [if_neg m] at h; exact absurd rfl h
  rw [if_pos m] at h ⊢
  generalize own_runI vs (own_get vs p1) p2 6 p1 = r at *
  by_cases t : own_tl vs p2 r = 0
  · rw [if_pos t] at h; exact absurd rfl h
  rw [if_neg t] at h ⊢
  have ne' : ¬ p1.toInt = p2.toInt := fun z => ne (Int32.toInt_inj.mp z)
  have gt : p1.toInt < r.toInt := by
    apply Classical.byContradiction
    intro ct
    have w : r.toInt = p1.toInt := by omega
    have w' := Int32.toInt_inj.mp w
    rcases q4 with q | q
    · omega
    · exact q (by rw [w'])
  have s := own_sub r p1 (by omega) (by omega)
  obtain ⟨k, hk⟩ : ∃ k : Int, (r - p1).toInt = k := ⟨_, rfl⟩
  have e : p1 + (r - p1) = r := by
    apply Int32.toInt_inj.mp
    rw [own_add _ _ (by omega) (by omega), s]
    omega
  have a1 := own_addk p1 1 1 (by decide) rfl (by omega) (by omega)
  have a2 := own_addk p1 2 2 (by decide) rfl (by omega) (by omega)
  have a3 := own_addk p1 3 3 (by decide) rfl (by omega) (by omega)
  have a4 := own_addk p1 4 4 (by decide) rfl (by omega) (by omega)
  have a5 := own_addk p1 5 5 (by decide) rfl (by omega) (by omega)
  have c1 : (1 : Int32) < (r - p1) ↔ 1 < k := own_ltk _ _ (by decide) hk
  have c2 : (2 : Int32) < (r - p1) ↔ 2 < k := own_ltk _ _ (by decide) hk
  have c3 : (3 : Int32) < (r - p1) ↔ 3 < k := own_ltk _ _ (by decide) hk
  have c4 : (4 : Int32) < (r - p1) ↔ 4 < k := own_ltk _ _ (by decide) hk
  have c5 : (5 : Int32) < (r - p1) ↔ 5 < k := own_ltk _ _ (by decide) hk
  have c0 : (r - p1) < (1 : Int32) ↔ k < 1 := own_ltk _ _ hk (by decide)
  refine ⟨by omega, by omega, fun z => ?_, ?_, m, fun z => ?_, fun z => ?_, fun z => ?_, fun z => ?_, fun z => ?_, ?_⟩
  · have := c0.mp z; omega
  · rw [e, Int32.lt_iff_toInt_lt]; omega
  · exact z.2 (q3 _ (by omega) (by have := c1.mp z.1; omega))
  · exact z.2 (q3 _ (by omega) (by have := c2.mp z.1; omega))
  · exact z.2 (q3 _ (by omega) (by have := c3.mp z.1; omega))
  · exact z.2 (q3 _ (by omega) (by have := c4.mp z.1; omega))
  · exact z.2 (q3 _ (by omega) (by have := c5.mp z.1; omega))
  · rw [e]; exact (own_tl_iff vs p2 r).mp t
theorem own_fin (vs : List Int32) (p1 p2 : Int32) (r1 : 0 ≤ p1.toInt) (r2 : p1.toInt ≤ p2.toInt) (r3 : p2.toInt ≤ 6) :
    (if f2 p1 p2 vs = (0 : Int32) then nar .boolean (if (if (f3 p1 p2 (1 : Int32) vs) = (0 : Int32) then (if (f3 p1 p2 (2 : Int32) vs) = (0 : Int32) then (if (f3 p1 p2 (3 : Int32) vs) = (0 : Int32) then (if (f3 p1 p2 (4 : Int32) vs) = (0 : Int32) then (if (f3 p1 p2 (5 : Int32) vs) = (0 : Int32) then (if (f3 p1 p2 (6 : Int32) vs) = (0 : Int32) then (0 : Int32) else (1 : Int32)) else (1 : Int32)) else (1 : Int32)) else (1 : Int32)) else (1 : Int32)) else (1 : Int32)) = (0 : Int32) then (1 : Int32) else (0 : Int32)) else nar .boolean (if f2 p1 p2 vs < (1 : Int32) then (0 : Int32) else (if (6 : Int32) < f2 p1 p2 vs then (0 : Int32) else (if (f3 p1 p2 (f2 p1 p2 vs) vs) = (0 : Int32) then (0 : Int32) else (1 : Int32))))) = 1 := by
  have nz : ∀ n : Int32, ∀ k : Int, n.toInt = k → 1 ≤ k → k ≤ 6 → f2 p1 p2 vs = 0 → f3 p1 p2 n vs = 0 := fun n k hk k1 k6 h => by
    apply Classical.byContradiction
    intro ct
    have e := own_A vs p1 p2 n k hk k1 k6 r1 r2 r3 ((own_f3 vs p1 p2 n).mp ct)
    rw [h] at e
    rw [← e] at hk
    have k0 : (0 : Int32).toInt = 0 := by decide
    omega
  by_cases h : f2 p1 p2 vs = 0
  · rw [if_pos h, if_pos (nz 1 1 (by decide) (by omega) (by omega) h), if_pos (nz 2 2 (by decide) (by omega) (by omega) h), if_pos (nz 3 3 (by decide) (by omega) (by omega) h), if_pos (nz 4 4 (by decide) (by omega) (by omega) h), if_pos (nz 5 5 (by decide) (by omega) (by omega) h), if_pos (nz 6 6 (by decide) (by omega) (by omega) h)]
    rfl
  · obtain ⟨b1, b2, b3⟩ := own_B vs p1 p2 r1 r2 r3 h
    have k1 : (1 : Int32).toInt = 1 := by decide
    have k6 : (6 : Int32).toInt = 6 := by decide
    have n1 : ¬ f2 p1 p2 vs < (1 : Int32) := by rw [Int32.lt_iff_toInt_lt, k1]; omega
    have n2 : ¬ (6 : Int32) < f2 p1 p2 vs := by rw [Int32.lt_iff_toInt_lt, k6]; omega
    rw [if_neg h, if_neg n1, if_neg n2, if_neg ((own_f3 vs p1 p2 _).mpr b3)]
    rfl
theorem own_law (q0 : Int64) (p1 : Int32) (p2 : Int32) (p3 : Int32) : f0 q0 p1 p2 p3 = 1 := by
  obtain ⟨a, b, c, d, -⟩ := own_ft p2 p3
  exact own_fin _ _ _ a c d

set_option maxRecDepth 65536 in
set_option maxHeartbeats 40000000 in
theorem comes_1 {Post : Tables → Env → Array Value → State → Outcome → State → Prop} (hpost : ∀ tb e args s v u, (limb_1_1.after args s (.returned v) u = true ∧ limb_1_2.after args s (.returned v) u = true ∧ True) → FrameEnd s (.returned v) u (Jvm.fieldLocs frame_1_writes args s ++ Jvm.arrayLocs frame_1_arrays args s ++ Jvm.staticLocs frame_1_statics s) 24 192 → Post tb e args s (.returned v) u) :
    ArmFor flags0 classFile x code maxLocals ret World_1 tables_1 room_1 Calls_1 rest_1 Pre_1 Post := by
  intro l hfl _ _ p e ha hc hk s m args below hf hA hF happ hP
  obtain ⟨hcalls, hrest, hpre⟩ := hP
  obtain ⟨-, -, -, hnamed, -, -, -, hat⟩ := (Spec.applies_iff hf).mp happ
  obtain ⟨hg, hn⟩ := and_e (Cond.before_iff.mp (show (Jvm.Cond.and given_1 narrow_1).before args s = true from hpre))
  obtain ⟨g1, g2⟩ := and_e hg
  obtain ⟨g3, g4⟩ := and_e g2
  obtain ⟨g5, g6⟩ := and_e g4
  obtain ⟨g7, g8⟩ := and_e g6
  obtain ⟨w0, w1, w2, w3, rfl⟩ : ∃ w0 w1 w2 w3 : Value, args = #[w0, w1, w2, w3] := by
    have hs : args.size = 4 := by simpa [Cond.value, given_1] using g1
    obtain ⟨L⟩ := args
    match L, hs with
    | [w0, w1, w2, w3], _ => exact ⟨w0, w1, w2, w3, rfl⟩
  have hw := fun d (hd : d ∈ tables_1) => atoms_spec (ws := Jvm.Cond.code x code maxLocals ret :: tables_1) hat d (List.mem_cons_of_mem _ hd)
  have hfit : Fit s := fun {y c} hc i hi => by
    obtain ⟨ha, rfl⟩ := Array.getElem?_eq_some_iff.mp hc
    have q := List.all_eq_true.mp ((Array.all_eq_true_iff_forall_mem.mp hF) _ (Array.getElem_mem ha)) i (List.mem_range.mpr hi)
    simpa [Array.getElem?_eq_getElem hi] using q
  obtain ⟨i0, ei0⟩ := isL_v g3
  obtain rfl : w0 = (.long i0) := Option.some.inj ei0
  obtain ⟨i1, ei1⟩ := is_v g5
  obtain rfl : w1 = (.int i1) := Option.some.inj ei1
  obtain ⟨i2, ei2⟩ := is_v g7
  obtain rfl : w2 = (.int i2) := Option.some.inj ei2
  obtain ⟨i3, ei3⟩ := is_v g8
  obtain rfl : w3 = (.int i3) := Option.some.inj ei3
  obtain ⟨n, o, h1, h2, h3, _, L, rfl, ⟨rfl, N⟩, hq⟩ := rm0 l s _ hw tables_1 i0 i1 i2 i3 s.heap s.heap.size (Nat.le_refl _) (own_law i0 i1 i2 i3) p e ha hc hk s m _ below hf ((Spec.applies_iff_loose hf).mp happ).1 ⟨rfl, State.Warmed39.refl s, rfl⟩ trivial
  refine ⟨n, _, h1, h2, h3, hpost _ _ _ _ _ _ ⟨Cond.after_iff.mpr rfl, Cond.after_iff.mpr (eq_i res_at (Term.int_eval (1)) rfl), trivial⟩ ⟨hq.1, hq.2.1, (hq.2.2.sift fun y hy => Or.inr (N y hy)).mono (by decide) (by decide)⟩⟩
theorem main_1_1 : Claimed_1_1 := comes_1 fun _ _ _ _ _ _ h hF => ⟨h.1, hF⟩
theorem main_1_2 : Claimed_1_2 := comes_1 fun _ _ _ _ _ _ h hF => ⟨h.2.1, hF⟩
end Jvm.Pilot.@@N@@
namespace Jvm.Pilot.@@N@@
open Jvm Jvm.ClassFile Sem Op Lib Jvm.Free Jvm.Stand Jvm.Pilot.@@N@@.Jvm.D
/-! MADE BY PROGRAM (witnessworld.py) out of the Statement's table words and the real class files: 9 classes; the members and pool entries that the words name. The judged class is class 1, her method 4. -/
namespace start1
open Jvm.ClassFile
def u (s : String) : CpInfo := .utf8 (stringToUtf16 s)
/-- a pool by its gaps: so many unusable entries, then the entry; so many at the end -/
def gap : Nat → List CpInfo → List CpInfo
  | 0, r => r
  | n + 1, r => .unusable :: gap n r
def poolList (es : List (Nat × CpInfo)) (last : Nat) : List CpInfo := es.foldr (fun e r => gap e.1 (e.2 :: r)) (gap last [])
def pool (es : List (Nat × CpInfo)) (last : Nat) : Array CpInfo := ⟨poolList es last⟩
def fileOf (pool : Array CpInfo) (this : Nat) (attrs : Array Attribute := #[]) (ms : Array MethodInfo := #[]) (fl : Nat := 33) (sup : Nat := 0) (ifs : Array Nat := #[]) (fds : Array FieldInfo := #[]) : ClassFile where
  minorVersion := 0
  majorVersion := 65
  constantPool := pool
  accessFlags := fl
  thisClass := this
  superClass := sup
  interfaces := ifs
  fields := fds
  methods := ms
  attributes := attrs
def plain (name : String) (sup : Option ClassId) : Class where
  name := name
  kind := .ordinary
  loader := none
  accessFlags := 33
  super := sup
  interfaces := #[]
  cf := none
  fields := #[]
  methods := #[]
  instanceTypes := #[]
  staticTypes := #[]
  resolved := #[]
  callSites := []
  init := .initialized
  statics := none
  mirror := none

def pool0 : Array CpInfo := pool [(5, u "<init>"), (0, u "()V"), (1, .class_ 10), (1, u "java/lang/Object")] 113

def k0m0 : Method := { name := "<init>", desc := "()V", sig := { parameters := [], returnType := none }, accessFlags := 1, code := none }
/-- java/lang/Object -/
def k0 : Class := { plain "java/lang/Object" none with
  accessFlags := 33
  interfaces := #[]
  cf := some (fileOf pool0 8 #[] #[{ accessFlags := 1, nameIndex := 5, descriptorIndex := 6, attributes := #[] }] 33 0 #[] #[])
  fields := #[]
  methods := #[k0m0]
  instanceTypes := #[]
  staticTypes := #[]
  resolved := Array.replicate 124 none
  statics := none }

def pool1 : Array CpInfo := pool [(2, .class_ 4), (1, u "java/lang/Object"), (0, u "<init>"), (0, u "()V"), (0, .methodref 8 9), (0, .class_ 10), (0, .nameAndType 11 12), (0, u "com/example/tercet/tercet/ConflictMarkersMarkerRunPinLaw"), (0, u "isMarker"), (0, u "(B)Z"), (0, .methodref 8 14), (0, .nameAndType 15 16), (0, u "pick"), (0, u "(JII)B"), (0, .integer 2147483647), (0, .methodref 19 20), (0, .class_ 21), (0, .nameAndType 22 23), (0, u "com/example/tercet/tercet/ConflictMarkers"), (0, u "markerRun"), (0, u "([BII)I"), (0, .methodref 8 25), (0, .nameAndType 26 27), (0, u "valid"), (0, u "([BIII)Z"), (5, u "law"), (0, u "(JIII)Z")] 2

def k1m0 : Method := { name := "<init>", desc := "()V", sig := { parameters := [], returnType := none }, accessFlags := 2, code := none }
def k1c1 : Code := { maxStack := 2, maxLocals := 1, code := method_2_code, exceptionTable := #[], attributes := #[] }
def k1m1 : Method := { name := "isMarker", desc := "(B)Z", sig := { parameters := [.byte], returnType := some .boolean }, accessFlags := 10, code := some k1c1 }
def k1c2 : Code := { maxStack := 3, maxLocals := 7, code := method_3_code, exceptionTable := #[], attributes := #[] }
def k1m2 : Method := { name := "valid", desc := "([BIII)Z", sig := { parameters := [(.array .byte), .int, .int, .int], returnType := some .boolean }, accessFlags := 10, code := some k1c2 }
def k1c3 : Code := { maxStack := 4, maxLocals := 6, code := method_4_code, exceptionTable := #[], attributes := #[] }
def k1m3 : Method := { name := "pick", desc := "(JII)B", sig := { parameters := [.long, .int, .int], returnType := some .byte }, accessFlags := 10, code := some k1c3 }
def k1c4 : Code := { maxStack := 6, maxLocals := 10, code := code, exceptionTable := #[], attributes := #[] }
def k1m4 : Method := { name := "law", desc := "(JIII)Z", sig := { parameters := [.long, .int, .int, .int], returnType := some .boolean }, accessFlags := 9, code := some k1c4 }
/-- com/example/tercet/tercet/ConflictMarkersMarkerRunPinLaw -/
def k1 : Class := { plain "com/example/tercet/tercet/ConflictMarkersMarkerRunPinLaw" (some 0) with
  accessFlags := 49
  interfaces := #[]
  cf := some (fileOf pool1 8 #[] #[{ accessFlags := 2, nameIndex := 5, descriptorIndex := 6, attributes := #[] }, { accessFlags := 10, nameIndex := 11, descriptorIndex := 12, attributes := #[] }, { accessFlags := 10, nameIndex := 26, descriptorIndex := 27, attributes := #[] }, { accessFlags := 10, nameIndex := 15, descriptorIndex := 16, attributes := #[] }, { accessFlags := 9, nameIndex := 33, descriptorIndex := 34, attributes := #[] }] 49 2 #[] #[])
  fields := #[]
  methods := #[k1m0, k1m1, k1m2, k1m3, k1m4]
  instanceTypes := #[]
  staticTypes := #[]
  resolved := Array.replicate 37 none
  statics := none }

def pool2 : Array CpInfo := pool [(4, .class_ 6), (1, u "com/example/tercet/tercet/ConflictMarkers"), (11, .class_ 20), (1, u "java/lang/Object"), (7, u "oursLabel"), (0, u "[B"), (2, u "baseLabel"), (2, u "theirsLabel"), (15, u "size"), (0, u "I"), (6, u "NO_LABEL"), (35, u "DEFAULT_SIZE"), (2, u "MAX_SIZE"), (1, u "OURS"), (0, u "B"), (1, u "BASE"), (1, u "SEPARATOR"), (1, u "THEIRS"), (1, u "SPACE"), (1, u "CARRIAGE_RETURN"), (1, u "LINE_FEED"), (9, u "markerRun"), (0, u "([BII)I")] 28

def k2c0 : Code := { maxStack := 3, maxLocals := 6, code := prog_23_method_6_code, exceptionTable := #[], attributes := #[] }
def k2m0 : Method := { name := "markerRun", desc := "([BII)I", sig := { parameters := [(.array .byte), .int, .int], returnType := some .int }, accessFlags := 8, code := some k2c0 }
/-- com/example/tercet/tercet/ConflictMarkers -/
def k2 : Class := { plain "com/example/tercet/tercet/ConflictMarkers" (some 0) with
  accessFlags := 49
  interfaces := #[]
  cf := some (fileOf pool2 4 #[] #[{ accessFlags := 8, nameIndex := 123, descriptorIndex := 124, attributes := #[] }] 49 18 #[] #[{ accessFlags := 25, nameIndex := 95, descriptorIndex := 52, attributes := #[] }, { accessFlags := 25, nameIndex := 98, descriptorIndex := 52, attributes := #[] }, { accessFlags := 24, nameIndex := 100, descriptorIndex := 101, attributes := #[] }, { accessFlags := 26, nameIndex := 103, descriptorIndex := 101, attributes := #[] }, { accessFlags := 26, nameIndex := 105, descriptorIndex := 101, attributes := #[] }, { accessFlags := 24, nameIndex := 107, descriptorIndex := 101, attributes := #[] }, { accessFlags := 26, nameIndex := 109, descriptorIndex := 101, attributes := #[] }, { accessFlags := 26, nameIndex := 111, descriptorIndex := 101, attributes := #[] }, { accessFlags := 26, nameIndex := 113, descriptorIndex := 101, attributes := #[] }, { accessFlags := 26, nameIndex := 59, descriptorIndex := 29, attributes := #[] }, { accessFlags := 18, nameIndex := 51, descriptorIndex := 52, attributes := #[] }, { accessFlags := 18, nameIndex := 28, descriptorIndex := 29, attributes := #[] }, { accessFlags := 18, nameIndex := 32, descriptorIndex := 29, attributes := #[] }, { accessFlags := 18, nameIndex := 35, descriptorIndex := 29, attributes := #[] }])
  fields := #[{ name := "DEFAULT_SIZE", type := .int, accessFlags := 25, slot := 0, constantValue := 0 }, { name := "MAX_SIZE", type := .int, accessFlags := 25, slot := 1, constantValue := 0 }, { name := "OURS", type := .byte, accessFlags := 24, slot := 2, constantValue := 0 }, { name := "BASE", type := .byte, accessFlags := 26, slot := 3, constantValue := 0 }, { name := "SEPARATOR", type := .byte, accessFlags := 26, slot := 4, constantValue := 0 }, { name := "THEIRS", type := .byte, accessFlags := 24, slot := 5, constantValue := 0 }, { name := "SPACE", type := .byte, accessFlags := 26, slot := 6, constantValue := 0 }, { name := "CARRIAGE_RETURN", type := .byte, accessFlags := 26, slot := 7, constantValue := 0 }, { name := "LINE_FEED", type := .byte, accessFlags := 26, slot := 8, constantValue := 0 }, { name := "NO_LABEL", type := (.array .byte), accessFlags := 26, slot := 9, constantValue := 0 }, { name := "size", type := .int, accessFlags := 18, slot := 0, constantValue := 0 }, { name := "oursLabel", type := (.array .byte), accessFlags := 18, slot := 1, constantValue := 0 }, { name := "baseLabel", type := (.array .byte), accessFlags := 18, slot := 2, constantValue := 0 }, { name := "theirsLabel", type := (.array .byte), accessFlags := 18, slot := 3, constantValue := 0 }]
  methods := #[k2m0]
  instanceTypes := #[.int, (.array .byte), (.array .byte), (.array .byte)]
  staticTypes := #[.int, .int, .byte, .byte, .byte, .byte, .byte, .byte, .byte, (.array .byte)]
  resolved := Array.replicate 153 none
  statics := none }

def pool3 : Array CpInfo := pool [(1, u "java/lang/Cloneable"), (0, .class_ 1), (0, u "java/lang/Object"), (0, .class_ 3)] 3

/-- java/lang/Cloneable -/
def k3 : Class := { plain "java/lang/Cloneable" (some 0) with
  accessFlags := 1537
  interfaces := #[]
  cf := some (fileOf pool3 2 #[] #[] 1537 4 #[] #[])
  fields := #[]
  methods := #[]
  instanceTypes := #[]
  staticTypes := #[]
  resolved := Array.replicate 8 none
  statics := none }

def pool4 : Array CpInfo := pool [(1, u "java/io/Serializable"), (0, .class_ 1), (0, u "java/lang/Object"), (0, .class_ 3)] 3

/-- java/io/Serializable -/
def k4 : Class := { plain "java/io/Serializable" (some 0) with
  accessFlags := 1537
  interfaces := #[]
  cf := some (fileOf pool4 2 #[] #[] 1537 4 #[] #[])
  fields := #[]
  methods := #[]
  instanceTypes := #[]
  staticTypes := #[]
  resolved := Array.replicate 8 none
  statics := none }

/-- the primitive byte -/
def k5 : Class := { plain "byte" none with kind := .primitive 'B', accessFlags := 0x411 }
/-- [B -/
def k6 : Class := { plain "[B" (some 0) with kind := .array 5 .byte, interfaces := #[3, 4], accessFlags := 1041 }

/-- the primitive int -/
def k7 : Class := { plain "int" none with kind := .primitive 'I', accessFlags := 0x411 }
/-- [I -/
def k8 : Class := { plain "[I" (some 0) with kind := .array 7 .int, interfaces := #[3, 4], accessFlags := 1041 }

def heap : Heap := #[]
def classes : Array Class := #[k0, k1, k2, k3, k4, k5, k6, k7, k8]
def interned : List (Array UInt16 × Addr) := []
def slotsUsed : Nat := 0
def theMethod : MethodId := ⟨1, 4⟩
def args0 : Array Value := #[.long 1000000, .int 0, .int 0, .int 6]
def aboutOver (below : List Frame) : State where
  vm := { classes := classes, interned := interned.toArray }
  heap := heap
  slotsUsed := slotsUsed
  threads := #[{ frames := .invoking theMethod args0 :: below }]
def below0 : List Frame := [.native { method := ⟨0, 0⟩, args := #[] }]
def about1 : State := aboutOver below0
def p0 : Program := .bare "" "" ""
def e0 : Env := launch0.env 0 0 0
theorem w_frames : about1.frames = Frame.invoking theMethod args0 :: below0 := rfl
set_option maxRecDepth 65536 in
theorem w_args : argsFit about1.vm theMethod args0 = true := by decide +kernel
set_option maxRecDepth 65536 in
theorem w_heap : heapFits about1 = true := by decide +kernel
set_option maxRecDepth 65536 in
theorem w_runnable : about1.curStatus? = some .runnable := by decide +kernel
set_option maxRecDepth 65536 in
theorem w_alone : about1.alone = true := by decide +kernel
set_option maxRecDepth 65536 in
theorem w_named : about1.methodNamed? x = some theMethod := by decide +kernel
set_option maxRecDepth 65536 in
theorem w_hears : about1.hears theMethod below0 = true := by decide +kernel
set_option maxRecDepth 65536 in
theorem w_ripe : about1.ripe theMethod args0 below0 = true := by decide +kernel
theorem w_running : about1.status = .running := rfl
set_option maxRecDepth 65536 in
theorem w_room : about1.hasRoom e0.platform room_1 = true :=
  launch0.hasRoom_least _ room_1 (by decide +kernel) (by decide +kernel) (by decide +kernel) (by decide +kernel) (by decide +kernel) (by decide +kernel)
theorem allAtoms_all (ts : List Jvm.Cond) (a : Array Jvm.Value) (st : Jvm.State) : (allAtoms ts).before a st = ts.all (fun c => c.before a st) := by
  induction ts with
  | nil => rfl
  | cons c t ih =>
    show (Jvm.Cond.and c (allAtoms t)).before a st = _
    rw [Jvm.Cond.before_and, ih, List.all_cons]
def words1 : List Jvm.Cond := Jvm.Cond.code x code maxLocals ret :: tables_1
/-- a 'code' word, met by the world's own term for the bytes: nothing is compared byte by byte -/
theorem code_word {y : MethodName} {bytes : ByteArray} {mx : Nat} {rt : Option FieldType} {a : Array Value} {s : State} {m : MethodId} {meth : Method} {c : Code} (h1 : s.methodNamed? y = some m) (h2 : s.vm.method? m = some meth) (h3 : meth.code = some c) (h4 : c.code = bytes)
    (h5 : (c.maxLocals == mx && c.exceptionTable.isEmpty && decide (c.maxStack ≤ mostOperands) && decide (meth.sig.returnType = rt) && !meth.locks && decide (parseMethodDescriptor y.desc = some meth.sig)) = true) : (Jvm.Cond.code y bytes mx rt).before a s = true := by
  simp only [Bool.and_eq_true, beq_iff_eq, Bool.not_eq_true', decide_eq_true_eq] at h5
  obtain ⟨⟨⟨⟨⟨g1, g2⟩, g3⟩, g4⟩, g5⟩, g6⟩ := h5
  simp [Cond.before, Cond.holds, Cond.value, h1, h2, h3, h4, g1, g2, g3, g4, g5, g6]
def isCode : Jvm.Cond → Bool
  | .code _ _ _ _ => true
  | _ => false
theorem all_split {L : List Jvm.Cond} {P : Jvm.Cond → Bool} (h1 : L.all (fun c => isCode c || P c) = true) (h2 : ∀ c ∈ L.filter isCode, P c = true) : L.all P = true := by
  refine List.all_eq_true.mpr fun c hc => ?_
  have h := List.all_eq_true.mp h1 c hc
  rcases Bool.eq_false_or_eq_true (isCode c) with hi | hi
  · exact h2 c (List.mem_filter.mpr ⟨hc, hi⟩)
  · simpa [hi] using h
set_option maxRecDepth 65536 in
theorem w_c0 : (Jvm.Cond.code x code maxLocals ret).before args0 about1 = true := code_word (m := ⟨1, 4⟩) (meth := k1m4) (c := k1c4) (by decide +kernel) rfl rfl rfl (by decide +kernel)
set_option maxRecDepth 65536 in
theorem w_c1 : (Jvm.Cond.code ({ cls := "com/example/tercet/tercet/ConflictMarkersMarkerRunPinLaw", name := "pick", desc := "(JII)B" } : Jvm.MethodName) method_4_code (6 : Nat) (Option.some Jvm.ClassFile.FieldType.byte)).before args0 about1 = true := code_word (m := ⟨1, 3⟩) (meth := k1m3) (c := k1c3) (by decide +kernel) rfl rfl rfl (by decide +kernel)
set_option maxRecDepth 65536 in
theorem w_c2 : (Jvm.Cond.code ({ cls := "com/example/tercet/tercet/ConflictMarkers", name := "markerRun", desc := "([BII)I" } : Jvm.MethodName) prog_23_method_6_code (6 : Nat) (Option.some Jvm.ClassFile.FieldType.int)).before args0 about1 = true := code_word (m := ⟨2, 0⟩) (meth := k2m0) (c := k2c0) (by decide +kernel) rfl rfl rfl (by decide +kernel)
set_option maxRecDepth 65536 in
theorem w_c3 : (Jvm.Cond.code ({ cls := "com/example/tercet/tercet/ConflictMarkersMarkerRunPinLaw", name := "valid", desc := "([BIII)Z" } : Jvm.MethodName) method_3_code (7 : Nat) (Option.some Jvm.ClassFile.FieldType.boolean)).before args0 about1 = true := code_word (m := ⟨1, 2⟩) (meth := k1m2) (c := k1c2) (by decide +kernel) rfl rfl rfl (by decide +kernel)
set_option maxRecDepth 65536 in
theorem w_c4 : (Jvm.Cond.code ({ cls := "com/example/tercet/tercet/ConflictMarkersMarkerRunPinLaw", name := "isMarker", desc := "(B)Z" } : Jvm.MethodName) method_2_code (1 : Nat) (Option.some Jvm.ClassFile.FieldType.boolean)).before args0 about1 = true := code_word (m := ⟨1, 1⟩) (meth := k1m1) (c := k1c1) (by decide +kernel) rfl rfl rfl (by decide +kernel)
def codes1 : List Jvm.Cond := [Jvm.Cond.code x code maxLocals ret, Jvm.Cond.code ({ cls := "com/example/tercet/tercet/ConflictMarkersMarkerRunPinLaw", name := "pick", desc := "(JII)B" } : Jvm.MethodName) method_4_code (6 : Nat) (Option.some Jvm.ClassFile.FieldType.byte), Jvm.Cond.code ({ cls := "com/example/tercet/tercet/ConflictMarkers", name := "markerRun", desc := "([BII)I" } : Jvm.MethodName) prog_23_method_6_code (6 : Nat) (Option.some Jvm.ClassFile.FieldType.int), Jvm.Cond.code ({ cls := "com/example/tercet/tercet/ConflictMarkersMarkerRunPinLaw", name := "valid", desc := "([BIII)Z" } : Jvm.MethodName) method_3_code (7 : Nat) (Option.some Jvm.ClassFile.FieldType.boolean), Jvm.Cond.code ({ cls := "com/example/tercet/tercet/ConflictMarkersMarkerRunPinLaw", name := "isMarker", desc := "(B)Z" } : Jvm.MethodName) method_2_code (1 : Nat) (Option.some Jvm.ClassFile.FieldType.boolean)]
set_option maxRecDepth 65536 in
theorem codes_eq : words1.filter isCode = codes1 := rfl
theorem w_codes : ∀ c ∈ words1.filter isCode, c.before args0 about1 = true := by
  rw [codes_eq]
  intro c hc
  simp only [codes1, List.mem_cons, List.not_mem_nil, or_false] at hc
  rcases hc with rfl | rfl | rfl | rfl | rfl
  · exact w_c0
  · exact w_c1
  · exact w_c2
  · exact w_c3
  · exact w_c4
set_option maxRecDepth 65536 in
theorem w_t1 : words1.all (fun c => isCode c || c.before args0 about1) = true := by decide +kernel
theorem w_tables : (allAtoms (Jvm.Cond.code x code maxLocals ret :: tables_1)).before args0 about1 = true := by
  rw [allAtoms_all]
  show words1.all (fun c => c.before args0 about1) = true
  refine all_split ?_ w_codes
  rw [w_t1]
set_option maxRecDepth 65536 in
theorem w_case : (Jvm.Cond.and given_1 narrow_1).before args0 about1 = true := by decide +kernel
theorem w_applies : (headSpec (Jvm.Cond.code x code maxLocals ret :: tables_1) room_1).applies x e0.platform about1 = true :=
  (Spec.applies_iff w_frames).mpr ⟨w_running, w_runnable, w_alone, w_named, w_hears, w_ripe, w_room, w_tables⟩
theorem atStart : AtStart classFile x code maxLocals ret World_1 tables_1 room_1 Calls_1 rest_1 Pre_1 launch0 p0 e0 about1 theMethod args0 below0 :=
  ⟨lists_1, trivial, launch0.admits_env _ _ _, launch0.least_env, fairChoices_fair.cas, fairChoices_fair.clock, w_frames, w_args, w_heap, w_applies, trivial, trivial, w_case⟩
end start1
theorem witness_1 : WitnessClaimed_1 := ⟨start1.p0, start1.e0, start1.about1, start1.theMethod, start1.args0, start1.below0, start1.atStart⟩
end Jvm.Pilot.@@N@@
