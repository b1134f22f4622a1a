import JvmDerived
import JvmDerived.Pilot.@@N@@Statement
import JvmDerived.Pilot.@@N@@Code
set_option linter.unusedVariables false
set_option linter.unusedSimpArgs false
namespace Jvm.RoadKit
open Sem ClassFile Op Lib Jvm.Stand Jvm.Free Jvm.LawKit
section New
variable {p : Program} {l : Launch} {e : Env} {R : Room} {s : State} {m : MethodId} {args : Array Value} {below : List Frame} {meth : Method} {c : Code} {T : State} {locs : List Loc} {cells slots : Nat}
theorem retI (X : Stand p l e R s m args below meth c T locs cells slots) (hx : p.tables.exec = Jvm.exec) {pc : Nat} {Ls : Array Slot} {z : Int32} {rest : List Value} (hret : meth.sig.returnType = some .int) (hd : decode c.code pc = .ok (.ireturn, 1)) {fs : List Frame}
    (hl : ∀ (f : JFrame) (acts : List Action), f.method = m → f.locked = none → f.entered = [] → (doReturn e (T.setTop f) acts (some (.int z))).1 = T.setFrames fs) : Steps p.tables e below (T.setTop (mkF m pc Ls (.int z :: rest))) (T.setFrames fs) := by
  have hm' : T.vm.method? m = some meth := X.method'
  have hn : narrow .int (.int z) = .int z := rfl
  show Steps p.tables e below (T.setTop { method := m, pc := pc, locals := Ls, stack := _ :: rest, locked := none }) _
  jvm_step X.here [X.here.top, hx, hd, hm', hret, hn]
  first | (intro acts; rw [hl _ acts rfl rfl rfl]) | rw [hl _ _ rfl rfl rfl]
  exact Steps.refl _
end New
end Jvm.RoadKit
namespace Jvm.Pilot.@@N@@
open Jvm Jvm.ClassFile Sem Op Lib Jvm.Free Jvm.Stand Jvm.LawKit Jvm.RoadKit Bundle Jvm.Pilot.@@N@@.Jvm.D
def own_get (vs : List Int32) (j : Int32) : Int32 := vs.getD j.toNatClampNeg 0
theorem own_getD (vs : List Int32) (j : Int32) : (List.map Value.int vs).getD j.toNatClampNeg (.int (0 : Int32)) = .int (own_get vs j) := by
  unfold own_get
  generalize j.toNatClampNeg = n
  induction vs generalizing n with
  | nil => rfl
  | cons x t ih => cases n with
    | zero => rfl
    | succ n => exact ih n
theorem own_ltL {c : Cell} {j z : Int32} {n : Nat} (S : c.slots.size = z.toNatClampNeg) (hz : z.toNatClampNeg = n) (hin : ¬ (j < 0 ∨ c.slots.size ≤ j.toNatClampNeg)) : j.toNatClampNeg < n := by
  rw [← hz, ← S]; exact Nat.lt_of_not_le fun y => hin (Or.inr y)

theorem own_add (x y : Int32) (h1 : -2147483648 ≤ x.toInt + y.toInt) (h2 : x.toInt + y.toInt < 2147483648) : (x + y).toInt = x.toInt + y.toInt := by
  have a := c_iadd x y
  have b := rng32 (x + y)
  omega
theorem own_sub (x y : Int32) (h1 : -2147483648 ≤ x.toInt - y.toInt) (h2 : x.toInt - y.toInt < 2147483648) : (x - y).toInt = x.toInt - y.toInt := by
  have a := c_isub x y
  have b := rng32 (x - y)
  omega
theorem own_addk (x y : Int32) (k : Int) (hk : y.toInt = k) {n : Int} (hx : x.toInt = n) (h1 : -2147483648 ≤ n + k) (h2 : n + k < 2147483648) : (x + y).toInt = n + k := by
  rw [← hx, ← hk] at h1 h2 ⊢; exact own_add x y h1 h2
theorem own_subk (x y : Int32) (k : Int) (hk : y.toInt = k) {n : Int} (hx : x.toInt = n) (h1 : -2147483648 ≤ n - k) (h2 : n - k < 2147483648) : (x - y).toInt = n - k := by
  rw [← hx, ← hk] at h1 h2 ⊢; exact own_sub x y h1 h2
theorem own_ltk (x y : Int32) {n m : Int} (hx : x.toInt = n) (hy : y.toInt = m) : x < y ↔ n < m := by rw [Int32.lt_iff_toInt_lt, hx, hy]
theorem own_eqk (x y : Int32) {n m : Int} (hx : x.toInt = n) (hy : y.toInt = m) : x = y ↔ n = m := by rw [← Int32.toInt_inj, hx, hy]
theorem pn_0 : plainName "com/example/hyperslab/hyperslab/dataset/DataType" = true := by first | (simp [plainName, overriddenIn]; done) | decide +kernel
theorem d1_0 : decode prog_27_method_6_code 0 = .ok (.iload_n 1, 1) := by decide +kernel
theorem d1_1 : decode prog_27_method_6_code 1 = .ok (.iload_n 2, 1) := by decide +kernel
theorem d1_2 : decode prog_27_method_6_code 2 = .ok (.iadd, 1) := by decide +kernel
theorem d1_3 : decode prog_27_method_6_code 3 = .ok (.istore_n 3, 1) := by decide +kernel
theorem d1_4 : decode prog_27_method_6_code 4 = .ok (.iload_n 3, 1) := by decide +kernel
theorem d1_5 : decode prog_27_method_6_code 5 = .ok (.iload_n 1, 1) := by decide +kernel
theorem d1_6 : decode prog_27_method_6_code 6 = .ok (.if_icmp .le 17, 3) := by decide +kernel
theorem d1_9 : decode prog_27_method_6_code 9 = .ok (.aload_n 0, 1) := by decide +kernel
theorem d1_10 : decode prog_27_method_6_code 10 = .ok (.iload_n 3, 1) := by decide +kernel
theorem d1_11 : decode prog_27_method_6_code 11 = .ok (.iconst 1, 1) := by decide +kernel
theorem d1_12 : decode prog_27_method_6_code 12 = .ok (.isub, 1) := by decide +kernel
theorem d1_13 : decode prog_27_method_6_code 13 = .ok (.baload, 1) := by decide +kernel
theorem d1_14 : decode prog_27_method_6_code 14 = .ok (.ifCond .ne 9, 3) := by decide +kernel
theorem d1_17 : decode prog_27_method_6_code 17 = .ok (.iinc 3 (-1), 3) := by decide +kernel
theorem d1_20 : decode prog_27_method_6_code 20 = .ok (.goto (-16), 3) := by decide +kernel
theorem d1_23 : decode prog_27_method_6_code 23 = .ok (.iload_n 3, 1) := by decide +kernel
theorem d1_24 : decode prog_27_method_6_code 24 = .ok (.iload_n 1, 1) := by decide +kernel
theorem d1_25 : decode prog_27_method_6_code 25 = .ok (.isub, 1) := by decide +kernel
theorem ef_1 (m : MethodId) (x0 : Addr) (x1 : Int32) (x2 : Int32) : entryFrame m #[(.ref x0), (.int x1), (.int x2)] 4 = mkF m 0 #[.val (.ref x0), .val (.int x1), .val (.int x2), .unset] [] := by first | (simp [entryFrame, mkF, argsToLocals, Value.category]; done) | rfl
def f1 (p1 : Int32) (p2 : Int32) (vs_a0 : List Int32) : Int32 := (let v2 : Int32 := (p1 + p2); (let j28 : Int32 := (if p1 < v2 then (if (own_get vs_a0 (v2 - (1 : Int32))) = (0 : Int32) then (if p1 < (v2 + (-1 : Int32)) then (if (own_get vs_a0 ((v2 + (-1 : Int32)) - (1 : Int32))) = (0 : Int32) then (if p1 < ((v2 + (-1 : Int32)) + (-1 : Int32)) then (if (own_get vs_a0 (((v2 + (-1 : Int32)) + (-1 : Int32)) - (1 : Int32))) = (0 : Int32) then (if p1 < (((v2 + (-1 : Int32)) + (-1 : Int32)) + (-1 : Int32)) then (if (own_get vs_a0 ((((v2 + (-1 : Int32)) + (-1 : Int32)) + (-1 : Int32)) - (1 : Int32))) = (0 : Int32) then ((((v2 + (-1 : Int32)) + (-1 : Int32)) + (-1 : Int32)) + (-1 : Int32)) else (((v2 + (-1 : Int32)) + (-1 : Int32)) + (-1 : Int32))) else (((v2 + (-1 : Int32)) + (-1 : Int32)) + (-1 : Int32))) else ((v2 + (-1 : Int32)) + (-1 : Int32))) else ((v2 + (-1 : Int32)) + (-1 : Int32))) else (v2 + (-1 : Int32))) else (v2 + (-1 : Int32))) else v2) else v2); (j28 - p1)))
def Q1 (Z : State) (a0 : Addr) (p1 : Int32) (p2 : Int32) (ka_a0 : ClassId) (vs_a0 : List Int32) (h0 : Heap) (n0 : Nat) (v : Option Value) (h : Heap) (L : List Loc) : Prop := v = some (.int (f1 p1 p2 vs_a0)) ∧ Fr n0 L ∧ h = h0
theorem d1_26 : decode prog_27_method_6_code 26 = .ok (.ireturn, 1) := by decide +kernel
theorem own_in1_13_1 (p1 : Int32) (p2 : Int32) (vs_a0 : List Int32) (hr : 0 ≤ (p1 : Int32).toInt ∧ p1.toInt ≤ 2 ∧ 0 ≤ p2.toInt ∧ p2.toInt ≤ 4) (v2 : Int32) (hv2 : v2 = (p1 + p2)) (hc5 : p1 < v2) : ¬ (v2 - (1 : Int32)) < 0 ∧ (v2 - (1 : Int32)) < (6 : Int32) := by
  obtain ⟨r1, r2, r3, r4⟩ := hr
  obtain ⟨a, ha⟩ : ∃ a : Int, p1.toInt = a := ⟨_, rfl⟩
  obtain ⟨b, hb⟩ : ∃ b : Int, p2.toInt = b := ⟨_, rfl⟩
  rw [ha] at r1 r2
  rw [hb] at r3 r4
  have q0 : -2147483648 ≤ a + b ∧ a + b < 2147483648 := by omega
  have q1 : -2147483648 ≤ a + b + -1 ∧ a + b + -1 < 2147483648 := by omega
  have q2 : -2147483648 ≤ a + b + -1 + -1 ∧ a + b + -1 + -1 < 2147483648 := by omega
  have q3 : -2147483648 ≤ a + b + -1 + -1 + -1 ∧ a + b + -1 + -1 + -1 < 2147483648 := by omega
  have q4 : -2147483648 ≤ a + b + -1 + -1 + -1 + -1 ∧ a + b + -1 + -1 + -1 + -1 < 2147483648 := by omega
  have s1 : -2147483648 ≤ a + b - 1 ∧ a + b - 1 < 2147483648 := by omega
  have s2 : -2147483648 ≤ a + b + -1 - 1 ∧ a + b + -1 - 1 < 2147483648 := by omega
  have s3 : -2147483648 ≤ a + b + -1 + -1 - 1 ∧ a + b + -1 + -1 - 1 < 2147483648 := by omega
  have s4 : -2147483648 ≤ a + b + -1 + -1 + -1 - 1 ∧ a + b + -1 + -1 + -1 - 1 < 2147483648 := by omega
  have a0 : v2.toInt = a + b := by rw [hv2]; exact own_addk p1 p2 b hb ha q0.1 q0.2
  have a1 := own_addk v2 (-1) (-1) (by decide) a0 q1.1 q1.2
  have a2 := own_addk (v2 + (-1)) (-1) (-1) (by decide) a1 q2.1 q2.2
  have a3 := own_addk (v2 + (-1) + (-1)) (-1) (-1) (by decide) a2 q3.1 q3.2
  have a4 := own_addk (v2 + (-1) + (-1) + (-1)) (-1) (-1) (by decide) a3 q4.1 q4.2
  have b1 := own_subk v2 1 1 (by decide) a0 s1.1 s1.2
  have b2 := own_subk (v2 + (-1)) 1 1 (by decide) a1 s2.1 s2.2
  have b3 := own_subk (v2 + (-1) + (-1)) 1 1 (by decide) a2 s3.1 s3.2
  have b4 := own_subk (v2 + (-1) + (-1) + (-1)) 1 1 (by decide) a3 s4.1 s4.2
  have k6 : (6 : Int32).toInt = 6 := by decide
  have k0 : (0 : Int32).toInt = 0 := by decide
  simp only [Int32.lt_iff_toInt_lt, ha, a0, a1, a2, a3, a4, b1, b2, b3, b4, k6, k0] at *
  omega
theorem own_in1_13_2 (p1 : Int32) (p2 : Int32) (vs_a0 : List Int32) (hr : 0 ≤ (p1 : Int32).toInt ∧ p1.toInt ≤ 2 ∧ 0 ≤ p2.toInt ∧ p2.toInt ≤ 4) (v2 : Int32) (hv2 : v2 = (p1 + p2)) (hc5 : p1 < v2) (hc9 : (own_get vs_a0 (v2 - (1 : Int32))) = (0 : Int32)) (hc11 : p1 < (v2 + (-1 : Int32))) : ¬ ((v2 + (-1 : Int32)) - (1 : Int32)) < 0 ∧ ((v2 + (-1 : Int32)) - (1 : Int32)) < (6 : Int32) := by
  obtain ⟨r1, r2, r3, r4⟩ := hr
  obtain ⟨a, ha⟩ : ∃ a : Int, p1.toInt = a := ⟨_, rfl⟩
  obtain ⟨b, hb⟩ : ∃ b : Int, p2.toInt = b := ⟨_, rfl⟩
  rw [ha] at r1 r2
  rw [hb] at r3 r4
  have q0 : -2147483648 ≤ a + b ∧ a + b < 2147483648 := by omega
  have q1 : -2147483648 ≤ a + b + -1 ∧ a + b + -1 < 2147483648 := by omega
  have q2 : -2147483648 ≤ a + b + -1 + -1 ∧ a + b + -1 + -1 < 2147483648 := by omega
  have q3 : -2147483648 ≤ a + b + -1 + -1 + -1 ∧ a + b + -1 + -1 + -1 < 2147483648 := by omega
  have q4 : -2147483648 ≤ a + b + -1 + -1 + -1 + -1 ∧ a + b + -1 + -1 + -1 + -1 < 2147483648 := by omega
  have s1 : -2147483648 ≤ a + b - 1 ∧ a + b - 1 < 2147483648 := by omega
  have s2 : -2147483648 ≤ a + b + -1 - 1 ∧ a + b + -1 - 1 < 2147483648 := by omega
  have s3 : -2147483648 ≤ a + b + -1 + -1 - 1 ∧ a + b + -1 + -1 - 1 < 2147483648 := by omega
  have s4 : -2147483648 ≤ a + b + -1 + -1 + -1 - 1 ∧ a + b + -1 + -1 + -1 - 1 < 2147483648 := by omega
  have a0 : v2.toInt = a + b := by rw [hv2]; exact own_addk p1 p2 b hb ha q0.1 q0.2
  have a1 := own_addk v2 (-1) (-1) (by decide) a0 q1.1 q1.2
  have a2 := own_addk (v2 + (-1)) (-1) (-1) (by decide) a1 q2.1 q2.2
  have a3 := own_addk (v2 + (-1) + (-1)) (-1) (-1) (by decide) a2 q3.1 q3.2
  have a4 := own_addk (v2 + (-1) + (-1) + (-1)) (-1) (-1) (by decide) a3 q4.1 q4.2
  have b1 := own_subk v2 1 1 (by decide) a0 s1.1 s1.2
  have b2 := own_subk (v2 + (-1)) 1 1 (by decide) a1 s2.1 s2.2
  have b3 := own_subk (v2 + (-1) + (-1)) 1 1 (by decide) a2 s3.1 s3.2
  have b4 := own_subk (v2 + (-1) + (-1) + (-1)) 1 1 (by decide) a3 s4.1 s4.2
  have k6 : (6 : Int32).toInt = 6 := by decide
  have k0 : (0 : Int32).toInt = 0 := by decide
  simp only [Int32.lt_iff_toInt_lt, ha, a0, a1, a2, a3, a4, b1, b2, b3, b4, k6, k0] at *
  omega
theorem own_in1_13_3 (p1 : Int32) (p2 : Int32) (vs_a0 : List Int32) (hr : 0 ≤ (p1 : Int32).toInt ∧ p1.toInt ≤ 2 ∧ 0 ≤ p2.toInt ∧ p2.toInt ≤ 4) (v2 : Int32) (hv2 : v2 = (p1 + p2)) (hc5 : p1 < v2) (hc9 : (own_get vs_a0 (v2 - (1 : Int32))) = (0 : Int32)) (hc11 : p1 < (v2 + (-1 : Int32))) (hc15 : (own_get vs_a0 ((v2 + (-1 : Int32)) - (1 : Int32))) = (0 : Int32)) (hc17 : p1 < ((v2 + (-1 : Int32)) + (-1 : Int32))) : ¬ (((v2 + (-1 : Int32)) + (-1 : Int32)) - (1 : Int32)) < 0 ∧ (((v2 + (-1 : Int32)) + (-1 : Int32)) - (1 : Int32)) < (6 : Int32) := by
  obtain ⟨r1, r2, r3, r4⟩ := hr
  obtain ⟨a, ha⟩ : ∃ a : Int, p1.toInt = a := ⟨_, rfl⟩
  obtain ⟨b, hb⟩ : ∃ b : Int, p2.toInt = b := ⟨_, rfl⟩
  rw [ha] at r1 r2
  rw [hb] at r3 r4
  have q0 : -2147483648 ≤ a + b ∧ a + b < 2147483648 := by omega
  have q1 : -2147483648 ≤ a + b + -1 ∧ a + b + -1 < 2147483648 := by omega
  have q2 : -2147483648 ≤ a + b + -1 + -1 ∧ a + b + -1 + -1 < 2147483648 := by omega
  have q3 : -2147483648 ≤ a + b + -1 + -1 + -1 ∧ a + b + -1 + -1 + -1 < 2147483648 := by omega
  have q4 : -2147483648 ≤ a + b + -1 + -1 + -1 + -1 ∧ a + b + -1 + -1 + -1 + -1 < 2147483648 := by omega
  have s1 : -2147483648 ≤ a + b - 1 ∧ a + b - 1 < 2147483648 := by omega
  have s2 : -2147483648 ≤ a + b + -1 - 1 ∧ a + b + -1 - 1 < 2147483648 := by omega
  have s3 : -2147483648 ≤ a + b + -1 + -1 - 1 ∧ a + b + -1 + -1 - 1 < 2147483648 := by omega
  have s4 : -2147483648 ≤ a + b + -1 + -1 + -1 - 1 ∧ a + b + -1 + -1 + -1 - 1 < 2147483648 := by omega
  have a0 : v2.toInt = a + b := by rw [hv2]; exact own_addk p1 p2 b hb ha q0.1 q0.2
  have a1 := own_addk v2 (-1) (-1) (by decide) a0 q1.1 q1.2
  have a2 := own_addk (v2 + (-1)) (-1) (-1) (by decide) a1 q2.1 q2.2
  have a3 := own_addk (v2 + (-1) + (-1)) (-1) (-1) (by decide) a2 q3.1 q3.2
  have a4 := own_addk (v2 + (-1) + (-1) + (-1)) (-1) (-1) (by decide) a3 q4.1 q4.2
  have b1 := own_subk v2 1 1 (by decide) a0 s1.1 s1.2
  have b2 := own_subk (v2 + (-1)) 1 1 (by decide) a1 s2.1 s2.2
  have b3 := own_subk (v2 + (-1) + (-1)) 1 1 (by decide) a2 s3.1 s3.2
  have b4 := own_subk (v2 + (-1) + (-1) + (-1)) 1 1 (by decide) a3 s4.1 s4.2
  have k6 : (6 : Int32).toInt = 6 := by decide
  have k0 : (0 : Int32).toInt = 0 := by decide
  simp only [Int32.lt_iff_toInt_lt, ha, a0, a1, a2, a3, a4, b1, b2, b3, b4, k6, k0] at *
  omega
theorem own_in1_13_4 (p1 : Int32) (p2 : Int32) (vs_a0 : List Int32) (hr : 0 ≤ (p1 : Int32).toInt ∧ p1.toInt ≤ 2 ∧ 0 ≤ p2.toInt ∧ p2.toInt ≤ 4) (v2 : Int32) (hv2 : v2 = (p1 + p2)) (hc5 : p1 < v2) (hc9 : (own_get vs_a0 (v2 - (1 : Int32))) = (0 : Int32)) (hc11 : p1 < (v2 + (-1 : Int32))) (hc15 : (own_get vs_a0 ((v2 + (-1 : Int32)) - (1 : Int32))) = (0 : Int32)) (hc17 : p1 < ((v2 + (-1 : Int32)) + (-1 : Int32))) (hc21 : (own_get vs_a0 (((v2 + (-1 : Int32)) + (-1 : Int32)) - (1 : Int32))) = (0 : Int32)) (hc23 : p1 < (((v2 + (-1 : Int32)) + (-1 : Int32)) + (-1 : Int32))) : ¬ ((((v2 + (-1 : Int32)) + (-1 : Int32)) + (-1 : Int32)) - (1 : Int32)) < 0 ∧ ((((v2 + (-1 : Int32)) + (-1 : Int32)) + (-1 : Int32)) - (1 : Int32)) < (6 : Int32) := by
  obtain ⟨r1, r2, r3, r4⟩ := hr
  obtain ⟨a, ha⟩ : ∃ a : Int, p1.toInt = a := ⟨_, rfl⟩
  obtain ⟨b, hb⟩ : ∃ b : Int, p2.toInt = b := ⟨_, rfl⟩
  rw [ha] at r1 r2
  rw [hb] at r3 r4
  have q0 : -2147483648 ≤ a + b ∧ a + b < 2147483648 := by omega
  have q1 : -2147483648 ≤ a + b + -1 ∧ a + b + -1 < 2147483648 := by omega
  have q2 : -2147483648 ≤ a + b + -1 + -1 ∧ a + b + -1 + -1 < 2147483648 := by omega
  have q3 : -2147483648 ≤ a + b + -1 + -1 + -1 ∧ a + b + -1 + -1 + -1 < 2147483648 := by omega
  have q4 : -2147483648 ≤ a + b + -1 + -1 + -1 + -1 ∧ a + b + -1 + -1 + -1 + -1 < 2147483648 := by omega
  have s1 : -2147483648 ≤ a + b - 1 ∧ a + b - 1 < 2147483648 := by omega
  have s2 : -2147483648 ≤ a + b + -1 - 1 ∧ a + b + -1 - 1 < 2147483648 := by omega
  have s3 : -2147483648 ≤ a + b + -1 + -1 - 1 ∧ a + b + -1 + -1 - 1 < 2147483648 := by omega
  have s4 : -2147483648 ≤ a + b + -1 + -1 + -1 - 1 ∧ a + b + -1 + -1 + -1 - 1 < 2147483648 := by omega
  have a0 : v2.toInt = a + b := by rw [hv2]; exact own_addk p1 p2 b hb ha q0.1 q0.2
  have a1 := own_addk v2 (-1) (-1) (by decide) a0 q1.1 q1.2
  have a2 := own_addk (v2 + (-1)) (-1) (-1) (by decide) a1 q2.1 q2.2
  have a3 := own_addk (v2 + (-1) + (-1)) (-1) (-1) (by decide) a2 q3.1 q3.2
  have a4 := own_addk (v2 + (-1) + (-1) + (-1)) (-1) (-1) (by decide) a3 q4.1 q4.2
  have b1 := own_subk v2 1 1 (by decide) a0 s1.1 s1.2
  have b2 := own_subk (v2 + (-1)) 1 1 (by decide) a1 s2.1 s2.2
  have b3 := own_subk (v2 + (-1) + (-1)) 1 1 (by decide) a2 s3.1 s3.2
  have b4 := own_subk (v2 + (-1) + (-1) + (-1)) 1 1 (by decide) a3 s4.1 s4.2
  have k6 : (6 : Int32).toInt = 6 := by decide
  have k0 : (0 : Int32).toInt = 0 := by decide
  simp only [Int32.lt_iff_toInt_lt, ha, a0, a1, a2, a3, a4, b1, b2, b3, b4, k6, k0] at *
  omega
theorem own_end (p1 : Int32) (p2 : Int32) (vs_a0 : List Int32) (hr : 0 ≤ (p1 : Int32).toInt ∧ p1.toInt ≤ 2 ∧ 0 ≤ p2.toInt ∧ p2.toInt ≤ 4) (v2 : Int32) (hv2 : v2 = (p1 + p2)) (hc5 : p1 < v2) (hc9 : (own_get vs_a0 (v2 - (1 : Int32))) = (0 : Int32)) (hc11 : p1 < (v2 + (-1 : Int32))) (hc15 : (own_get vs_a0 ((v2 + (-1 : Int32)) - (1 : Int32))) = (0 : Int32)) (hc17 : p1 < ((v2 + (-1 : Int32)) + (-1 : Int32))) (hc21 : (own_get vs_a0 (((v2 + (-1 : Int32)) + (-1 : Int32)) - (1 : Int32))) = (0 : Int32)) (hc23 : p1 < (((v2 + (-1 : Int32)) + (-1 : Int32)) + (-1 : Int32))) (hc27 : (own_get vs_a0 ((((v2 + (-1 : Int32)) + (-1 : Int32)) + (-1 : Int32)) - (1 : Int32))) = (0 : Int32)) : ¬ (p1 < ((((v2 + (-1 : Int32)) + (-1 : Int32)) + (-1 : Int32)) + (-1 : Int32))) := by
  obtain ⟨r1, r2, r3, r4⟩ := hr
  obtain ⟨a, ha⟩ : ∃ a : Int, p1.toInt = a := ⟨_, rfl⟩
  obtain ⟨b, hb⟩ : ∃ b : Int, p2.toInt = b := ⟨_, rfl⟩
  rw [ha] at r1 r2
  rw [hb] at r3 r4
  have q0 : -2147483648 ≤ a + b ∧ a + b < 2147483648 := by omega
  have q1 : -2147483648 ≤ a + b + -1 ∧ a + b + -1 < 2147483648 := by omega
  have q2 : -2147483648 ≤ a + b + -1 + -1 ∧ a + b + -1 + -1 < 2147483648 := by omega
  have q3 : -2147483648 ≤ a + b + -1 + -1 + -1 ∧ a + b + -1 + -1 + -1 < 2147483648 := by omega
  have q4 : -2147483648 ≤ a + b + -1 + -1 + -1 + -1 ∧ a + b + -1 + -1 + -1 + -1 < 2147483648 := by omega
  have s1 : -2147483648 ≤ a + b - 1 ∧ a + b - 1 < 2147483648 := by omega
  have s2 : -2147483648 ≤ a + b + -1 - 1 ∧ a + b + -1 - 1 < 2147483648 := by omega
  have s3 : -2147483648 ≤ a + b + -1 + -1 - 1 ∧ a + b + -1 + -1 - 1 < 2147483648 := by omega
  have s4 : -2147483648 ≤ a + b + -1 + -1 + -1 - 1 ∧ a + b + -1 + -1 + -1 - 1 < 2147483648 := by omega
  have a0 : v2.toInt = a + b := by rw [hv2]; exact own_addk p1 p2 b hb ha q0.1 q0.2
  have a1 := own_addk v2 (-1) (-1) (by decide) a0 q1.1 q1.2
  have a2 := own_addk (v2 + (-1)) (-1) (-1) (by decide) a1 q2.1 q2.2
  have a3 := own_addk (v2 + (-1) + (-1)) (-1) (-1) (by decide) a2 q3.1 q3.2
  have a4 := own_addk (v2 + (-1) + (-1) + (-1)) (-1) (-1) (by decide) a3 q4.1 q4.2
  have b1 := own_subk v2 1 1 (by decide) a0 s1.1 s1.2
  have b2 := own_subk (v2 + (-1)) 1 1 (by decide) a1 s2.1 s2.2
  have b3 := own_subk (v2 + (-1) + (-1)) 1 1 (by decide) a2 s3.1 s3.2
  have b4 := own_subk (v2 + (-1) + (-1) + (-1)) 1 1 (by decide) a3 s4.1 s4.2
  have k6 : (6 : Int32).toInt = 6 := by decide
  have k0 : (0 : Int32).toInt = 0 := by decide
  simp only [Int32.lt_iff_toInt_lt, ha, a0, a1, a2, a3, a4, b1, b2, b3, b4, k6, k0] at *
  omega
set_option maxRecDepth 65536 in
set_option maxHeartbeats 40000000 in
theorem rm1 (l : Launch) (Z : State) (aw : Array Value) (hw : ∀ d ∈ tables_1, d.before aw Z = true) (ws : List Jvm.Cond) (a0 : Addr) (p1 : Int32) (p2 : Int32) (ka_a0 : ClassId) (vs_a0 : List Int32) (h0 : Heap) (n0 : Nat) (Z0 : n0 ≤ h0.size) (V_a0 : Arv Z h0 a0 ka_a0 .byte (6 : Int32) (List.map Value.int vs_a0) (.int (0 : Int32))) (hr : 0 ≤ (p1 : Int32).toInt ∧ p1.toInt ≤ 2 ∧ 0 ≤ p2.toInt ∧ p2.toInt ≤ 4) :
    MetFree l (⟨"com/example/hyperslab/hyperslab/dataset/DataType", "textLength", "([BII)I"⟩ : MethodName) (head1 (Jvm.Cond.code (⟨"com/example/hyperslab/hyperslab/dataset/DataType", "textLength", "([BII)I"⟩ : MethodName) prog_27_method_6_code 4 (some .int) :: ws) ({ frames := 0, cells := 0, slots := 0, locals := 0 } : Room)) (fun a U => a = #[(.ref a0), (.int p1), (.int p2)] ∧ Z.Warmed39 U.vm ∧ U.heap = h0) (fun _ _ _ _ _ => True) (fun _ U o U' => ∃ v L, o = .returned v ∧ Q1 Z a0 p1 p2 ka_a0 vs_a0 h0 n0 v U'.heap L ∧ FrameEnd U o U' L ({ frames := 0, cells := 0, slots := 0, locals := 0 } : Room).cells ({ frames := 0, cells := 0, slots := 0, locals := 0 } : Room).slots) := by
  refine MetFree.of_bodySF (plainFor_of_name pn_0) hisR ?_
  intro p e s m args below meth c s₁ Bd hml0 hP hK
  obtain ⟨rfl, hZ, hh⟩ := hP
  have hx := Bd.exec
  have hby := Bd.bytes
  have hml : c.maxLocals = 4 := hml0
  have hown : s.vm.findClass "com/example/hyperslab/hyperslab/dataset/DataType" = some m.cls := findClass_of_methodNamed Bd.named
  have hnm := (name_of_methodNamed Bd.named Bd.method).1
  have X0 : Stand p l e ({ frames := 0, cells := 0, slots := 0, locals := 0 } : Room) s m #[(.ref a0), (.int p1), (.int p2)] below meth c s₁ [] 0 0 := Stand.of_body Bd
  have e0 : s₁.heap = h0 := by rw [← hh, Bd.state]; rfl
  have N0 := Fr.nil n0
  have pre0 : ∀ t, Steps p.tables e below (s₁.setTop (mkF m 0 #[.val (.ref a0), .val (.int p1), .val (.int p2), .unset] [])) t → Steps p.tables e below (s₁.setTop (entryFrame m #[(.ref a0), (.int p1), (.int p2)] 4)) t := fun t k => castTop (ef_1 m a0 p1 p2) k
  have pre1 : ∀ t, Steps p.tables e below (s₁.setTop (mkF m 3 #[.val (.ref a0), .val (.int p1), .val (.int p2), .unset] [(.int (p1 + p2))])) t → Steps p.tables e below (s₁.setTop (entryFrame m #[(.ref a0), (.int p1), (.int p2)] 4)) t := fun t k => pre0 t (by
    show Steps p.tables e below (s₁.setTop (mkF m 0 #[.val (.ref a0), .val (.int p1), .val (.int p2), .unset] [])) _
    refine XS.iloadN X0.here hx rfl (hb hby d1_0) rfl ?_
    show Steps p.tables e below (s₁.setTop (mkF m 1 #[.val (.ref a0), .val (.int p1), .val (.int p2), .unset] [(.int p1)])) _
    refine XS.iloadN X0.here hx rfl (hb hby d1_1) rfl ?_
    show Steps p.tables e below (s₁.setTop (mkF m 2 #[.val (.ref a0), .val (.int p1), .val (.int p2), .unset] [(.int p2), (.int p1)])) _
    refine XS.iadd X0.here hx rfl (hb hby d1_2) rfl ?_
    exact k)
  obtain ⟨v2, hv2⟩ : ∃ z : Int32, z = (p1 + p2) := ⟨_, rfl⟩
  have pre3 : ∀ t, Steps p.tables e below (s₁.setTop (mkF m 3 #[.val (.ref a0), .val (.int p1), .val (.int p2), .unset] [(.int v2)])) t → Steps p.tables e below (s₁.setTop (entryFrame m #[(.ref a0), (.int p1), (.int p2)] 4)) t := fun t k => pre1 t (by rw [hv2] at k; exact k)
  have pre4 : ∀ t, Steps p.tables e below (s₁.setTop (mkF m 6 #[.val (.ref a0), .val (.int p1), .val (.int p2), .val (.int v2)] [(.int p1), (.int v2)])) t → Steps p.tables e below (s₁.setTop (entryFrame m #[(.ref a0), (.int p1), (.int p2)] 4)) t := fun t k => pre3 t (by
    show Steps p.tables e below (s₁.setTop (mkF m 3 #[.val (.ref a0), .val (.int p1), .val (.int p2), .unset] [(.int v2)])) _
    refine XS.istoreN X0.here hx rfl (hb hby d1_3) rfl (l' := #[.val (.ref a0), .val (.int p1), .val (.int p2), .val (.int v2)]) rfl ?_
    show Steps p.tables e below (s₁.setTop (mkF m 4 #[.val (.ref a0), .val (.int p1), .val (.int p2), .val (.int v2)] [])) _
    refine XS.iloadN X0.here hx rfl (hb hby d1_4) rfl ?_
    show Steps p.tables e below (s₁.setTop (mkF m 5 #[.val (.ref a0), .val (.int p1), .val (.int p2), .val (.int v2)] [(.int v2)])) _
    refine XS.iloadN X0.here hx rfl (hb hby d1_5) rfl ?_
    exact k)
  obtain ⟨j28, hj28, pre29⟩ : ∃ (j28 : Int32), j28 = (if p1 < v2 then (if (own_get vs_a0 (v2 - (1 : Int32))) = (0 : Int32) then (if p1 < (v2 + (-1 : Int32)) then (if (own_get vs_a0 ((v2 + (-1 : Int32)) - (1 : Int32))) = (0 : Int32) then (if p1 < ((v2 + (-1 : Int32)) + (-1 : Int32)) then (if (own_get vs_a0 (((v2 + (-1 : Int32)) + (-1 : Int32)) - (1 : Int32))) = (0 : Int32) then (if p1 < (((v2 + (-1 : Int32)) + (-1 : Int32)) + (-1 : Int32)) then (if (own_get vs_a0 ((((v2 + (-1 : Int32)) + (-1 : Int32)) + (-1 : Int32)) - (1 : Int32))) = (0 : Int32) then ((((v2 + (-1 : Int32)) + (-1 : Int32)) + (-1 : Int32)) + (-1 : Int32)) else (((v2 + (-1 : Int32)) + (-1 : Int32)) + (-1 : Int32))) else (((v2 + (-1 : Int32)) + (-1 : Int32)) + (-1 : Int32))) else ((v2 + (-1 : Int32)) + (-1 : Int32))) else ((v2 + (-1 : Int32)) + (-1 : Int32))) else (v2 + (-1 : Int32))) else (v2 + (-1 : Int32))) else v2) else v2) ∧ ∀ t, Steps p.tables e below (s₁.setTop (mkF m 23 #[.val (.ref a0), .val (.int p1), .val (.int p2), .val (.int j28)] [])) t → Steps p.tables e below (s₁.setTop (entryFrame m #[(.ref a0), (.int p1), (.int p2)] 4)) t := by
    by_cases hc5 : p1 < v2
    · have pre6 : ∀ t, Steps p.tables e below (s₁.setTop (mkF m 13 #[.val (.ref a0), .val (.int p1), .val (.int p2), .val (.int v2)] [(.int (v2 - (1 : Int32))), (.ref a0)])) t → Steps p.tables e below (s₁.setTop (entryFrame m #[(.ref a0), (.int p1), (.int p2)] 4)) t := fun t k => pre4 t (by
        show Steps p.tables e below (s₁.setTop (mkF m 6 #[.val (.ref a0), .val (.int p1), .val (.int p2), .val (.int v2)] [(.int p1), (.int v2)])) _
        refine XS.icmpNo X0.here hx rfl (hb hby d1_6) rfl (tlt hc5).2.2.2 ?_
        show Steps p.tables e below (s₁.setTop (mkF m 9 #[.val (.ref a0), .val (.int p1), .val (.int p2), .val (.int v2)] [])) _
        refine XS.aloadN X0.here hx rfl (hb hby d1_9) rfl rfl ?_
        show Steps p.tables e below (s₁.setTop (mkF m 10 #[.val (.ref a0), .val (.int p1), .val (.int p2), .val (.int v2)] [(.ref a0)])) _
        refine XS.iloadN X0.here hx rfl (hb hby d1_10) rfl ?_
        show Steps p.tables e below (s₁.setTop (mkF m 11 #[.val (.ref a0), .val (.int p1), .val (.int p2), .val (.int v2)] [(.int v2), (.ref a0)])) _
        refine XS.iconst X0.here hx rfl (hb hby d1_11) ?_
        show Steps p.tables e below (s₁.setTop (mkF m 12 #[.val (.ref a0), .val (.int p1), .val (.int p2), .val (.int v2)] [(.int (1 : Int32)), (.int v2), (.ref a0)])) _
        refine XS.isub X0.here hx rfl (hb hby d1_12) rfl ?_
        exact k)
      have kown_in1_13_1 : ¬ (v2 - (1 : Int32)) < 0 ∧ (v2 - (1 : Int32)) < (6 : Int32) := own_in1_13_1 p1 p2 vs_a0 hr v2 hv2 hc5
      obtain ⟨cl7, Ar7, q7, S7, M7, H7, G7⟩ := id V_a0
      have hin7 : ¬ ((v2 - (1 : Int32)) < 0 ∨ cl7.slots.size ≤ ((v2 - (1 : Int32))).toNatClampNeg) := inb_of S7 kown_in1_13_1
      have hat7 : cl7.slots[((v2 - (1 : Int32))).toNatClampNeg]? = some (.int (own_get vs_a0 (v2 - (1 : Int32)))) := H7.at hin7 (own_getD vs_a0 (v2 - (1 : Int32)))
      have pre8 : ∀ t, Steps p.tables e below (s₁.setTop (mkF m 14 #[.val (.ref a0), .val (.int p1), .val (.int p2), .val (.int v2)] [(.int (own_get vs_a0 (v2 - (1 : Int32))))])) t → Steps p.tables e below (s₁.setTop (entryFrame m #[(.ref a0), (.int p1), (.int p2)] 4)) t := fun t k => pre6 t (by
        show Steps p.tables e below (s₁.setTop (mkF m 13 #[.val (.ref a0), .val (.int p1), .val (.int p2), .val (.int v2)] [(.int (v2 - (1 : Int32))), (.ref a0)])) _
        refine X0.baloadBytes hx (j := (v2 - (1 : Int32))) (v := (.int (own_get vs_a0 (v2 - (1 : Int32))))) (by rw [e0]; exact Ar7.1) (State.isArrayOf_alike hZ.alike Ar7.2.1) Ar7.2.2 hin7 hat7 (g := (mkF m 13 #[.val (.ref a0), .val (.int p1), .val (.int p2), .val (.int v2)] [(.int (v2 - (1 : Int32))), (.ref a0)])) rfl rfl (hb hby d1_13) _ ?_
        exact k)
      by_cases hc9 : (own_get vs_a0 (v2 - (1 : Int32))) = (0 : Int32)
      · have pre10 : ∀ t, Steps p.tables e below (s₁.setTop (mkF m 6 #[.val (.ref a0), .val (.int p1), .val (.int p2), .val (.int (v2 + (-1 : Int32)))] [(.int p1), (.int (v2 + (-1 : Int32)))])) t → Steps p.tables e below (s₁.setTop (entryFrame m #[(.ref a0), (.int p1), (.int p2)] 4)) t := fun t k => pre8 t (by
          show Steps p.tables e below (s₁.setTop (mkF m 14 #[.val (.ref a0), .val (.int p1), .val (.int p2), .val (.int v2)] [(.int (own_get vs_a0 (v2 - (1 : Int32))))])) _
          refine XS.ifNo X0.here hx rfl (hb hby d1_14) rfl ((if0 _ _).trans (teq hc9).2) ?_
          show Steps p.tables e below (s₁.setTop (mkF m 17 #[.val (.ref a0), .val (.int p1), .val (.int p2), .val (.int v2)] [])) _
          refine XS.iinc X0.here hx rfl (hb hby d1_17) rfl (l' := #[.val (.ref a0), .val (.int p1), .val (.int p2), .val (.int (v2 + (-1 : Int32)))]) rfl ?_
          show Steps p.tables e below (s₁.setTop (mkF m 20 #[.val (.ref a0), .val (.int p1), .val (.int p2), .val (.int (v2 + (-1 : Int32)))] [])) _
          refine XS.goto X0.here hx rfl (pc0 := 20) (pc' := 4) rfl (hb hby d1_20) (by decide) (by decide) ?_
          show Steps p.tables e below (s₁.setTop (mkF m 4 #[.val (.ref a0), .val (.int p1), .val (.int p2), .val (.int (v2 + (-1 : Int32)))] [])) _
          refine XS.iloadN X0.here hx rfl (hb hby d1_4) rfl ?_
          show Steps p.tables e below (s₁.setTop (mkF m 5 #[.val (.ref a0), .val (.int p1), .val (.int p2), .val (.int (v2 + (-1 : Int32)))] [(.int (v2 + (-1 : Int32)))])) _
          refine XS.iloadN X0.here hx rfl (hb hby d1_5) rfl ?_
          exact k)
        by_cases hc11 : p1 < (v2 + (-1 : Int32))
        · have pre12 : ∀ t, Steps p.tables e below (s₁.setTop (mkF m 13 #[.val (.ref a0), .val (.int p1), .val (.int p2), .val (.int (v2 + (-1 : Int32)))] [(.int ((v2 + (-1 : Int32)) - (1 : Int32))), (.ref a0)])) t → Steps p.tables e below (s₁.setTop (entryFrame m #[(.ref a0), (.int p1), (.int p2)] 4)) t := fun t k => pre10 t (by
            show Steps p.tables e below (s₁.setTop (mkF m 6 #[.val (.ref a0), .val (.int p1), .val (.int p2), .val (.int (v2 + (-1 : Int32)))] [(.int p1), (.int (v2 + (-1 : Int32)))])) _
            refine XS.icmpNo X0.here hx rfl (hb hby d1_6) rfl (tlt hc11).2.2.2 ?_
            show Steps p.tables e below (s₁.setTop (mkF m 9 #[.val (.ref a0), .val (.int p1), .val (.int p2), .val (.int (v2 + (-1 : Int32)))] [])) _
            refine XS.aloadN X0.here hx rfl (hb hby d1_9) rfl rfl ?_
            show Steps p.tables e below (s₁.setTop (mkF m 10 #[.val (.ref a0), .val (.int p1), .val (.int p2), .val (.int (v2 + (-1 : Int32)))] [(.ref a0)])) _
            refine XS.iloadN X0.here hx rfl (hb hby d1_10) rfl ?_
            show Steps p.tables e below (s₁.setTop (mkF m 11 #[.val (.ref a0), .val (.int p1), .val (.int p2), .val (.int (v2 + (-1 : Int32)))] [(.int (v2 + (-1 : Int32))), (.ref a0)])) _
            refine XS.iconst X0.here hx rfl (hb hby d1_11) ?_
            show Steps p.tables e below (s₁.setTop (mkF m 12 #[.val (.ref a0), .val (.int p1), .val (.int p2), .val (.int (v2 + (-1 : Int32)))] [(.int (1 : Int32)), (.int (v2 + (-1 : Int32))), (.ref a0)])) _
            refine XS.isub X0.here hx rfl (hb hby d1_12) rfl ?_
            exact k)
          have kown_in1_13_2 : ¬ ((v2 + (-1 : Int32)) - (1 : Int32)) < 0 ∧ ((v2 + (-1 : Int32)) - (1 : Int32)) < (6 : Int32) := own_in1_13_2 p1 p2 vs_a0 hr v2 hv2 hc5 hc9 hc11
          obtain ⟨cl13, Ar13, q13, S13, M13, H13, G13⟩ := id V_a0
          have hin13 : ¬ (((v2 + (-1 : Int32)) - (1 : Int32)) < 0 ∨ cl13.slots.size ≤ (((v2 + (-1 : Int32)) - (1 : Int32))).toNatClampNeg) := inb_of S13 kown_in1_13_2
          have hat13 : cl13.slots[(((v2 + (-1 : Int32)) - (1 : Int32))).toNatClampNeg]? = some (.int (own_get vs_a0 ((v2 + (-1 : Int32)) - (1 : Int32)))) := H13.at hin13 (own_getD vs_a0 ((v2 + (-1 : Int32)) - (1 : Int32)))
          have pre14 : ∀ t, Steps p.tables e below (s₁.setTop (mkF m 14 #[.val (.ref a0), .val (.int p1), .val (.int p2), .val (.int (v2 + (-1 : Int32)))] [(.int (own_get vs_a0 ((v2 + (-1 : Int32)) - (1 : Int32))))])) t → Steps p.tables e below (s₁.setTop (entryFrame m #[(.ref a0), (.int p1), (.int p2)] 4)) t := fun t k => pre12 t (by
            show Steps p.tables e below (s₁.setTop (mkF m 13 #[.val (.ref a0), .val (.int p1), .val (.int p2), .val (.int (v2 + (-1 : Int32)))] [(.int ((v2 + (-1 : Int32)) - (1 : Int32))), (.ref a0)])) _
            refine X0.baloadBytes hx (j := ((v2 + (-1 : Int32)) - (1 : Int32))) (v := (.int (own_get vs_a0 ((v2 + (-1 : Int32)) - (1 : Int32))))) (by rw [e0]; exact Ar13.1) (State.isArrayOf_alike hZ.alike Ar13.2.1) Ar13.2.2 hin13 hat13 (g := (mkF m 13 #[.val (.ref a0), .val (.int p1), .val (.int p2), .val (.int (v2 + (-1 : Int32)))] [(.int ((v2 + (-1 : Int32)) - (1 : Int32))), (.ref a0)])) rfl rfl (hb hby d1_13) _ ?_
            exact k)
          by_cases hc15 : (own_get vs_a0 ((v2 + (-1 : Int32)) - (1 : Int32))) = (0 : Int32)
          · have pre16 : ∀ t, Steps p.tables e below (s₁.setTop (mkF m 6 #[.val (.ref a0), .val (.int p1), .val (.int p2), .val (.int ((v2 + (-1 : Int32)) + (-1 : Int32)))] [(.int p1), (.int ((v2 + (-1 : Int32)) + (-1 : Int32)))])) t → Steps p.tables e below (s₁.setTop (entryFrame m #[(.ref a0), (.int p1), (.int p2)] 4)) t := fun t k => pre14 t (by
              show Steps p.tables e below (s₁.setTop (mkF m 14 #[.val (.ref a0), .val (.int p1), .val (.int p2), .val (.int (v2 + (-1 : Int32)))] [(.int (own_get vs_a0 ((v2 + (-1 : Int32)) - (1 : Int32))))])) _
              refine XS.ifNo X0.here hx rfl (hb hby d1_14) rfl ((if0 _ _).trans (teq hc15).2) ?_
              show Steps p.tables e below (s₁.setTop (mkF m 17 #[.val (.ref a0), .val (.int p1), .val (.int p2), .val (.int (v2 + (-1 : Int32)))] [])) _
              refine XS.iinc X0.here hx rfl (hb hby d1_17) rfl (l' := #[.val (.ref a0), .val (.int p1), .val (.int p2), .val (.int ((v2 + (-1 : Int32)) + (-1 : Int32)))]) rfl ?_
              show Steps p.tables e below (s₁.setTop (mkF m 20 #[.val (.ref a0), .val (.int p1), .val (.int p2), .val (.int ((v2 + (-1 : Int32)) + (-1 : Int32)))] [])) _
              refine XS.goto X0.here hx rfl (pc0 := 20) (pc' := 4) rfl (hb hby d1_20) (by decide) (by decide) ?_
              show Steps p.tables e below (s₁.setTop (mkF m 4 #[.val (.ref a0), .val (.int p1), .val (.int p2), .val (.int ((v2 + (-1 : Int32)) + (-1 : Int32)))] [])) _
              refine XS.iloadN X0.here hx rfl (hb hby d1_4) rfl ?_
              show Steps p.tables e below (s₁.setTop (mkF m 5 #[.val (.ref a0), .val (.int p1), .val (.int p2), .val (.int ((v2 + (-1 : Int32)) + (-1 : Int32)))] [(.int ((v2 + (-1 : Int32)) + (-1 : Int32)))])) _
              refine XS.iloadN X0.here hx rfl (hb hby d1_5) rfl ?_
              exact k)
            by_cases hc17 : p1 < ((v2 + (-1 : Int32)) + (-1 : Int32))
            · have pre18 : ∀ t, Steps p.tables e below (s₁.setTop (mkF m 13 #[.val (.ref a0), .val (.int p1), .val (.int p2), .val (.int ((v2 + (-1 : Int32)) + (-1 : Int32)))] [(.int (((v2 + (-1 : Int32)) + (-1 : Int32)) - (1 : Int32))), (.ref a0)])) t → Steps p.tables e below (s₁.setTop (entryFrame m #[(.ref a0), (.int p1), (.int p2)] 4)) t := fun t k => pre16 t (by
                show Steps p.tables e below (s₁.setTop (mkF m 6 #[.val (.ref a0), .val (.int p1), .val (.int p2), .val (.int ((v2 + (-1 : Int32)) + (-1 : Int32)))] [(.int p1), (.int ((v2 + (-1 : Int32)) + (-1 : Int32)))])) _
                refine XS.icmpNo X0.here hx rfl (hb hby d1_6) rfl (tlt hc17).2.2.2 ?_
                show Steps p.tables e below (s₁.setTop (mkF m 9 #[.val (.ref a0), .val (.int p1), .val (.int p2), .val (.int ((v2 + (-1 : Int32)) + (-1 : Int32)))] [])) _
                refine XS.aloadN X0.here hx rfl (hb hby d1_9) rfl rfl ?_
                show Steps p.tables e below (s₁.setTop (mkF m 10 #[.val (.ref a0), .val (.int p1), .val (.int p2), .val (.int ((v2 + (-1 : Int32)) + (-1 : Int32)))] [(.ref a0)])) _
                refine XS.iloadN X0.here hx rfl (hb hby d1_10) rfl ?_
                show Steps p.tables e below (s₁.setTop (mkF m 11 #[.val (.ref a0), .val (.int p1), .val (.int p2), .val (.int ((v2 + (-1 : Int32)) + (-1 : Int32)))] [(.int ((v2 + (-1 : Int32)) + (-1 : Int32))), (.ref a0)])) _
                refine XS.iconst X0.here hx rfl (hb hby d1_11) ?_
                show Steps p.tables e below (s₁.setTop (mkF m 12 #[.val (.ref a0), .val (.int p1), .val (.int p2), .val (.int ((v2 + (-1 : Int32)) + (-1 : Int32)))] [(.int (1 : Int32)), (.int ((v2 + (-1 : Int32)) + (-1 : Int32))), (.ref a0)])) _
                refine XS.isub X0.here hx rfl (hb hby d1_12) rfl ?_
                exact k)
              have kown_in1_13_3 : ¬ (((v2 + (-1 : Int32)) + (-1 : Int32)) - (1 : Int32)) < 0 ∧ (((v2 + (-1 : Int32)) + (-1 : Int32)) - (1 : Int32)) < (6 : Int32) := own_in1_13_3 p1 p2 vs_a0 hr v2 hv2 hc5 hc9 hc11 hc15 hc17
              obtain ⟨cl19, Ar19, q19, S19, M19, H19, G19⟩ := id V_a0
              have hin19 : ¬ ((((v2 + (-1 : Int32)) + (-1 : Int32)) - (1 : Int32)) < 0 ∨ cl19.slots.size ≤ ((((v2 + (-1 : Int32)) + (-1 : Int32)) - (1 : Int32))).toNatClampNeg) := inb_of S19 kown_in1_13_3
              have hat19 : cl19.slots[((((v2 + (-1 : Int32)) + (-1 : Int32)) - (1 : Int32))).toNatClampNeg]? = some (.int (own_get vs_a0 (((v2 + (-1 : Int32)) + (-1 : Int32)) - (1 : Int32)))) := H19.at hin19 (own_getD vs_a0 (((v2 + (-1 : Int32)) + (-1 : Int32)) - (1 : Int32)))
              have pre20 : ∀ t, Steps p.tables e below (s₁.setTop (mkF m 14 #[.val (.ref a0), .val (.int p1), .val (.int p2), .val (.int ((v2 + (-1 : Int32)) + (-1 : Int32)))] [(.int (own_get vs_a0 (((v2 + (-1 : Int32)) + (-1 : Int32)) - (1 : Int32))))])) t → Steps p.tables e below (s₁.setTop (entryFrame m #[(.ref a0), (.int p1), (.int p2)] 4)) t := fun t k => pre18 t (by
                show Steps p.tables e below (s₁.setTop (mkF m 13 #[.val (.ref a0), .val (.int p1), .val (.int p2), .val (.int ((v2 + (-1 : Int32)) + (-1 : Int32)))] [(.int (((v2 + (-1 : Int32)) + (-1 : Int32)) - (1 : Int32))), (.ref a0)])) _
                refine X0.baloadBytes hx (j := (((v2 + (-1 : Int32)) + (-1 : Int32)) - (1 : Int32))) (v := (.int (own_get vs_a0 (((v2 + (-1 : Int32)) + (-1 : Int32)) - (1 : Int32))))) (by rw [e0]; exact Ar19.1) (State.isArrayOf_alike hZ.alike Ar19.2.1) Ar19.2.2 hin19 hat19 (g := (mkF m 13 #[.val (.ref a0), .val (.int p1), .val (.int p2), .val (.int ((v2 + (-1 : Int32)) + (-1 : Int32)))] [(.int (((v2 + (-1 : Int32)) + (-1 : Int32)) - (1 : Int32))), (.ref a0)])) rfl rfl (hb hby d1_13) _ ?_
                exact k)
              by_cases hc21 : (own_get vs_a0 (((v2 + (-1 : Int32)) + (-1 : Int32)) - (1 : Int32))) = (0 : Int32)
              · have pre22 : ∀ t, Steps p.tables e below (s₁.setTop (mkF m 6 #[.val (.ref a0), .val (.int p1), .val (.int p2), .val (.int (((v2 + (-1 : Int32)) + (-1 : Int32)) + (-1 : Int32)))] [(.int p1), (.int (((v2 + (-1 : Int32)) + (-1 : Int32)) + (-1 : Int32)))])) t → Steps p.tables e below (s₁.setTop (entryFrame m #[(.ref a0), (.int p1), (.int p2)] 4)) t := fun t k => pre20 t (by
                  show Steps p.tables e below (s₁.setTop (mkF m 14 #[.val (.ref a0), .val (.int p1), .val (.int p2), .val (.int ((v2 + (-1 : Int32)) + (-1 : Int32)))] [(.int (own_get vs_a0 (((v2 + (-1 : Int32)) + (-1 : Int32)) - (1 : Int32))))])) _
                  refine XS.ifNo X0.here hx rfl (hb hby d1_14) rfl ((if0 _ _).trans (teq hc21).2) ?_
                  show Steps p.tables e below (s₁.setTop (mkF m 17 #[.val (.ref a0), .val (.int p1), .val (.int p2), .val (.int ((v2 + (-1 : Int32)) + (-1 : Int32)))] [])) _
                  refine XS.iinc X0.here hx rfl (hb hby d1_17) rfl (l' := #[.val (.ref a0), .val (.int p1), .val (.int p2), .val (.int (((v2 + (-1 : Int32)) + (-1 : Int32)) + (-1 : Int32)))]) rfl ?_
                  show Steps p.tables e below (s₁.setTop (mkF m 20 #[.val (.ref a0), .val (.int p1), .val (.int p2), .val (.int (((v2 + (-1 : Int32)) + (-1 : Int32)) + (-1 : Int32)))] [])) _
                  refine XS.goto X0.here hx rfl (pc0 := 20) (pc' := 4) rfl (hb hby d1_20) (by decide) (by decide) ?_
                  show Steps p.tables e below (s₁.setTop (mkF m 4 #[.val (.ref a0), .val (.int p1), .val (.int p2), .val (.int (((v2 + (-1 : Int32)) + (-1 : Int32)) + (-1 : Int32)))] [])) _
                  refine XS.iloadN X0.here hx rfl (hb hby d1_4) rfl ?_
                  show Steps p.tables e below (s₁.setTop (mkF m 5 #[.val (.ref a0), .val (.int p1), .val (.int p2), .val (.int (((v2 + (-1 : Int32)) + (-1 : Int32)) + (-1 : Int32)))] [(.int (((v2 + (-1 : Int32)) + (-1 : Int32)) + (-1 : Int32)))])) _
                  refine XS.iloadN X0.here hx rfl (hb hby d1_5) rfl ?_
                  exact k)
                by_cases hc23 : p1 < (((v2 + (-1 : Int32)) + (-1 : Int32)) + (-1 : Int32))
                · have pre24 : ∀ t, Steps p.tables e below (s₁.setTop (mkF m 13 #[.val (.ref a0), .val (.int p1), .val (.int p2), .val (.int (((v2 + (-1 : Int32)) + (-1 : Int32)) + (-1 : Int32)))] [(.int ((((v2 + (-1 : Int32)) + (-1 : Int32)) + (-1 : Int32)) - (1 : Int32))), (.ref a0)])) t → Steps p.tables e below (s₁.setTop (entryFrame m #[(.ref a0), (.int p1), (.int p2)] 4)) t := fun t k => pre22 t (by
                    show Steps p.tables e below (s₁.setTop (mkF m 6 #[.val (.ref a0), .val (.int p1), .val (.int p2), .val (.int (((v2 + (-1 : Int32)) + (-1 : Int32)) + (-1 : Int32)))] [(.int p1), (.int (((v2 + (-1 : Int32)) + (-1 : Int32)) + (-1 : Int32)))])) _
                    refine XS.icmpNo X0.here hx rfl (hb hby d1_6) rfl (tlt hc23).2.2.2 ?_
                    show Steps p.tables e below (s₁.setTop (mkF m 9 #[.val (.ref a0), .val (.int p1), .val (.int p2), .val (.int (((v2 + (-1 : Int32)) + (-1 : Int32)) + (-1 : Int32)))] [])) _
                    refine XS.aloadN X0.here hx rfl (hb hby d1_9) rfl rfl ?_
                    show Steps p.tables e below (s₁.setTop (mkF m 10 #[.val (.ref a0), .val (.int p1), .val (.int p2), .val (.int (((v2 + (-1 : Int32)) + (-1 : Int32)) + (-1 : Int32)))] [(.ref a0)])) _
                    refine XS.iloadN X0.here hx rfl (hb hby d1_10) rfl ?_
                    show Steps p.tables e below (s₁.setTop (mkF m 11 #[.val (.ref a0), .val (.int p1), .val (.int p2), .val (.int (((v2 + (-1 : Int32)) + (-1 : Int32)) + (-1 : Int32)))] [(.int (((v2 + (-1 : Int32)) + (-1 : Int32)) + (-1 : Int32))), (.ref a0)])) _
                    refine XS.iconst X0.here hx rfl (hb hby d1_11) ?_
                    show Steps p.tables e below (s₁.setTop (mkF m 12 #[.val (.ref a0), .val (.int p1), .val (.int p2), .val (.int (((v2 + (-1 : Int32)) + (-1 : Int32)) + (-1 : Int32)))] [(.int (1 : Int32)), (.int (((v2 + (-1 : Int32)) + (-1 : Int32)) + (-1 : Int32))), (.ref a0)])) _
                    refine XS.isub X0.here hx rfl (hb hby d1_12) rfl ?_
                    exact k)
                  have kown_in1_13_4 : ¬ ((((v2 + (-1 : Int32)) + (-1 : Int32)) + (-1 : Int32)) - (1 : Int32)) < 0 ∧ ((((v2 + (-1 : Int32)) + (-1 : Int32)) + (-1 : Int32)) - (1 : Int32)) < (6 : Int32) := own_in1_13_4 p1 p2 vs_a0 hr v2 hv2 hc5 hc9 hc11 hc15 hc17 hc21 hc23
                  obtain ⟨cl25, Ar25, q25, S25, M25, H25, G25⟩ := id V_a0
                  have hin25 : ¬ (((((v2 + (-1 : Int32)) + (-1 : Int32)) + (-1 : Int32)) - (1 : Int32)) < 0 ∨ cl25.slots.size ≤ (((((v2 + (-1 : Int32)) + (-1 : Int32)) + (-1 : Int32)) - (1 : Int32))).toNatClampNeg) := inb_of S25 kown_in1_13_4
                  have hat25 : cl25.slots[(((((v2 + (-1 : Int32)) + (-1 : Int32)) + (-1 : Int32)) - (1 : Int32))).toNatClampNeg]? = some (.int (own_get vs_a0 ((((v2 + (-1 : Int32)) + (-1 : Int32)) + (-1 : Int32)) - (1 : Int32)))) := H25.at hin25 (own_getD vs_a0 ((((v2 + (-1 : Int32)) + (-1 : Int32)) + (-1 : Int32)) - (1 : Int32)))
                  have pre26 : ∀ t, Steps p.tables e below (s₁.setTop (mkF m 14 #[.val (.ref a0), .val (.int p1), .val (.int p2), .val (.int (((v2 + (-1 : Int32)) + (-1 : Int32)) + (-1 : Int32)))] [(.int (own_get vs_a0 ((((v2 + (-1 : Int32)) + (-1 : Int32)) + (-1 : Int32)) - (1 : Int32))))])) t → Steps p.tables e below (s₁.setTop (entryFrame m #[(.ref a0), (.int p1), (.int p2)] 4)) t := fun t k => pre24 t (by
                    show Steps p.tables e below (s₁.setTop (mkF m 13 #[.val (.ref a0), .val (.int p1), .val (.int p2), .val (.int (((v2 + (-1 : Int32)) + (-1 : Int32)) + (-1 : Int32)))] [(.int ((((v2 + (-1 : Int32)) + (-1 : Int32)) + (-1 : Int32)) - (1 : Int32))), (.ref a0)])) _
                    refine X0.baloadBytes hx (j := ((((v2 + (-1 : Int32)) + (-1 : Int32)) + (-1 : Int32)) - (1 : Int32))) (v := (.int (own_get vs_a0 ((((v2 + (-1 : Int32)) + (-1 : Int32)) + (-1 : Int32)) - (1 : Int32))))) (by rw [e0]; exact Ar25.1) (State.isArrayOf_alike hZ.alike Ar25.2.1) Ar25.2.2 hin25 hat25 (g := (mkF m 13 #[.val (.ref a0), .val (.int p1), .val (.int p2), .val (.int (((v2 + (-1 : Int32)) + (-1 : Int32)) + (-1 : Int32)))] [(.int ((((v2 + (-1 : Int32)) + (-1 : Int32)) + (-1 : Int32)) - (1 : Int32))), (.ref a0)])) rfl rfl (hb hby d1_13) _ ?_
                    exact k)
                  by_cases hc27 : (own_get vs_a0 ((((v2 + (-1 : Int32)) + (-1 : Int32)) + (-1 : Int32)) - (1 : Int32))) = (0 : Int32)
                  · have kown_end : ¬ (p1 < ((((v2 + (-1 : Int32)) + (-1 : Int32)) + (-1 : Int32)) + (-1 : Int32))) := own_end p1 p2 vs_a0 hr v2 hv2 hc5 hc9 hc11 hc15 hc17 hc21 hc23 hc27
                    exact ⟨((((v2 + (-1 : Int32)) + (-1 : Int32)) + (-1 : Int32)) + (-1 : Int32)), (by rw [if_pos hc5, if_pos hc9, if_pos hc11, if_pos hc15, if_pos hc17, if_pos hc21, if_pos hc23, if_pos hc27]), fun t k => pre26 t (by
                      show Steps p.tables e below (s₁.setTop (mkF m 14 #[.val (.ref a0), .val (.int p1), .val (.int p2), .val (.int (((v2 + (-1 : Int32)) + (-1 : Int32)) + (-1 : Int32)))] [(.int (own_get vs_a0 ((((v2 + (-1 : Int32)) + (-1 : Int32)) + (-1 : Int32)) - (1 : Int32))))])) _
                      refine XS.ifNo X0.here hx rfl (hb hby d1_14) rfl ((if0 _ _).trans (teq hc27).2) ?_
                      show Steps p.tables e below (s₁.setTop (mkF m 17 #[.val (.ref a0), .val (.int p1), .val (.int p2), .val (.int (((v2 + (-1 : Int32)) + (-1 : Int32)) + (-1 : Int32)))] [])) _
                      refine XS.iinc X0.here hx rfl (hb hby d1_17) rfl (l' := #[.val (.ref a0), .val (.int p1), .val (.int p2), .val (.int ((((v2 + (-1 : Int32)) + (-1 : Int32)) + (-1 : Int32)) + (-1 : Int32)))]) rfl ?_
                      show Steps p.tables e below (s₁.setTop (mkF m 20 #[.val (.ref a0), .val (.int p1), .val (.int p2), .val (.int ((((v2 + (-1 : Int32)) + (-1 : Int32)) + (-1 : Int32)) + (-1 : Int32)))] [])) _
                      refine XS.goto X0.here hx rfl (pc0 := 20) (pc' := 4) rfl (hb hby d1_20) (by decide) (by decide) ?_
                      show Steps p.tables e below (s₁.setTop (mkF m 4 #[.val (.ref a0), .val (.int p1), .val (.int p2), .val (.int ((((v2 + (-1 : Int32)) + (-1 : Int32)) + (-1 : Int32)) + (-1 : Int32)))] [])) _
                      refine XS.iloadN X0.here hx rfl (hb hby d1_4) rfl ?_
                      show Steps p.tables e below (s₁.setTop (mkF m 5 #[.val (.ref a0), .val (.int p1), .val (.int p2), .val (.int ((((v2 + (-1 : Int32)) + (-1 : Int32)) + (-1 : Int32)) + (-1 : Int32)))] [(.int ((((v2 + (-1 : Int32)) + (-1 : Int32)) + (-1 : Int32)) + (-1 : Int32)))])) _
                      refine XS.iloadN X0.here hx rfl (hb hby d1_5) rfl ?_
                      show Steps p.tables e below (s₁.setTop (mkF m 6 #[.val (.ref a0), .val (.int p1), .val (.int p2), .val (.int ((((v2 + (-1 : Int32)) + (-1 : Int32)) + (-1 : Int32)) + (-1 : Int32)))] [(.int p1), (.int ((((v2 + (-1 : Int32)) + (-1 : Int32)) + (-1 : Int32)) + (-1 : Int32)))])) _
                      refine XS.icmpYes X0.here hx rfl (pc0 := 6) (pc' := 23) rfl (hb hby d1_6) rfl (flt (kown_end : ¬ (p1 < ((((v2 + (-1 : Int32)) + (-1 : Int32)) + (-1 : Int32)) + (-1 : Int32))))).2.2.2 (by decide) (by decide) ?_
                      exact k)⟩
                  · exact ⟨(((v2 + (-1 : Int32)) + (-1 : Int32)) + (-1 : Int32)), (by rw [if_pos hc5, if_pos hc9, if_pos hc11, if_pos hc15, if_pos hc17, if_pos hc21, if_pos hc23, if_neg hc27]), fun t k => pre26 t (by
                      show Steps p.tables e below (s₁.setTop (mkF m 14 #[.val (.ref a0), .val (.int p1), .val (.int p2), .val (.int (((v2 + (-1 : Int32)) + (-1 : Int32)) + (-1 : Int32)))] [(.int (own_get vs_a0 ((((v2 + (-1 : Int32)) + (-1 : Int32)) + (-1 : Int32)) - (1 : Int32))))])) _
                      refine XS.ifYes X0.here hx rfl (pc0 := 14) (pc' := 23) rfl (hb hby d1_14) rfl ((if0 _ _).trans (feq hc27).2) (by decide) (by decide) ?_
                      exact k)⟩
                · exact ⟨(((v2 + (-1 : Int32)) + (-1 : Int32)) + (-1 : Int32)), (by rw [if_pos hc5, if_pos hc9, if_pos hc11, if_pos hc15, if_pos hc17, if_pos hc21, if_neg hc23]), fun t k => pre22 t (by
                    show Steps p.tables e below (s₁.setTop (mkF m 6 #[.val (.ref a0), .val (.int p1), .val (.int p2), .val (.int (((v2 + (-1 : Int32)) + (-1 : Int32)) + (-1 : Int32)))] [(.int p1), (.int (((v2 + (-1 : Int32)) + (-1 : Int32)) + (-1 : Int32)))])) _
                    refine XS.icmpYes X0.here hx rfl (pc0 := 6) (pc' := 23) rfl (hb hby d1_6) rfl (flt hc23).2.2.2 (by decide) (by decide) ?_
                    exact k)⟩
              · exact ⟨((v2 + (-1 : Int32)) + (-1 : Int32)), (by rw [if_pos hc5, if_pos hc9, if_pos hc11, if_pos hc15, if_pos hc17, if_neg hc21]), fun t k => pre20 t (by
                  show Steps p.tables e below (s₁.setTop (mkF m 14 #[.val (.ref a0), .val (.int p1), .val (.int p2), .val (.int ((v2 + (-1 : Int32)) + (-1 : Int32)))] [(.int (own_get vs_a0 (((v2 + (-1 : Int32)) + (-1 : Int32)) - (1 : Int32))))])) _
                  refine XS.ifYes X0.here hx rfl (pc0 := 14) (pc' := 23) rfl (hb hby d1_14) rfl ((if0 _ _).trans (feq hc21).2) (by decide) (by decide) ?_
                  exact k)⟩
            · exact ⟨((v2 + (-1 : Int32)) + (-1 : Int32)), (by rw [if_pos hc5, if_pos hc9, if_pos hc11, if_pos hc15, if_neg hc17]), fun t k => pre16 t (by
                show Steps p.tables e below (s₁.setTop (mkF m 6 #[.val (.ref a0), .val (.int p1), .val (.int p2), .val (.int ((v2 + (-1 : Int32)) + (-1 : Int32)))] [(.int p1), (.int ((v2 + (-1 : Int32)) + (-1 : Int32)))])) _
                refine XS.icmpYes X0.here hx rfl (pc0 := 6) (pc' := 23) rfl (hb hby d1_6) rfl (flt hc17).2.2.2 (by decide) (by decide) ?_
                exact k)⟩
          · exact ⟨(v2 + (-1 : Int32)), (by rw [if_pos hc5, if_pos hc9, if_pos hc11, if_neg hc15]), fun t k => pre14 t (by
              show Steps p.tables e below (s₁.setTop (mkF m 14 #[.val (.ref a0), .val (.int p1), .val (.int p2), .val (.int (v2 + (-1 : Int32)))] [(.int (own_get vs_a0 ((v2 + (-1 : Int32)) - (1 : Int32))))])) _
              refine XS.ifYes X0.here hx rfl (pc0 := 14) (pc' := 23) rfl (hb hby d1_14) rfl ((if0 _ _).trans (feq hc15).2) (by decide) (by decide) ?_
              exact k)⟩
        · exact ⟨(v2 + (-1 : Int32)), (by rw [if_pos hc5, if_pos hc9, if_neg hc11]), fun t k => pre10 t (by
            show Steps p.tables e below (s₁.setTop (mkF m 6 #[.val (.ref a0), .val (.int p1), .val (.int p2), .val (.int (v2 + (-1 : Int32)))] [(.int p1), (.int (v2 + (-1 : Int32)))])) _
            refine XS.icmpYes X0.here hx rfl (pc0 := 6) (pc' := 23) rfl (hb hby d1_6) rfl (flt hc11).2.2.2 (by decide) (by decide) ?_
            exact k)⟩
      · exact ⟨v2, (by rw [if_pos hc5, if_neg hc9]), fun t k => pre8 t (by
          show Steps p.tables e below (s₁.setTop (mkF m 14 #[.val (.ref a0), .val (.int p1), .val (.int p2), .val (.int v2)] [(.int (own_get vs_a0 (v2 - (1 : Int32))))])) _
          refine XS.ifYes X0.here hx rfl (pc0 := 14) (pc' := 23) rfl (hb hby d1_14) rfl ((if0 _ _).trans (feq hc9).2) (by decide) (by decide) ?_
          exact k)⟩
    · exact ⟨v2, (by rw [if_neg hc5]), fun t k => pre4 t (by
        show Steps p.tables e below (s₁.setTop (mkF m 6 #[.val (.ref a0), .val (.int p1), .val (.int p2), .val (.int v2)] [(.int p1), (.int v2)])) _
        refine XS.icmpYes X0.here hx rfl (pc0 := 6) (pc' := 23) rfl (hb hby d1_6) rfl (flt hc5).2.2.2 (by decide) (by decide) ?_
        exact k)⟩
  obtain ⟨fs, hr, hrun, hended, hW, hsame⟩ := X0.leave (v := some (.int (j28 - p1))) (fun h => by rw [Bd.returns] at h; cases h)
  refine ⟨_, _, pre29 _ ?_, hrun, hended, _, _, rfl, ?_, ⟨_, rfl⟩, hW, hsame.mono (by decide) (by decide)⟩
  · show Steps p.tables e below (s₁.setTop (mkF m 23 #[.val (.ref a0), .val (.int p1), .val (.int p2), .val (.int j28)] [])) _
    refine XS.iloadN X0.here hx rfl (hb hby d1_23) rfl ?_
    show Steps p.tables e below (s₁.setTop (mkF m 24 #[.val (.ref a0), .val (.int p1), .val (.int p2), .val (.int j28)] [(.int j28)])) _
    refine XS.iloadN X0.here hx rfl (hb hby d1_24) rfl ?_
    show Steps p.tables e below (s₁.setTop (mkF m 25 #[.val (.ref a0), .val (.int p1), .val (.int p2), .val (.int j28)] [(.int p1), (.int j28)])) _
    refine XS.isub X0.here hx rfl (hb hby d1_25) rfl ?_
    show Steps p.tables e below (s₁.setTop (mkF m 26 #[.val (.ref a0), .val (.int p1), .val (.int p2), .val (.int j28)] [(.int (j28 - p1))])) _
    exact retI X0 hx Bd.returns (hb hby d1_26) hr
  · show Q1 Z a0 p1 p2 ka_a0 vs_a0 h0 n0 _ s₁.heap _
    rw [e0]
    exact ⟨congrArg (fun z => some (Value.int z)) (by subst hj28 hv2; rfl), N0, rfl⟩
theorem pn_1 : plainName "com/example/hyperslab/hyperslab/dataset/DataTypeTextLengthPinLaw" = true := by first | (simp [plainName, overriddenIn]; done) | decide +kernel
theorem pd_0 : parseMethodDescriptor "([BII)I" = some ⟨[(.array .byte), .int, .int], some .int⟩ := by decide +kernel
theorem ef_0 (m : MethodId) (x0 : Int32) (x1 : Int32) (x2 : Int32) (x3 : Int32) : entryFrame m #[(.int x0), (.int x1), (.int x2), (.int x3)] maxLocals = mkF m 0 #[.val (.int x0), .val (.int x1), .val (.int x2), .val (.int x3), .unset, .unset, .unset, .unset, .unset] [] := by first | (simp [entryFrame, mkF, argsToLocals, Value.category, maxLocals]; done) | rfl
def f0 (p0 : Int32) (p1 : Int32) (p2 : Int32) (p3 : Int32) : Int32 := (let j5 : Int32 := (if (p2 &&& (1 : Int32)) = (0 : Int32) then (0 : Int32) else (p0.toInt8.toInt32)); (let j10 : Int32 := (if (p2 &&& (2 : Int32)) = (0 : Int32) then (0 : Int32) else (((p0.toUInt32 >>> ((8 : Int32) &&& 31).toUInt32).toInt32).toInt8.toInt32)); (let j15 : Int32 := (if (p2 &&& (4 : Int32)) = (0 : Int32) then (0 : Int32) else (((p0.toUInt32 >>> ((16 : Int32) &&& 31).toUInt32).toInt32).toInt8.toInt32)); (let j20 : Int32 := (if (p2 &&& (8 : Int32)) = (0 : Int32) then (0 : Int32) else (((p0.toUInt32 >>> ((24 : Int32) &&& 31).toUInt32).toInt32).toInt8.toInt32)); (let j25 : Int32 := (if (p2 &&& (16 : Int32)) = (0 : Int32) then (0 : Int32) else (p1.toInt8.toInt32)); (let j30 : Int32 := (if (p2 &&& (32 : Int32)) = (0 : Int32) then (0 : Int32) else (((p1.toUInt32 >>> ((8 : Int32) &&& 31).toUInt32).toInt32).toInt8.toInt32)); (let vs33 : List Int32 := [(nar .byte j5), (nar .byte j10), (nar .byte j15), (nar .byte j20), (nar .byte j25), (nar .byte j30)]; (let v36 : Int32 := ((p3 &&& (2147483647 : Int32)) % (3 : Int32)); (let v39 : Int32 := ((((p3.toUInt32 >>> ((8 : Int32) &&& 31).toUInt32).toInt32) &&& (2147483647 : Int32)) % (5 : Int32)); (let j47 : Int32 := (if v39 < (1 : Int32) then (0 : Int32) else (if (own_get vs33 v36) = (0 : Int32) then (0 : Int32) else (1 : Int32))); (let j55 : Int32 := (if v39 < (2 : Int32) then j47 else (if (own_get vs33 (v36 + (1 : Int32))) = (0 : Int32) then j47 else (2 : Int32))); (let j63 : Int32 := (if v39 < (3 : Int32) then j55 else (if (own_get vs33 (v36 + (2 : Int32))) = (0 : Int32) then j55 else (3 : Int32))); (let j71 : Int32 := (if v39 < (4 : Int32) then j63 else (if (own_get vs33 (v36 + (3 : Int32))) = (0 : Int32) then j63 else (4 : Int32))); (let v76 : Int32 := (f1 v36 v39 vs33); (let j80 : Int32 := (if v76 = j71 then (1 : Int32) else (0 : Int32)); (nar .boolean j80))))))))))))))))
def Q0 (Z : State) (p0 : Int32) (p1 : Int32) (p2 : Int32) (p3 : Int32) (h0 : Heap) (n0 : Nat) (v : Option Value) (h : Heap) (L : List Loc) : Prop := v = some (.int (1 : Int32)) ∧ Fr n0 L
theorem own_in0_149_1 (p0 : Int32) (p1 : Int32) (p2 : Int32) (p3 : Int32) (j5 : Int32) (hj5 : j5 = (if (p2 &&& (1 : Int32)) = (0 : Int32) then (0 : Int32) else (p0.toInt8.toInt32))) (j10 : Int32) (hj10 : j10 = (if (p2 &&& (2 : Int32)) = (0 : Int32) then (0 : Int32) else (((p0.toUInt32 >>> ((8 : Int32) &&& 31).toUInt32).toInt32).toInt8.toInt32))) (j15 : Int32) (hj15 : j15 = (if (p2 &&& (4 : Int32)) = (0 : Int32) then (0 : Int32) else (((p0.toUInt32 >>> ((16 : Int32) &&& 31).toUInt32).toInt32).toInt8.toInt32))) (j20 : Int32) (hj20 : j20 = (if (p2 &&& (8 : Int32)) = (0 : Int32) then (0 : Int32) else (((p0.toUInt32 >>> ((24 : Int32) &&& 31).toUInt32).toInt32).toInt8.toInt32))) (j25 : Int32) (hj25 : j25 = (if (p2 &&& (16 : Int32)) = (0 : Int32) then (0 : Int32) else (p1.toInt8.toInt32))) (j30 : Int32) (hj30 : j30 = (if (p2 &&& (32 : Int32)) = (0 : Int32) then (0 : Int32) else (((p1.toUInt32 >>> ((8 : Int32) &&& 31).toUInt32).toInt32).toInt8.toInt32))) (vs33 : List Int32) (hvs33 : vs33 = [(nar .byte j5), (nar .byte j10), (nar .byte j15), (nar .byte j20), (nar .byte j25), (nar .byte j30)]) (v36 : Int32) (hv36 : v36 = ((p3 &&& (2147483647 : Int32)) % (3 : Int32))) (v39 : Int32) (hv39 : v39 = ((((p3.toUInt32 >>> ((8 : Int32) &&& 31).toUInt32).toInt32) &&& (2147483647 : Int32)) % (5 : Int32))) (hc42 : ¬ (v39 < (1 : Int32))) : ¬ v36 < 0 ∧ v36 < (6 : Int32) := by
  have m0 := c_mask p3 2147483647 31 (by decide) (by decide)
  have k : ((2 ^ 31 : Nat) : Int) = 2147483648 := by decide
  rw [k] at m0
  have r0 := (c_irem (p3 &&& (2147483647 : Int32)) 3 3 (by decide)).1 (by omega)
  rw [← hv36] at r0
  have k1 : (1 : Int32).toInt = 1 := by decide
  have k2 : (2 : Int32).toInt = 2 := by decide
  have k3 : (3 : Int32).toInt = 3 := by decide
  have k6 : (6 : Int32).toInt = 6 := by decide
  have k0 : (0 : Int32).toInt = 0 := by decide
  have a1 := own_add v36 1 (by omega) (by omega)
  have a2 := own_add v36 2 (by omega) (by omega)
  have a3 := own_add v36 3 (by omega) (by omega)
  rw [Int32.lt_iff_toInt_lt, Int32.lt_iff_toInt_lt]
  omega
theorem own_in0_168_1 (p0 : Int32) (p1 : Int32) (p2 : Int32) (p3 : Int32) (j5 : Int32) (hj5 : j5 = (if (p2 &&& (1 : Int32)) = (0 : Int32) then (0 : Int32) else (p0.toInt8.toInt32))) (j10 : Int32) (hj10 : j10 = (if (p2 &&& (2 : Int32)) = (0 : Int32) then (0 : Int32) else (((p0.toUInt32 >>> ((8 : Int32) &&& 31).toUInt32).toInt32).toInt8.toInt32))) (j15 : Int32) (hj15 : j15 = (if (p2 &&& (4 : Int32)) = (0 : Int32) then (0 : Int32) else (((p0.toUInt32 >>> ((16 : Int32) &&& 31).toUInt32).toInt32).toInt8.toInt32))) (j20 : Int32) (hj20 : j20 = (if (p2 &&& (8 : Int32)) = (0 : Int32) then (0 : Int32) else (((p0.toUInt32 >>> ((24 : Int32) &&& 31).toUInt32).toInt32).toInt8.toInt32))) (j25 : Int32) (hj25 : j25 = (if (p2 &&& (16 : Int32)) = (0 : Int32) then (0 : Int32) else (p1.toInt8.toInt32))) (j30 : Int32) (hj30 : j30 = (if (p2 &&& (32 : Int32)) = (0 : Int32) then (0 : Int32) else (((p1.toUInt32 >>> ((8 : Int32) &&& 31).toUInt32).toInt32).toInt8.toInt32))) (vs33 : List Int32) (hvs33 : vs33 = [(nar .byte j5), (nar .byte j10), (nar .byte j15), (nar .byte j20), (nar .byte j25), (nar .byte j30)]) (v36 : Int32) (hv36 : v36 = ((p3 &&& (2147483647 : Int32)) % (3 : Int32))) (v39 : Int32) (hv39 : v39 = ((((p3.toUInt32 >>> ((8 : Int32) &&& 31).toUInt32).toInt32) &&& (2147483647 : Int32)) % (5 : Int32))) (j47 : Int32) (hj47 : j47 = (if v39 < (1 : Int32) then (0 : Int32) else (if (own_get vs33 v36) = (0 : Int32) then (0 : Int32) else (1 : Int32)))) (hc50 : ¬ (v39 < (2 : Int32))) : ¬ (v36 + (1 : Int32)) < 0 ∧ (v36 + (1 : Int32)) < (6 : Int32) := by
  have m0 := c_mask p3 2147483647 31 (by decide) (by decide)
  have k : ((2 ^ 31 : Nat) : Int) = 2147483648 := by decide
  rw [k] at m0
  have r0 := (c_irem (p3 &&& (2147483647 : Int32)) 3 3 (by decide)).1 (by omega)
  rw [← hv36] at r0
  have k1 : (1 : Int32).toInt = 1 := by decide
  have k2 : (2 : Int32).toInt = 2 := by decide
  have k3 : (3 : Int32).toInt = 3 := by decide
  have k6 : (6 : Int32).toInt = 6 := by decide
  have k0 : (0 : Int32).toInt = 0 := by decide
  have a1 := own_add v36 1 (by omega) (by omega)
  have a2 := own_add v36 2 (by omega) (by omega)
  have a3 := own_add v36 3 (by omega) (by omega)
  rw [Int32.lt_iff_toInt_lt, Int32.lt_iff_toInt_lt]
  omega
theorem own_in0_187_1 (p0 : Int32) (p1 : Int32) (p2 : Int32) (p3 : Int32) (j5 : Int32) (hj5 : j5 = (if (p2 &&& (1 : Int32)) = (0 : Int32) then (0 : Int32) else (p0.toInt8.toInt32))) (j10 : Int32) (hj10 : j10 = (if (p2 &&& (2 : Int32)) = (0 : Int32) then (0 : Int32) else (((p0.toUInt32 >>> ((8 : Int32) &&& 31).toUInt32).toInt32).toInt8.toInt32))) (j15 : Int32) (hj15 : j15 = (if (p2 &&& (4 : Int32)) = (0 : Int32) then (0 : Int32) else (((p0.toUInt32 >>> ((16 : Int32) &&& 31).toUInt32).toInt32).toInt8.toInt32))) (j20 : Int32) (hj20 : j20 = (if (p2 &&& (8 : Int32)) = (0 : Int32) then (0 : Int32) else (((p0.toUInt32 >>> ((24 : Int32) &&& 31).toUInt32).toInt32).toInt8.toInt32))) (j25 : Int32) (hj25 : j25 = (if (p2 &&& (16 : Int32)) = (0 : Int32) then (0 : Int32) else (p1.toInt8.toInt32))) (j30 : Int32) (hj30 : j30 = (if (p2 &&& (32 : Int32)) = (0 : Int32) then (0 : Int32) else (((p1.toUInt32 >>> ((8 : Int32) &&& 31).toUInt32).toInt32).toInt8.toInt32))) (vs33 : List Int32) (hvs33 : vs33 = [(nar .byte j5), (nar .byte j10), (nar .byte j15), (nar .byte j20), (nar .byte j25), (nar .byte j30)]) (v36 : Int32) (hv36 : v36 = ((p3 &&& (2147483647 : Int32)) % (3 : Int32))) (v39 : Int32) (hv39 : v39 = ((((p3.toUInt32 >>> ((8 : Int32) &&& 31).toUInt32).toInt32) &&& (2147483647 : Int32)) % (5 : Int32))) (j47 : Int32) (hj47 : j47 = (if v39 < (1 : Int32) then (0 : Int32) else (if (own_get vs33 v36) = (0 : Int32) then (0 : Int32) else (1 : Int32)))) (j55 : Int32) (hj55 : j55 = (if v39 < (2 : Int32) then j47 else (if (own_get vs33 (v36 + (1 : Int32))) = (0 : Int32) then j47 else (2 : Int32)))) (hc58 : ¬ (v39 < (3 : Int32))) : ¬ (v36 + (2 : Int32)) < 0 ∧ (v36 + (2 : Int32)) < (6 : Int32) := by
  have m0 := c_mask p3 2147483647 31 (by decide) (by decide)
  have k : ((2 ^ 31 : Nat) : Int) = 2147483648 := by decide
  rw [k] at m0
  have r0 := (c_irem (p3 &&& (2147483647 : Int32)) 3 3 (by decide)).1 (by omega)
  rw [← hv36] at r0
  have k1 : (1 : Int32).toInt = 1 := by decide
  have k2 : (2 : Int32).toInt = 2 := by decide
  have k3 : (3 : Int32).toInt = 3 := by decide
  have k6 : (6 : Int32).toInt = 6 := by decide
  have k0 : (0 : Int32).toInt = 0 := by decide
  have a1 := own_add v36 1 (by omega) (by omega)
  have a2 := own_add v36 2 (by omega) (by omega)
  have a3 := own_add v36 3 (by omega) (by omega)
  rw [Int32.lt_iff_toInt_lt, Int32.lt_iff_toInt_lt]
  omega
theorem own_in0_206_1 (p0 : Int32) (p1 : Int32) (p2 : Int32) (p3 : Int32) (j5 : Int32) (hj5 : j5 = (if (p2 &&& (1 : Int32)) = (0 : Int32) then (0 : Int32) else (p0.toInt8.toInt32))) (j10 : Int32) (hj10 : j10 = (if (p2 &&& (2 : Int32)) = (0 : Int32) then (0 : Int32) else (((p0.toUInt32 >>> ((8 : Int32) &&& 31).toUInt32).toInt32).toInt8.toInt32))) (j15 : Int32) (hj15 : j15 = (if (p2 &&& (4 : Int32)) = (0 : Int32) then (0 : Int32) else (((p0.toUInt32 >>> ((16 : Int32) &&& 31).toUInt32).toInt32).toInt8.toInt32))) (j20 : Int32) (hj20 : j20 = (if (p2 &&& (8 : Int32)) = (0 : Int32) then (0 : Int32) else (((p0.toUInt32 >>> ((24 : Int32) &&& 31).toUInt32).toInt32).toInt8.toInt32))) (j25 : Int32) (hj25 : j25 = (if (p2 &&& (16 : Int32)) = (0 : Int32) then (0 : Int32) else (p1.toInt8.toInt32))) (j30 : Int32) (hj30 : j30 = (if (p2 &&& (32 : Int32)) = (0 : Int32) then (0 : Int32) else (((p1.toUInt32 >>> ((8 : Int32) &&& 31).toUInt32).toInt32).toInt8.toInt32))) (vs33 : List Int32) (hvs33 : vs33 = [(nar .byte j5), (nar .byte j10), (nar .byte j15), (nar .byte j20), (nar .byte j25), (nar .byte j30)]) (v36 : Int32) (hv36 : v36 = ((p3 &&& (2147483647 : Int32)) % (3 : Int32))) (v39 : Int32) (hv39 : v39 = ((((p3.toUInt32 >>> ((8 : Int32) &&& 31).toUInt32).toInt32) &&& (2147483647 : Int32)) % (5 : Int32))) (j47 : Int32) (hj47 : j47 = (if v39 < (1 : Int32) then (0 : Int32) else (if (own_get vs33 v36) = (0 : Int32) then (0 : Int32) else (1 : Int32)))) (j55 : Int32) (hj55 : j55 = (if v39 < (2 : Int32) then j47 else (if (own_get vs33 (v36 + (1 : Int32))) = (0 : Int32) then j47 else (2 : Int32)))) (j63 : Int32) (hj63 : j63 = (if v39 < (3 : Int32) then j55 else (if (own_get vs33 (v36 + (2 : Int32))) = (0 : Int32) then j55 else (3 : Int32)))) (hc66 : ¬ (v39 < (4 : Int32))) : ¬ (v36 + (3 : Int32)) < 0 ∧ (v36 + (3 : Int32)) < (6 : Int32) := by
  have m0 := c_mask p3 2147483647 31 (by decide) (by decide)
  have k : ((2 ^ 31 : Nat) : Int) = 2147483648 := by decide
  rw [k] at m0
  have r0 := (c_irem (p3 &&& (2147483647 : Int32)) 3 3 (by decide)).1 (by omega)
  rw [← hv36] at r0
  have k1 : (1 : Int32).toInt = 1 := by decide
  have k2 : (2 : Int32).toInt = 2 := by decide
  have k3 : (3 : Int32).toInt = 3 := by decide
  have k6 : (6 : Int32).toInt = 6 := by decide
  have k0 : (0 : Int32).toInt = 0 := by decide
  have a1 := own_add v36 1 (by omega) (by omega)
  have a2 := own_add v36 2 (by omega) (by omega)
  have a3 := own_add v36 3 (by omega) (by omega)
  rw [Int32.lt_iff_toInt_lt, Int32.lt_iff_toInt_lt]
  omega
theorem own_pre1 (p0 : Int32) (p1 : Int32) (p2 : Int32) (p3 : Int32) (j5 : Int32) (hj5 : j5 = (if (p2 &&& (1 : Int32)) = (0 : Int32) then (0 : Int32) else (p0.toInt8.toInt32))) (j10 : Int32) (hj10 : j10 = (if (p2 &&& (2 : Int32)) = (0 : Int32) then (0 : Int32) else (((p0.toUInt32 >>> ((8 : Int32) &&& 31).toUInt32).toInt32).toInt8.toInt32))) (j15 : Int32) (hj15 : j15 = (if (p2 &&& (4 : Int32)) = (0 : Int32) then (0 : Int32) else (((p0.toUInt32 >>> ((16 : Int32) &&& 31).toUInt32).toInt32).toInt8.toInt32))) (j20 : Int32) (hj20 : j20 = (if (p2 &&& (8 : Int32)) = (0 : Int32) then (0 : Int32) else (((p0.toUInt32 >>> ((24 : Int32) &&& 31).toUInt32).toInt32).toInt8.toInt32))) (j25 : Int32) (hj25 : j25 = (if (p2 &&& (16 : Int32)) = (0 : Int32) then (0 : Int32) else (p1.toInt8.toInt32))) (j30 : Int32) (hj30 : j30 = (if (p2 &&& (32 : Int32)) = (0 : Int32) then (0 : Int32) else (((p1.toUInt32 >>> ((8 : Int32) &&& 31).toUInt32).toInt32).toInt8.toInt32))) (vs33 : List Int32) (hvs33 : vs33 = [(nar .byte j5), (nar .byte j10), (nar .byte j15), (nar .byte j20), (nar .byte j25), (nar .byte j30)]) (v36 : Int32) (hv36 : v36 = ((p3 &&& (2147483647 : Int32)) % (3 : Int32))) (v39 : Int32) (hv39 : v39 = ((((p3.toUInt32 >>> ((8 : Int32) &&& 31).toUInt32).toInt32) &&& (2147483647 : Int32)) % (5 : Int32))) (j47 : Int32) (hj47 : j47 = (if v39 < (1 : Int32) then (0 : Int32) else (if (own_get vs33 v36) = (0 : Int32) then (0 : Int32) else (1 : Int32)))) (j55 : Int32) (hj55 : j55 = (if v39 < (2 : Int32) then j47 else (if (own_get vs33 (v36 + (1 : Int32))) = (0 : Int32) then j47 else (2 : Int32)))) (j63 : Int32) (hj63 : j63 = (if v39 < (3 : Int32) then j55 else (if (own_get vs33 (v36 + (2 : Int32))) = (0 : Int32) then j55 else (3 : Int32)))) (j71 : Int32) (hj71 : j71 = (if v39 < (4 : Int32) then j63 else (if (own_get vs33 (v36 + (3 : Int32))) = (0 : Int32) then j63 else (4 : Int32)))) : 0 ≤ (v36 : Int32).toInt ∧ v36.toInt ≤ 2 ∧ 0 ≤ v39.toInt ∧ v39.toInt ≤ 4 := by
  have m0 := c_mask p3 2147483647 31 (by decide) (by decide)
  have m1 := c_mask ((p3.toUInt32 >>> ((8 : Int32) &&& 31).toUInt32).toInt32) 2147483647 31 (by decide) (by decide)
  have k : ((2 ^ 31 : Nat) : Int) = 2147483648 := by decide
  rw [k] at m0 m1
  have r0 := (c_irem (p3 &&& (2147483647 : Int32)) 3 3 (by decide)).1 (by omega)
  have r1 := (c_irem (((p3.toUInt32 >>> ((8 : Int32) &&& 31).toUInt32).toInt32) &&& (2147483647 : Int32)) 5 5 (by decide)).1 (by omega)
  rw [← hv36] at r0
  rw [← hv39] at r1
  omega
set_option maxRecDepth 65536 in
set_option maxHeartbeats 40000000 in
theorem rm0 (l : Launch) (Z : State) (aw : Array Value) (hw : ∀ d ∈ tables_1, d.before aw Z = true) (ws : List Jvm.Cond) (p0 : Int32) (p1 : Int32) (p2 : Int32) (p3 : Int32) (h0 : Heap) (n0 : Nat) (Z0 : n0 ≤ h0.size) (hlaw : f0 p0 p1 p2 p3 = 1) :
    MetFree l x (head1 (Jvm.Cond.code x code maxLocals ret :: ws) room_1) (fun a U => a = #[(.int p0), (.int p1), (.int p2), (.int p3)] ∧ Z.Warmed39 U.vm ∧ U.heap = h0) (fun _ _ _ _ _ => True) (fun _ U o U' => ∃ v L, o = .returned v ∧ Q0 Z p0 p1 p2 p3 h0 n0 v U'.heap L ∧ FrameEnd U o U' L room_1.cells room_1.slots) := by
  refine MetFree.of_bodySF (plainFor_of_name pn_1) hisR ?_
  intro p e s m args below meth c s₁ Bd hml0 hP hK
  obtain ⟨rfl, hZ, hh⟩ := hP
  have hx := Bd.exec
  have hby := Bd.bytes
  have hml : c.maxLocals = 9 := hml0
  have hown : s.vm.findClass "com/example/hyperslab/hyperslab/dataset/DataTypeTextLengthPinLaw" = some m.cls := findClass_of_methodNamed Bd.named
  have hnm := (name_of_methodNamed Bd.named Bd.method).1
  have X0 : Stand p l e room_1 s m #[(.int p0), (.int p1), (.int p2), (.int p3)] below meth c s₁ [] 0 0 := Stand.of_body Bd
  have e0 : s₁.heap = h0 := by rw [← hh, Bd.state]; rfl
  have N0 := Fr.nil n0
  have pre0 : ∀ t, Steps p.tables e below (s₁.setTop (mkF m 0 #[.val (.int p0), .val (.int p1), .val (.int p2), .val (.int p3), .unset, .unset, .unset, .unset, .unset] [])) t → Steps p.tables e below (s₁.setTop (entryFrame m #[(.int p0), (.int p1), (.int p2), (.int p3)] maxLocals)) t := fun t k => castTop (ef_0 m p0 p1 p2 p3) k
  have pre1 : ∀ t, Steps p.tables e below (s₁.setTop (mkF m 2 #[.val (.int p0), .val (.int p1), .val (.int p2), .val (.int p3), .unset, .unset, .unset, .unset, .unset] [(.int (6 : Int32))])) t → Steps p.tables e below (s₁.setTop (entryFrame m #[(.int p0), (.int p1), (.int p2), (.int p3)] maxLocals)) t := fun t k => pre0 t (by
    show Steps p.tables e below (s₁.setTop (mkF m 0 #[.val (.int p0), .val (.int p1), .val (.int p2), .val (.int p3), .unset, .unset, .unset, .unset, .unset] [])) _
    refine XS.bipush X0.here hx rfl (hb hby at_0) ?_
    exact k)
  obtain ⟨T2, h2, k2, X2, e2, E2, A2, st2⟩ := newP X0 hx hZ (hw _ (List.mem_of_getElem? (i := 0) rfl)) e0 (g := (mkF m 2 #[.val (.int p0), .val (.int p1), .val (.int p2), .val (.int p3), .unset, .unset, .unset, .unset, .unset] [(.int (6 : Int32))])) rfl (hb hby at_2) rfl (by decide) (cap := 6) (by decide) (by decide) (by decide) (by decide)
  obtain ⟨b2, g2⟩ : ∃ z, z = h0.size := ⟨_, rfl⟩
  have g_b2 : n0 ≤ b2 := Nat.le_trans Z0 (Nat.le_of_eq g2.symm)
  have sz_b2 : h0.size ≤ b2 := Nat.le_trans (Keep.refl h0 []).1 (Nat.le_of_eq g2.symm)
  rw [← g2] at A2 st2
  have K2 : Keep h0 h2 [] := (Keep.refl h0 []).ext E2
  have Z2 : n0 ≤ h2.size := Nat.le_trans Z0 E2.1
  have V_b2 : Arv Z h2 b2 k2 .byte (6 : Int32) [(.int (0 : Int32)), (.int (0 : Int32)), (.int (0 : Int32)), (.int (0 : Int32)), (.int (0 : Int32)), (.int (0 : Int32))] (.int (0 : Int32)) := (Arv.new A2 (by decide)).pad (pad_rep [] (.int (0 : Int32)) 6)
  have pre3 : ∀ t, Steps p.tables e below (T2.setTop (mkF m 12 #[.val (.int p0), .val (.int p1), .val (.int p2), .val (.int p3), .val (.ref b2), .unset, .unset, .unset, .unset] [(.int (p2 &&& (1 : Int32))), (.int (0 : Int32)), (.ref b2)])) t → Steps p.tables e below (s₁.setTop (entryFrame m #[(.int p0), (.int p1), (.int p2), (.int p3)] maxLocals)) t := fun t k => pre1 t (by
    show Steps p.tables e below (s₁.setTop (mkF m 2 #[.val (.int p0), .val (.int p1), .val (.int p2), .val (.int p3), .unset, .unset, .unset, .unset, .unset] [(.int (6 : Int32))])) _
    refine st2 _ ?_
    show Steps p.tables e below (T2.setTop (mkF m 4 #[.val (.int p0), .val (.int p1), .val (.int p2), .val (.int p3), .unset, .unset, .unset, .unset, .unset] [(.ref b2)])) _
    refine XS.astore X2.here hx rfl (hb hby at_4) rfl rfl (l' := #[.val (.int p0), .val (.int p1), .val (.int p2), .val (.int p3), .val (.ref b2), .unset, .unset, .unset, .unset]) rfl ?_
    show Steps p.tables e below (T2.setTop (mkF m 6 #[.val (.int p0), .val (.int p1), .val (.int p2), .val (.int p3), .val (.ref b2), .unset, .unset, .unset, .unset] [])) _
    refine XS.aload X2.here hx rfl (hb hby at_6) rfl rfl ?_
    show Steps p.tables e below (T2.setTop (mkF m 8 #[.val (.int p0), .val (.int p1), .val (.int p2), .val (.int p3), .val (.ref b2), .unset, .unset, .unset, .unset] [(.ref b2)])) _
    refine XS.iconst X2.here hx rfl (hb hby at_8) ?_
    show Steps p.tables e below (T2.setTop (mkF m 9 #[.val (.int p0), .val (.int p1), .val (.int p2), .val (.int p3), .val (.ref b2), .unset, .unset, .unset, .unset] [(.int (0 : Int32)), (.ref b2)])) _
    refine XS.iloadN X2.here hx rfl (hb hby at_9) rfl ?_
    show Steps p.tables e below (T2.setTop (mkF m 10 #[.val (.int p0), .val (.int p1), .val (.int p2), .val (.int p3), .val (.ref b2), .unset, .unset, .unset, .unset] [(.int p2), (.int (0 : Int32)), (.ref b2)])) _
    refine XS.iconst X2.here hx rfl (hb hby at_10) ?_
    show Steps p.tables e below (T2.setTop (mkF m 11 #[.val (.int p0), .val (.int p1), .val (.int p2), .val (.int p3), .val (.ref b2), .unset, .unset, .unset, .unset] [(.int (1 : Int32)), (.int p2), (.int (0 : Int32)), (.ref b2)])) _
    refine XS.iand X2.here hx rfl (hb hby at_11) rfl ?_
    exact k)
  obtain ⟨j5, hj5, pre6⟩ : ∃ (j5 : Int32), j5 = (if (p2 &&& (1 : Int32)) = (0 : Int32) then (0 : Int32) else (p0.toInt8.toInt32)) ∧ ∀ t, Steps p.tables e below (T2.setTop (mkF m 21 #[.val (.int p0), .val (.int p1), .val (.int p2), .val (.int p3), .val (.ref b2), .unset, .unset, .unset, .unset] [(.int j5), (.int (0 : Int32)), (.ref b2)])) t → Steps p.tables e below (s₁.setTop (entryFrame m #[(.int p0), (.int p1), (.int p2), (.int p3)] maxLocals)) t := by
    by_cases hc4 : (p2 &&& (1 : Int32)) = (0 : Int32)
    · exact ⟨(0 : Int32), (by rw [if_pos hc4]), fun t k => pre3 t (by
        show Steps p.tables e below (T2.setTop (mkF m 12 #[.val (.int p0), .val (.int p1), .val (.int p2), .val (.int p3), .val (.ref b2), .unset, .unset, .unset, .unset] [(.int (p2 &&& (1 : Int32))), (.int (0 : Int32)), (.ref b2)])) _
        refine XS.ifYes X2.here hx rfl (pc0 := 12) (pc' := 20) rfl (hb hby at_12) rfl ((if0 _ _).trans (teq hc4).1) (by decide) (by decide) ?_
        show Steps p.tables e below (T2.setTop (mkF m 20 #[.val (.int p0), .val (.int p1), .val (.int p2), .val (.int p3), .val (.ref b2), .unset, .unset, .unset, .unset] [(.int (0 : Int32)), (.ref b2)])) _
        refine XS.iconst X2.here hx rfl (hb hby at_20) ?_
        exact k)⟩
    · exact ⟨(p0.toInt8.toInt32), (by rw [if_neg hc4]), fun t k => pre3 t (by
        show Steps p.tables e below (T2.setTop (mkF m 12 #[.val (.int p0), .val (.int p1), .val (.int p2), .val (.int p3), .val (.ref b2), .unset, .unset, .unset, .unset] [(.int (p2 &&& (1 : Int32))), (.int (0 : Int32)), (.ref b2)])) _
        refine XS.ifNo X2.here hx rfl (hb hby at_12) rfl ((if0 _ _).trans (feq hc4).1) ?_
        show Steps p.tables e below (T2.setTop (mkF m 15 #[.val (.int p0), .val (.int p1), .val (.int p2), .val (.int p3), .val (.ref b2), .unset, .unset, .unset, .unset] [(.int (0 : Int32)), (.ref b2)])) _
        refine XS.iloadN X2.here hx rfl (hb hby at_15) rfl ?_
        show Steps p.tables e below (T2.setTop (mkF m 16 #[.val (.int p0), .val (.int p1), .val (.int p2), .val (.int p3), .val (.ref b2), .unset, .unset, .unset, .unset] [(.int p0), (.int (0 : Int32)), (.ref b2)])) _
        refine XS.i2b X2.here hx rfl (hb hby at_16) rfl ?_
        show Steps p.tables e below (T2.setTop (mkF m 17 #[.val (.int p0), .val (.int p1), .val (.int p2), .val (.int p3), .val (.ref b2), .unset, .unset, .unset, .unset] [(.int (p0.toInt8.toInt32)), (.int (0 : Int32)), (.ref b2)])) _
        refine XS.goto X2.here hx rfl (pc0 := 17) (pc' := 21) rfl (hb hby at_17) (by decide) (by decide) ?_
        exact k)⟩
  obtain ⟨cl7, Ar7, q7, S7, M7, H7, G7⟩ := id V_b2
  have hin7 : ¬ ((0 : Int32) < 0 ∨ cl7.slots.size ≤ ((0 : Int32)).toNatClampNeg) := inb_of S7 ⟨by decide, by decide⟩
  obtain ⟨T7, h7, X7, e7, W7, st7⟩ := stB X2 hx hZ e2 Ar7 (j := (0 : Int32)) hin7 (g := (mkF m 21 #[.val (.int p0), .val (.int p1), .val (.int p2), .val (.int p3), .val (.ref b2), .unset, .unset, .unset, .unset] [(.int j5), (.int (0 : Int32)), (.ref b2)])) rfl rfl (hb hby at_21)
  have V_b2_7 : Arv Z h7 b2 k2 .byte (6 : Int32) [(.int (nar .byte j5)), (.int (0 : Int32)), (.int (0 : Int32)), (.int (0 : Int32)), (.int (0 : Int32)), (.int (0 : Int32))] (.int (0 : Int32)) := Arv.set Ar7 q7 S7 M7 H7 G7 (fits_nar_byte _) W7 0 rfl (Nat.le_of_ble_eq_true rfl)
  have K7 : Keep h0 h7 [] := K2.wr W7 (Or.inr sz_b2)
  have N7 := Fr.snoc X7 N0 g_b2
  have Z7 : n0 ≤ h7.size := Nat.le_trans Z2 (Nat.le_of_eq W7.size.symm)
  have pre8 : ∀ t, Steps p.tables e below (T7.setTop (mkF m 28 #[.val (.int p0), .val (.int p1), .val (.int p2), .val (.int p3), .val (.ref b2), .unset, .unset, .unset, .unset] [(.int (p2 &&& (2 : Int32))), (.int (1 : Int32)), (.ref b2)])) t → Steps p.tables e below (s₁.setTop (entryFrame m #[(.int p0), (.int p1), (.int p2), (.int p3)] maxLocals)) t := fun t k => pre6 t (by
    show Steps p.tables e below (T2.setTop (mkF m 21 #[.val (.int p0), .val (.int p1), .val (.int p2), .val (.int p3), .val (.ref b2), .unset, .unset, .unset, .unset] [(.int j5), (.int (0 : Int32)), (.ref b2)])) _
    refine st7 _ ?_
    show Steps p.tables e below (T7.setTop (mkF m 22 #[.val (.int p0), .val (.int p1), .val (.int p2), .val (.int p3), .val (.ref b2), .unset, .unset, .unset, .unset] [])) _
    refine XS.aload X7.here hx rfl (hb hby at_22) rfl rfl ?_
    show Steps p.tables e below (T7.setTop (mkF m 24 #[.val (.int p0), .val (.int p1), .val (.int p2), .val (.int p3), .val (.ref b2), .unset, .unset, .unset, .unset] [(.ref b2)])) _
    refine XS.iconst X7.here hx rfl (hb hby at_24) ?_
    show Steps p.tables e below (T7.setTop (mkF m 25 #[.val (.int p0), .val (.int p1), .val (.int p2), .val (.int p3), .val (.ref b2), .unset, .unset, .unset, .unset] [(.int (1 : Int32)), (.ref b2)])) _
    refine XS.iloadN X7.here hx rfl (hb hby at_25) rfl ?_
    show Steps p.tables e below (T7.setTop (mkF m 26 #[.val (.int p0), .val (.int p1), .val (.int p2), .val (.int p3), .val (.ref b2), .unset, .unset, .unset, .unset] [(.int p2), (.int (1 : Int32)), (.ref b2)])) _
    refine XS.iconst X7.here hx rfl (hb hby at_26) ?_
    show Steps p.tables e below (T7.setTop (mkF m 27 #[.val (.int p0), .val (.int p1), .val (.int p2), .val (.int p3), .val (.ref b2), .unset, .unset, .unset, .unset] [(.int (2 : Int32)), (.int p2), (.int (1 : Int32)), (.ref b2)])) _
    refine XS.iand X7.here hx rfl (hb hby at_27) rfl ?_
    exact k)
  obtain ⟨j10, hj10, pre11⟩ : ∃ (j10 : Int32), j10 = (if (p2 &&& (2 : Int32)) = (0 : Int32) then (0 : Int32) else (((p0.toUInt32 >>> ((8 : Int32) &&& 31).toUInt32).toInt32).toInt8.toInt32)) ∧ ∀ t, Steps p.tables e below (T7.setTop (mkF m 40 #[.val (.int p0), .val (.int p1), .val (.int p2), .val (.int p3), .val (.ref b2), .unset, .unset, .unset, .unset] [(.int j10), (.int (1 : Int32)), (.ref b2)])) t → Steps p.tables e below (s₁.setTop (entryFrame m #[(.int p0), (.int p1), (.int p2), (.int p3)] maxLocals)) t := by
    by_cases hc9 : (p2 &&& (2 : Int32)) = (0 : Int32)
    · exact ⟨(0 : Int32), (by rw [if_pos hc9]), fun t k => pre8 t (by
        show Steps p.tables e below (T7.setTop (mkF m 28 #[.val (.int p0), .val (.int p1), .val (.int p2), .val (.int p3), .val (.ref b2), .unset, .unset, .unset, .unset] [(.int (p2 &&& (2 : Int32))), (.int (1 : Int32)), (.ref b2)])) _
        refine XS.ifYes X7.here hx rfl (pc0 := 28) (pc' := 39) rfl (hb hby at_28) rfl ((if0 _ _).trans (teq hc9).1) (by decide) (by decide) ?_
        show Steps p.tables e below (T7.setTop (mkF m 39 #[.val (.int p0), .val (.int p1), .val (.int p2), .val (.int p3), .val (.ref b2), .unset, .unset, .unset, .unset] [(.int (1 : Int32)), (.ref b2)])) _
        refine XS.iconst X7.here hx rfl (hb hby at_39) ?_
        exact k)⟩
    · exact ⟨(((p0.toUInt32 >>> ((8 : Int32) &&& 31).toUInt32).toInt32).toInt8.toInt32), (by rw [if_neg hc9]), fun t k => pre8 t (by
        show Steps p.tables e below (T7.setTop (mkF m 28 #[.val (.int p0), .val (.int p1), .val (.int p2), .val (.int p3), .val (.ref b2), .unset, .unset, .unset, .unset] [(.int (p2 &&& (2 : Int32))), (.int (1 : Int32)), (.ref b2)])) _
        refine XS.ifNo X7.here hx rfl (hb hby at_28) rfl ((if0 _ _).trans (feq hc9).1) ?_
        show Steps p.tables e below (T7.setTop (mkF m 31 #[.val (.int p0), .val (.int p1), .val (.int p2), .val (.int p3), .val (.ref b2), .unset, .unset, .unset, .unset] [(.int (1 : Int32)), (.ref b2)])) _
        refine XS.iloadN X7.here hx rfl (hb hby at_31) rfl ?_
        show Steps p.tables e below (T7.setTop (mkF m 32 #[.val (.int p0), .val (.int p1), .val (.int p2), .val (.int p3), .val (.ref b2), .unset, .unset, .unset, .unset] [(.int p0), (.int (1 : Int32)), (.ref b2)])) _
        refine XS.bipush X7.here hx rfl (hb hby at_32) ?_
        show Steps p.tables e below (T7.setTop (mkF m 34 #[.val (.int p0), .val (.int p1), .val (.int p2), .val (.int p3), .val (.ref b2), .unset, .unset, .unset, .unset] [(.int (8 : Int32)), (.int p0), (.int (1 : Int32)), (.ref b2)])) _
        refine XS.iushr X7.here hx rfl (hb hby at_34) rfl ?_
        show Steps p.tables e below (T7.setTop (mkF m 35 #[.val (.int p0), .val (.int p1), .val (.int p2), .val (.int p3), .val (.ref b2), .unset, .unset, .unset, .unset] [(.int ((p0.toUInt32 >>> ((8 : Int32) &&& 31).toUInt32).toInt32)), (.int (1 : Int32)), (.ref b2)])) _
        refine XS.i2b X7.here hx rfl (hb hby at_35) rfl ?_
        show Steps p.tables e below (T7.setTop (mkF m 36 #[.val (.int p0), .val (.int p1), .val (.int p2), .val (.int p3), .val (.ref b2), .unset, .unset, .unset, .unset] [(.int (((p0.toUInt32 >>> ((8 : Int32) &&& 31).toUInt32).toInt32).toInt8.toInt32)), (.int (1 : Int32)), (.ref b2)])) _
        refine XS.goto X7.here hx rfl (pc0 := 36) (pc' := 40) rfl (hb hby at_36) (by decide) (by decide) ?_
        exact k)⟩
  obtain ⟨cl12, Ar12, q12, S12, M12, H12, G12⟩ := id V_b2_7
  have hin12 : ¬ ((1 : Int32) < 0 ∨ cl12.slots.size ≤ ((1 : Int32)).toNatClampNeg) := inb_of S12 ⟨by decide, by decide⟩
  obtain ⟨T12, h12, X12, e12, W12, st12⟩ := stB X7 hx hZ e7 Ar12 (j := (1 : Int32)) hin12 (g := (mkF m 40 #[.val (.int p0), .val (.int p1), .val (.int p2), .val (.int p3), .val (.ref b2), .unset, .unset, .unset, .unset] [(.int j10), (.int (1 : Int32)), (.ref b2)])) rfl rfl (hb hby at_40)
  have V_b2_12 : Arv Z h12 b2 k2 .byte (6 : Int32) [(.int (nar .byte j5)), (.int (nar .byte j10)), (.int (0 : Int32)), (.int (0 : Int32)), (.int (0 : Int32)), (.int (0 : Int32))] (.int (0 : Int32)) := Arv.set Ar12 q12 S12 M12 H12 G12 (fits_nar_byte _) W12 1 rfl (Nat.le_of_ble_eq_true rfl)
  have K12 : Keep h0 h12 [] := K7.wr W12 (Or.inr sz_b2)
  have N12 := Fr.snoc X12 N7 g_b2
  have Z12 : n0 ≤ h12.size := Nat.le_trans Z7 (Nat.le_of_eq W12.size.symm)
  have pre13 : ∀ t, Steps p.tables e below (T12.setTop (mkF m 47 #[.val (.int p0), .val (.int p1), .val (.int p2), .val (.int p3), .val (.ref b2), .unset, .unset, .unset, .unset] [(.int (p2 &&& (4 : Int32))), (.int (2 : Int32)), (.ref b2)])) t → Steps p.tables e below (s₁.setTop (entryFrame m #[(.int p0), (.int p1), (.int p2), (.int p3)] maxLocals)) t := fun t k => pre11 t (by
    show Steps p.tables e below (T7.setTop (mkF m 40 #[.val (.int p0), .val (.int p1), .val (.int p2), .val (.int p3), .val (.ref b2), .unset, .unset, .unset, .unset] [(.int j10), (.int (1 : Int32)), (.ref b2)])) _
    refine st12 _ ?_
    show Steps p.tables e below (T12.setTop (mkF m 41 #[.val (.int p0), .val (.int p1), .val (.int p2), .val (.int p3), .val (.ref b2), .unset, .unset, .unset, .unset] [])) _
    refine XS.aload X12.here hx rfl (hb hby at_41) rfl rfl ?_
    show Steps p.tables e below (T12.setTop (mkF m 43 #[.val (.int p0), .val (.int p1), .val (.int p2), .val (.int p3), .val (.ref b2), .unset, .unset, .unset, .unset] [(.ref b2)])) _
    refine XS.iconst X12.here hx rfl (hb hby at_43) ?_
    show Steps p.tables e below (T12.setTop (mkF m 44 #[.val (.int p0), .val (.int p1), .val (.int p2), .val (.int p3), .val (.ref b2), .unset, .unset, .unset, .unset] [(.int (2 : Int32)), (.ref b2)])) _
    refine XS.iloadN X12.here hx rfl (hb hby at_44) rfl ?_
    show Steps p.tables e below (T12.setTop (mkF m 45 #[.val (.int p0), .val (.int p1), .val (.int p2), .val (.int p3), .val (.ref b2), .unset, .unset, .unset, .unset] [(.int p2), (.int (2 : Int32)), (.ref b2)])) _
    refine XS.iconst X12.here hx rfl (hb hby at_45) ?_
    show Steps p.tables e below (T12.setTop (mkF m 46 #[.val (.int p0), .val (.int p1), .val (.int p2), .val (.int p3), .val (.ref b2), .unset, .unset, .unset, .unset] [(.int (4 : Int32)), (.int p2), (.int (2 : Int32)), (.ref b2)])) _
    refine XS.iand X12.here hx rfl (hb hby at_46) rfl ?_
    exact k)
  obtain ⟨j15, hj15, pre16⟩ : ∃ (j15 : Int32), j15 = (if (p2 &&& (4 : Int32)) = (0 : Int32) then (0 : Int32) else (((p0.toUInt32 >>> ((16 : Int32) &&& 31).toUInt32).toInt32).toInt8.toInt32)) ∧ ∀ t, Steps p.tables e below (T12.setTop (mkF m 59 #[.val (.int p0), .val (.int p1), .val (.int p2), .val (.int p3), .val (.ref b2), .unset, .unset, .unset, .unset] [(.int j15), (.int (2 : Int32)), (.ref b2)])) t → Steps p.tables e below (s₁.setTop (entryFrame m #[(.int p0), (.int p1), (.int p2), (.int p3)] maxLocals)) t := by
    by_cases hc14 : (p2 &&& (4 : Int32)) = (0 : Int32)
    · exact ⟨(0 : Int32), (by rw [if_pos hc14]), fun t k => pre13 t (by
        show Steps p.tables e below (T12.setTop (mkF m 47 #[.val (.int p0), .val (.int p1), .val (.int p2), .val (.int p3), .val (.ref b2), .unset, .unset, .unset, .unset] [(.int (p2 &&& (4 : Int32))), (.int (2 : Int32)), (.ref b2)])) _
        refine XS.ifYes X12.here hx rfl (pc0 := 47) (pc' := 58) rfl (hb hby at_47) rfl ((if0 _ _).trans (teq hc14).1) (by decide) (by decide) ?_
        show Steps p.tables e below (T12.setTop (mkF m 58 #[.val (.int p0), .val (.int p1), .val (.int p2), .val (.int p3), .val (.ref b2), .unset, .unset, .unset, .unset] [(.int (2 : Int32)), (.ref b2)])) _
        refine XS.iconst X12.here hx rfl (hb hby at_58) ?_
        exact k)⟩
    · exact ⟨(((p0.toUInt32 >>> ((16 : Int32) &&& 31).toUInt32).toInt32).toInt8.toInt32), (by rw [if_neg hc14]), fun t k => pre13 t (by
        show Steps p.tables e below (T12.setTop (mkF m 47 #[.val (.int p0), .val (.int p1), .val (.int p2), .val (.int p3), .val (.ref b2), .unset, .unset, .unset, .unset] [(.int (p2 &&& (4 : Int32))), (.int (2 : Int32)), (.ref b2)])) _
        refine XS.ifNo X12.here hx rfl (hb hby at_47) rfl ((if0 _ _).trans (feq hc14).1) ?_
        show Steps p.tables e below (T12.setTop (mkF m 50 #[.val (.int p0), .val (.int p1), .val (.int p2), .val (.int p3), .val (.ref b2), .unset, .unset, .unset, .unset] [(.int (2 : Int32)), (.ref b2)])) _
        refine XS.iloadN X12.here hx rfl (hb hby at_50) rfl ?_
        show Steps p.tables e below (T12.setTop (mkF m 51 #[.val (.int p0), .val (.int p1), .val (.int p2), .val (.int p3), .val (.ref b2), .unset, .unset, .unset, .unset] [(.int p0), (.int (2 : Int32)), (.ref b2)])) _
        refine XS.bipush X12.here hx rfl (hb hby at_51) ?_
        show Steps p.tables e below (T12.setTop (mkF m 53 #[.val (.int p0), .val (.int p1), .val (.int p2), .val (.int p3), .val (.ref b2), .unset, .unset, .unset, .unset] [(.int (16 : Int32)), (.int p0), (.int (2 : Int32)), (.ref b2)])) _
        refine XS.iushr X12.here hx rfl (hb hby at_53) rfl ?_
        show Steps p.tables e below (T12.setTop (mkF m 54 #[.val (.int p0), .val (.int p1), .val (.int p2), .val (.int p3), .val (.ref b2), .unset, .unset, .unset, .unset] [(.int ((p0.toUInt32 >>> ((16 : Int32) &&& 31).toUInt32).toInt32)), (.int (2 : Int32)), (.ref b2)])) _
        refine XS.i2b X12.here hx rfl (hb hby at_54) rfl ?_
        show Steps p.tables e below (T12.setTop (mkF m 55 #[.val (.int p0), .val (.int p1), .val (.int p2), .val (.int p3), .val (.ref b2), .unset, .unset, .unset, .unset] [(.int (((p0.toUInt32 >>> ((16 : Int32) &&& 31).toUInt32).toInt32).toInt8.toInt32)), (.int (2 : Int32)), (.ref b2)])) _
        refine XS.goto X12.here hx rfl (pc0 := 55) (pc' := 59) rfl (hb hby at_55) (by decide) (by decide) ?_
        exact k)⟩
  obtain ⟨cl17, Ar17, q17, S17, M17, H17, G17⟩ := id V_b2_12
  have hin17 : ¬ ((2 : Int32) < 0 ∨ cl17.slots.size ≤ ((2 : Int32)).toNatClampNeg) := inb_of S17 ⟨by decide, by decide⟩
  obtain ⟨T17, h17, X17, e17, W17, st17⟩ := stB X12 hx hZ e12 Ar17 (j := (2 : Int32)) hin17 (g := (mkF m 59 #[.val (.int p0), .val (.int p1), .val (.int p2), .val (.int p3), .val (.ref b2), .unset, .unset, .unset, .unset] [(.int j15), (.int (2 : Int32)), (.ref b2)])) rfl rfl (hb hby at_59)
  have V_b2_17 : Arv Z h17 b2 k2 .byte (6 : Int32) [(.int (nar .byte j5)), (.int (nar .byte j10)), (.int (nar .byte j15)), (.int (0 : Int32)), (.int (0 : Int32)), (.int (0 : Int32))] (.int (0 : Int32)) := Arv.set Ar17 q17 S17 M17 H17 G17 (fits_nar_byte _) W17 2 rfl (Nat.le_of_ble_eq_true rfl)
  have K17 : Keep h0 h17 [] := K12.wr W17 (Or.inr sz_b2)
  have N17 := Fr.snoc X17 N12 g_b2
  have Z17 : n0 ≤ h17.size := Nat.le_trans Z12 (Nat.le_of_eq W17.size.symm)
  have pre18 : ∀ t, Steps p.tables e below (T17.setTop (mkF m 67 #[.val (.int p0), .val (.int p1), .val (.int p2), .val (.int p3), .val (.ref b2), .unset, .unset, .unset, .unset] [(.int (p2 &&& (8 : Int32))), (.int (3 : Int32)), (.ref b2)])) t → Steps p.tables e below (s₁.setTop (entryFrame m #[(.int p0), (.int p1), (.int p2), (.int p3)] maxLocals)) t := fun t k => pre16 t (by
    show Steps p.tables e below (T12.setTop (mkF m 59 #[.val (.int p0), .val (.int p1), .val (.int p2), .val (.int p3), .val (.ref b2), .unset, .unset, .unset, .unset] [(.int j15), (.int (2 : Int32)), (.ref b2)])) _
    refine st17 _ ?_
    show Steps p.tables e below (T17.setTop (mkF m 60 #[.val (.int p0), .val (.int p1), .val (.int p2), .val (.int p3), .val (.ref b2), .unset, .unset, .unset, .unset] [])) _
    refine XS.aload X17.here hx rfl (hb hby at_60) rfl rfl ?_
    show Steps p.tables e below (T17.setTop (mkF m 62 #[.val (.int p0), .val (.int p1), .val (.int p2), .val (.int p3), .val (.ref b2), .unset, .unset, .unset, .unset] [(.ref b2)])) _
    refine XS.iconst X17.here hx rfl (hb hby at_62) ?_
    show Steps p.tables e below (T17.setTop (mkF m 63 #[.val (.int p0), .val (.int p1), .val (.int p2), .val (.int p3), .val (.ref b2), .unset, .unset, .unset, .unset] [(.int (3 : Int32)), (.ref b2)])) _
    refine XS.iloadN X17.here hx rfl (hb hby at_63) rfl ?_
    show Steps p.tables e below (T17.setTop (mkF m 64 #[.val (.int p0), .val (.int p1), .val (.int p2), .val (.int p3), .val (.ref b2), .unset, .unset, .unset, .unset] [(.int p2), (.int (3 : Int32)), (.ref b2)])) _
    refine XS.bipush X17.here hx rfl (hb hby at_64) ?_
    show Steps p.tables e below (T17.setTop (mkF m 66 #[.val (.int p0), .val (.int p1), .val (.int p2), .val (.int p3), .val (.ref b2), .unset, .unset, .unset, .unset] [(.int (8 : Int32)), (.int p2), (.int (3 : Int32)), (.ref b2)])) _
    refine XS.iand X17.here hx rfl (hb hby at_66) rfl ?_
    exact k)
  obtain ⟨j20, hj20, pre21⟩ : ∃ (j20 : Int32), j20 = (if (p2 &&& (8 : Int32)) = (0 : Int32) then (0 : Int32) else (((p0.toUInt32 >>> ((24 : Int32) &&& 31).toUInt32).toInt32).toInt8.toInt32)) ∧ ∀ t, Steps p.tables e below (T17.setTop (mkF m 79 #[.val (.int p0), .val (.int p1), .val (.int p2), .val (.int p3), .val (.ref b2), .unset, .unset, .unset, .unset] [(.int j20), (.int (3 : Int32)), (.ref b2)])) t → Steps p.tables e below (s₁.setTop (entryFrame m #[(.int p0), (.int p1), (.int p2), (.int p3)] maxLocals)) t := by
    by_cases hc19 : (p2 &&& (8 : Int32)) = (0 : Int32)
    · exact ⟨(0 : Int32), (by rw [if_pos hc19]), fun t k => pre18 t (by
        show Steps p.tables e below (T17.setTop (mkF m 67 #[.val (.int p0), .val (.int p1), .val (.int p2), .val (.int p3), .val (.ref b2), .unset, .unset, .unset, .unset] [(.int (p2 &&& (8 : Int32))), (.int (3 : Int32)), (.ref b2)])) _
        refine XS.ifYes X17.here hx rfl (pc0 := 67) (pc' := 78) rfl (hb hby at_67) rfl ((if0 _ _).trans (teq hc19).1) (by decide) (by decide) ?_
        show Steps p.tables e below (T17.setTop (mkF m 78 #[.val (.int p0), .val (.int p1), .val (.int p2), .val (.int p3), .val (.ref b2), .unset, .unset, .unset, .unset] [(.int (3 : Int32)), (.ref b2)])) _
        refine XS.iconst X17.here hx rfl (hb hby at_78) ?_
        exact k)⟩
    · exact ⟨(((p0.toUInt32 >>> ((24 : Int32) &&& 31).toUInt32).toInt32).toInt8.toInt32), (by rw [if_neg hc19]), fun t k => pre18 t (by
        show Steps p.tables e below (T17.setTop (mkF m 67 #[.val (.int p0), .val (.int p1), .val (.int p2), .val (.int p3), .val (.ref b2), .unset, .unset, .unset, .unset] [(.int (p2 &&& (8 : Int32))), (.int (3 : Int32)), (.ref b2)])) _
        refine XS.ifNo X17.here hx rfl (hb hby at_67) rfl ((if0 _ _).trans (feq hc19).1) ?_
        show Steps p.tables e below (T17.setTop (mkF m 70 #[.val (.int p0), .val (.int p1), .val (.int p2), .val (.int p3), .val (.ref b2), .unset, .unset, .unset, .unset] [(.int (3 : Int32)), (.ref b2)])) _
        refine XS.iloadN X17.here hx rfl (hb hby at_70) rfl ?_
        show Steps p.tables e below (T17.setTop (mkF m 71 #[.val (.int p0), .val (.int p1), .val (.int p2), .val (.int p3), .val (.ref b2), .unset, .unset, .unset, .unset] [(.int p0), (.int (3 : Int32)), (.ref b2)])) _
        refine XS.bipush X17.here hx rfl (hb hby at_71) ?_
        show Steps p.tables e below (T17.setTop (mkF m 73 #[.val (.int p0), .val (.int p1), .val (.int p2), .val (.int p3), .val (.ref b2), .unset, .unset, .unset, .unset] [(.int (24 : Int32)), (.int p0), (.int (3 : Int32)), (.ref b2)])) _
        refine XS.iushr X17.here hx rfl (hb hby at_73) rfl ?_
        show Steps p.tables e below (T17.setTop (mkF m 74 #[.val (.int p0), .val (.int p1), .val (.int p2), .val (.int p3), .val (.ref b2), .unset, .unset, .unset, .unset] [(.int ((p0.toUInt32 >>> ((24 : Int32) &&& 31).toUInt32).toInt32)), (.int (3 : Int32)), (.ref b2)])) _
        refine XS.i2b X17.here hx rfl (hb hby at_74) rfl ?_
        show Steps p.tables e below (T17.setTop (mkF m 75 #[.val (.int p0), .val (.int p1), .val (.int p2), .val (.int p3), .val (.ref b2), .unset, .unset, .unset, .unset] [(.int (((p0.toUInt32 >>> ((24 : Int32) &&& 31).toUInt32).toInt32).toInt8.toInt32)), (.int (3 : Int32)), (.ref b2)])) _
        refine XS.goto X17.here hx rfl (pc0 := 75) (pc' := 79) rfl (hb hby at_75) (by decide) (by decide) ?_
        exact k)⟩
  obtain ⟨cl22, Ar22, q22, S22, M22, H22, G22⟩ := id V_b2_17
  have hin22 : ¬ ((3 : Int32) < 0 ∨ cl22.slots.size ≤ ((3 : Int32)).toNatClampNeg) := inb_of S22 ⟨by decide, by decide⟩
  obtain ⟨T22, h22, X22, e22, W22, st22⟩ := stB X17 hx hZ e17 Ar22 (j := (3 : Int32)) hin22 (g := (mkF m 79 #[.val (.int p0), .val (.int p1), .val (.int p2), .val (.int p3), .val (.ref b2), .unset, .unset, .unset, .unset] [(.int j20), (.int (3 : Int32)), (.ref b2)])) rfl rfl (hb hby at_79)
  have V_b2_22 : Arv Z h22 b2 k2 .byte (6 : Int32) [(.int (nar .byte j5)), (.int (nar .byte j10)), (.int (nar .byte j15)), (.int (nar .byte j20)), (.int (0 : Int32)), (.int (0 : Int32))] (.int (0 : Int32)) := Arv.set Ar22 q22 S22 M22 H22 G22 (fits_nar_byte _) W22 3 rfl (Nat.le_of_ble_eq_true rfl)
  have K22 : Keep h0 h22 [] := K17.wr W22 (Or.inr sz_b2)
  have N22 := Fr.snoc X22 N17 g_b2
  have Z22 : n0 ≤ h22.size := Nat.le_trans Z17 (Nat.le_of_eq W22.size.symm)
  have pre23 : ∀ t, Steps p.tables e below (T22.setTop (mkF m 87 #[.val (.int p0), .val (.int p1), .val (.int p2), .val (.int p3), .val (.ref b2), .unset, .unset, .unset, .unset] [(.int (p2 &&& (16 : Int32))), (.int (4 : Int32)), (.ref b2)])) t → Steps p.tables e below (s₁.setTop (entryFrame m #[(.int p0), (.int p1), (.int p2), (.int p3)] maxLocals)) t := fun t k => pre21 t (by
    show Steps p.tables e below (T17.setTop (mkF m 79 #[.val (.int p0), .val (.int p1), .val (.int p2), .val (.int p3), .val (.ref b2), .unset, .unset, .unset, .unset] [(.int j20), (.int (3 : Int32)), (.ref b2)])) _
    refine st22 _ ?_
    show Steps p.tables e below (T22.setTop (mkF m 80 #[.val (.int p0), .val (.int p1), .val (.int p2), .val (.int p3), .val (.ref b2), .unset, .unset, .unset, .unset] [])) _
    refine XS.aload X22.here hx rfl (hb hby at_80) rfl rfl ?_
    show Steps p.tables e below (T22.setTop (mkF m 82 #[.val (.int p0), .val (.int p1), .val (.int p2), .val (.int p3), .val (.ref b2), .unset, .unset, .unset, .unset] [(.ref b2)])) _
    refine XS.iconst X22.here hx rfl (hb hby at_82) ?_
    show Steps p.tables e below (T22.setTop (mkF m 83 #[.val (.int p0), .val (.int p1), .val (.int p2), .val (.int p3), .val (.ref b2), .unset, .unset, .unset, .unset] [(.int (4 : Int32)), (.ref b2)])) _
    refine XS.iloadN X22.here hx rfl (hb hby at_83) rfl ?_
    show Steps p.tables e below (T22.setTop (mkF m 84 #[.val (.int p0), .val (.int p1), .val (.int p2), .val (.int p3), .val (.ref b2), .unset, .unset, .unset, .unset] [(.int p2), (.int (4 : Int32)), (.ref b2)])) _
    refine XS.bipush X22.here hx rfl (hb hby at_84) ?_
    show Steps p.tables e below (T22.setTop (mkF m 86 #[.val (.int p0), .val (.int p1), .val (.int p2), .val (.int p3), .val (.ref b2), .unset, .unset, .unset, .unset] [(.int (16 : Int32)), (.int p2), (.int (4 : Int32)), (.ref b2)])) _
    refine XS.iand X22.here hx rfl (hb hby at_86) rfl ?_
    exact k)
  obtain ⟨j25, hj25, pre26⟩ : ∃ (j25 : Int32), j25 = (if (p2 &&& (16 : Int32)) = (0 : Int32) then (0 : Int32) else (p1.toInt8.toInt32)) ∧ ∀ t, Steps p.tables e below (T22.setTop (mkF m 96 #[.val (.int p0), .val (.int p1), .val (.int p2), .val (.int p3), .val (.ref b2), .unset, .unset, .unset, .unset] [(.int j25), (.int (4 : Int32)), (.ref b2)])) t → Steps p.tables e below (s₁.setTop (entryFrame m #[(.int p0), (.int p1), (.int p2), (.int p3)] maxLocals)) t := by
    by_cases hc24 : (p2 &&& (16 : Int32)) = (0 : Int32)
    · exact ⟨(0 : Int32), (by rw [if_pos hc24]), fun t k => pre23 t (by
        show Steps p.tables e below (T22.setTop (mkF m 87 #[.val (.int p0), .val (.int p1), .val (.int p2), .val (.int p3), .val (.ref b2), .unset, .unset, .unset, .unset] [(.int (p2 &&& (16 : Int32))), (.int (4 : Int32)), (.ref b2)])) _
        refine XS.ifYes X22.here hx rfl (pc0 := 87) (pc' := 95) rfl (hb hby at_87) rfl ((if0 _ _).trans (teq hc24).1) (by decide) (by decide) ?_
        show Steps p.tables e below (T22.setTop (mkF m 95 #[.val (.int p0), .val (.int p1), .val (.int p2), .val (.int p3), .val (.ref b2), .unset, .unset, .unset, .unset] [(.int (4 : Int32)), (.ref b2)])) _
        refine XS.iconst X22.here hx rfl (hb hby at_95) ?_
        exact k)⟩
    · exact ⟨(p1.toInt8.toInt32), (by rw [if_neg hc24]), fun t k => pre23 t (by
        show Steps p.tables e below (T22.setTop (mkF m 87 #[.val (.int p0), .val (.int p1), .val (.int p2), .val (.int p3), .val (.ref b2), .unset, .unset, .unset, .unset] [(.int (p2 &&& (16 : Int32))), (.int (4 : Int32)), (.ref b2)])) _
        refine XS.ifNo X22.here hx rfl (hb hby at_87) rfl ((if0 _ _).trans (feq hc24).1) ?_
        show Steps p.tables e below (T22.setTop (mkF m 90 #[.val (.int p0), .val (.int p1), .val (.int p2), .val (.int p3), .val (.ref b2), .unset, .unset, .unset, .unset] [(.int (4 : Int32)), (.ref b2)])) _
        refine XS.iloadN X22.here hx rfl (hb hby at_90) rfl ?_
        show Steps p.tables e below (T22.setTop (mkF m 91 #[.val (.int p0), .val (.int p1), .val (.int p2), .val (.int p3), .val (.ref b2), .unset, .unset, .unset, .unset] [(.int p1), (.int (4 : Int32)), (.ref b2)])) _
        refine XS.i2b X22.here hx rfl (hb hby at_91) rfl ?_
        show Steps p.tables e below (T22.setTop (mkF m 92 #[.val (.int p0), .val (.int p1), .val (.int p2), .val (.int p3), .val (.ref b2), .unset, .unset, .unset, .unset] [(.int (p1.toInt8.toInt32)), (.int (4 : Int32)), (.ref b2)])) _
        refine XS.goto X22.here hx rfl (pc0 := 92) (pc' := 96) rfl (hb hby at_92) (by decide) (by decide) ?_
        exact k)⟩
  obtain ⟨cl27, Ar27, q27, S27, M27, H27, G27⟩ := id V_b2_22
  have hin27 : ¬ ((4 : Int32) < 0 ∨ cl27.slots.size ≤ ((4 : Int32)).toNatClampNeg) := inb_of S27 ⟨by decide, by decide⟩
  obtain ⟨T27, h27, X27, e27, W27, st27⟩ := stB X22 hx hZ e22 Ar27 (j := (4 : Int32)) hin27 (g := (mkF m 96 #[.val (.int p0), .val (.int p1), .val (.int p2), .val (.int p3), .val (.ref b2), .unset, .unset, .unset, .unset] [(.int j25), (.int (4 : Int32)), (.ref b2)])) rfl rfl (hb hby at_96)
  have V_b2_27 : Arv Z h27 b2 k2 .byte (6 : Int32) [(.int (nar .byte j5)), (.int (nar .byte j10)), (.int (nar .byte j15)), (.int (nar .byte j20)), (.int (nar .byte j25)), (.int (0 : Int32))] (.int (0 : Int32)) := Arv.set Ar27 q27 S27 M27 H27 G27 (fits_nar_byte _) W27 4 rfl (Nat.le_of_ble_eq_true rfl)
  have K27 : Keep h0 h27 [] := K22.wr W27 (Or.inr sz_b2)
  have N27 := Fr.snoc X27 N22 g_b2
  have Z27 : n0 ≤ h27.size := Nat.le_trans Z22 (Nat.le_of_eq W27.size.symm)
  have pre28 : ∀ t, Steps p.tables e below (T27.setTop (mkF m 104 #[.val (.int p0), .val (.int p1), .val (.int p2), .val (.int p3), .val (.ref b2), .unset, .unset, .unset, .unset] [(.int (p2 &&& (32 : Int32))), (.int (5 : Int32)), (.ref b2)])) t → Steps p.tables e below (s₁.setTop (entryFrame m #[(.int p0), (.int p1), (.int p2), (.int p3)] maxLocals)) t := fun t k => pre26 t (by
    show Steps p.tables e below (T22.setTop (mkF m 96 #[.val (.int p0), .val (.int p1), .val (.int p2), .val (.int p3), .val (.ref b2), .unset, .unset, .unset, .unset] [(.int j25), (.int (4 : Int32)), (.ref b2)])) _
    refine st27 _ ?_
    show Steps p.tables e below (T27.setTop (mkF m 97 #[.val (.int p0), .val (.int p1), .val (.int p2), .val (.int p3), .val (.ref b2), .unset, .unset, .unset, .unset] [])) _
    refine XS.aload X27.here hx rfl (hb hby at_97) rfl rfl ?_
    show Steps p.tables e below (T27.setTop (mkF m 99 #[.val (.int p0), .val (.int p1), .val (.int p2), .val (.int p3), .val (.ref b2), .unset, .unset, .unset, .unset] [(.ref b2)])) _
    refine XS.iconst X27.here hx rfl (hb hby at_99) ?_
    show Steps p.tables e below (T27.setTop (mkF m 100 #[.val (.int p0), .val (.int p1), .val (.int p2), .val (.int p3), .val (.ref b2), .unset, .unset, .unset, .unset] [(.int (5 : Int32)), (.ref b2)])) _
    refine XS.iloadN X27.here hx rfl (hb hby at_100) rfl ?_
    show Steps p.tables e below (T27.setTop (mkF m 101 #[.val (.int p0), .val (.int p1), .val (.int p2), .val (.int p3), .val (.ref b2), .unset, .unset, .unset, .unset] [(.int p2), (.int (5 : Int32)), (.ref b2)])) _
    refine XS.bipush X27.here hx rfl (hb hby at_101) ?_
    show Steps p.tables e below (T27.setTop (mkF m 103 #[.val (.int p0), .val (.int p1), .val (.int p2), .val (.int p3), .val (.ref b2), .unset, .unset, .unset, .unset] [(.int (32 : Int32)), (.int p2), (.int (5 : Int32)), (.ref b2)])) _
    refine XS.iand X27.here hx rfl (hb hby at_103) rfl ?_
    exact k)
  obtain ⟨j30, hj30, pre31⟩ : ∃ (j30 : Int32), j30 = (if (p2 &&& (32 : Int32)) = (0 : Int32) then (0 : Int32) else (((p1.toUInt32 >>> ((8 : Int32) &&& 31).toUInt32).toInt32).toInt8.toInt32)) ∧ ∀ t, Steps p.tables e below (T27.setTop (mkF m 116 #[.val (.int p0), .val (.int p1), .val (.int p2), .val (.int p3), .val (.ref b2), .unset, .unset, .unset, .unset] [(.int j30), (.int (5 : Int32)), (.ref b2)])) t → Steps p.tables e below (s₁.setTop (entryFrame m #[(.int p0), (.int p1), (.int p2), (.int p3)] maxLocals)) t := by
    by_cases hc29 : (p2 &&& (32 : Int32)) = (0 : Int32)
    · exact ⟨(0 : Int32), (by rw [if_pos hc29]), fun t k => pre28 t (by
        show Steps p.tables e below (T27.setTop (mkF m 104 #[.val (.int p0), .val (.int p1), .val (.int p2), .val (.int p3), .val (.ref b2), .unset, .unset, .unset, .unset] [(.int (p2 &&& (32 : Int32))), (.int (5 : Int32)), (.ref b2)])) _
        refine XS.ifYes X27.here hx rfl (pc0 := 104) (pc' := 115) rfl (hb hby at_104) rfl ((if0 _ _).trans (teq hc29).1) (by decide) (by decide) ?_
        show Steps p.tables e below (T27.setTop (mkF m 115 #[.val (.int p0), .val (.int p1), .val (.int p2), .val (.int p3), .val (.ref b2), .unset, .unset, .unset, .unset] [(.int (5 : Int32)), (.ref b2)])) _
        refine XS.iconst X27.here hx rfl (hb hby at_115) ?_
        exact k)⟩
    · exact ⟨(((p1.toUInt32 >>> ((8 : Int32) &&& 31).toUInt32).toInt32).toInt8.toInt32), (by rw [if_neg hc29]), fun t k => pre28 t (by
        show Steps p.tables e below (T27.setTop (mkF m 104 #[.val (.int p0), .val (.int p1), .val (.int p2), .val (.int p3), .val (.ref b2), .unset, .unset, .unset, .unset] [(.int (p2 &&& (32 : Int32))), (.int (5 : Int32)), (.ref b2)])) _
        refine XS.ifNo X27.here hx rfl (hb hby at_104) rfl ((if0 _ _).trans (feq hc29).1) ?_
        show Steps p.tables e below (T27.setTop (mkF m 107 #[.val (.int p0), .val (.int p1), .val (.int p2), .val (.int p3), .val (.ref b2), .unset, .unset, .unset, .unset] [(.int (5 : Int32)), (.ref b2)])) _
        refine XS.iloadN X27.here hx rfl (hb hby at_107) rfl ?_
        show Steps p.tables e below (T27.setTop (mkF m 108 #[.val (.int p0), .val (.int p1), .val (.int p2), .val (.int p3), .val (.ref b2), .unset, .unset, .unset, .unset] [(.int p1), (.int (5 : Int32)), (.ref b2)])) _
        refine XS.bipush X27.here hx rfl (hb hby at_108) ?_
        show Steps p.tables e below (T27.setTop (mkF m 110 #[.val (.int p0), .val (.int p1), .val (.int p2), .val (.int p3), .val (.ref b2), .unset, .unset, .unset, .unset] [(.int (8 : Int32)), (.int p1), (.int (5 : Int32)), (.ref b2)])) _
        refine XS.iushr X27.here hx rfl (hb hby at_110) rfl ?_
        show Steps p.tables e below (T27.setTop (mkF m 111 #[.val (.int p0), .val (.int p1), .val (.int p2), .val (.int p3), .val (.ref b2), .unset, .unset, .unset, .unset] [(.int ((p1.toUInt32 >>> ((8 : Int32) &&& 31).toUInt32).toInt32)), (.int (5 : Int32)), (.ref b2)])) _
        refine XS.i2b X27.here hx rfl (hb hby at_111) rfl ?_
        show Steps p.tables e below (T27.setTop (mkF m 112 #[.val (.int p0), .val (.int p1), .val (.int p2), .val (.int p3), .val (.ref b2), .unset, .unset, .unset, .unset] [(.int (((p1.toUInt32 >>> ((8 : Int32) &&& 31).toUInt32).toInt32).toInt8.toInt32)), (.int (5 : Int32)), (.ref b2)])) _
        refine XS.goto X27.here hx rfl (pc0 := 112) (pc' := 116) rfl (hb hby at_112) (by decide) (by decide) ?_
        exact k)⟩
  obtain ⟨cl32, Ar32, q32, S32, M32, H32, G32⟩ := id V_b2_27
  have hin32 : ¬ ((5 : Int32) < 0 ∨ cl32.slots.size ≤ ((5 : Int32)).toNatClampNeg) := inb_of S32 ⟨by decide, by decide⟩
  obtain ⟨T32, h32, X32, e32, W32, st32⟩ := stB X27 hx hZ e27 Ar32 (j := (5 : Int32)) hin32 (g := (mkF m 116 #[.val (.int p0), .val (.int p1), .val (.int p2), .val (.int p3), .val (.ref b2), .unset, .unset, .unset, .unset] [(.int j30), (.int (5 : Int32)), (.ref b2)])) rfl rfl (hb hby at_116)
  have V_b2_32 : Arv Z h32 b2 k2 .byte (6 : Int32) [(.int (nar .byte j5)), (.int (nar .byte j10)), (.int (nar .byte j15)), (.int (nar .byte j20)), (.int (nar .byte j25)), (.int (nar .byte j30))] (.int (0 : Int32)) := Arv.set Ar32 q32 S32 M32 H32 G32 (fits_nar_byte _) W32 5 rfl (Nat.le_of_ble_eq_true rfl)
  have K32 : Keep h0 h32 [] := K27.wr W32 (Or.inr sz_b2)
  have N32 := Fr.snoc X32 N27 g_b2
  have Z32 : n0 ≤ h32.size := Nat.le_trans Z27 (Nat.le_of_eq W32.size.symm)
  have pre34 : ∀ t, Steps p.tables e below (T32.setTop (mkF m 117 #[.val (.int p0), .val (.int p1), .val (.int p2), .val (.int p3), .val (.ref b2), .unset, .unset, .unset, .unset] [])) t → Steps p.tables e below (s₁.setTop (entryFrame m #[(.int p0), (.int p1), (.int p2), (.int p3)] maxLocals)) t := fun t k => pre31 t (by
    show Steps p.tables e below (T27.setTop (mkF m 116 #[.val (.int p0), .val (.int p1), .val (.int p2), .val (.int p3), .val (.ref b2), .unset, .unset, .unset, .unset] [(.int j30), (.int (5 : Int32)), (.ref b2)])) _
    refine st32 _ ?_
    exact k)
  obtain ⟨vs33, hvs33⟩ : ∃ z : List Int32, z = [(nar .byte j5), (nar .byte j10), (nar .byte j15), (nar .byte j20), (nar .byte j25), (nar .byte j30)] := ⟨_, rfl⟩
  have hl_vs33 : vs33.length = 6 := by rw [hvs33]; rfl
  have V_b2_vs33 : Arv Z h32 b2 k2 .byte (6 : Int32) (List.map Value.int vs33) (.int (0 : Int32)) := by rw [hvs33]; exact V_b2_32
  have pre35 : ∀ t, Steps p.tables e below (T32.setTop (mkF m 123 #[.val (.int p0), .val (.int p1), .val (.int p2), .val (.int p3), .val (.ref b2), .unset, .unset, .unset, .unset] [(.int ((p3 &&& (2147483647 : Int32)) % (3 : Int32)))])) t → Steps p.tables e below (s₁.setTop (entryFrame m #[(.int p0), (.int p1), (.int p2), (.int p3)] maxLocals)) t := fun t k => pre34 t (by
    show Steps p.tables e below (T32.setTop (mkF m 117 #[.val (.int p0), .val (.int p1), .val (.int p2), .val (.int p3), .val (.ref b2), .unset, .unset, .unset, .unset] [])) _
    refine XS.iloadN X32.here hx rfl (hb hby at_117) rfl ?_
    show Steps p.tables e below (T32.setTop (mkF m 118 #[.val (.int p0), .val (.int p1), .val (.int p2), .val (.int p3), .val (.ref b2), .unset, .unset, .unset, .unset] [(.int p3)])) _
    refine X32.ldcInt hx hown (mvT hZ (hw _ (List.mem_of_getElem? (i := 1) rfl))) (g := (mkF m 118 #[.val (.int p0), .val (.int p1), .val (.int p2), .val (.int p3), .val (.ref b2), .unset, .unset, .unset, .unset] [(.int p3)])) rfl (hb hby at_118) _ ?_
    show Steps p.tables e below (T32.setTop (mkF m 120 #[.val (.int p0), .val (.int p1), .val (.int p2), .val (.int p3), .val (.ref b2), .unset, .unset, .unset, .unset] [(.int (2147483647 : Int32)), (.int p3)])) _
    refine XS.iand X32.here hx rfl (hb hby at_120) rfl ?_
    show Steps p.tables e below (T32.setTop (mkF m 121 #[.val (.int p0), .val (.int p1), .val (.int p2), .val (.int p3), .val (.ref b2), .unset, .unset, .unset, .unset] [(.int (p3 &&& (2147483647 : Int32)))])) _
    refine XS.iconst X32.here hx rfl (hb hby at_121) ?_
    show Steps p.tables e below (T32.setTop (mkF m 122 #[.val (.int p0), .val (.int p1), .val (.int p2), .val (.int p3), .val (.ref b2), .unset, .unset, .unset, .unset] [(.int (3 : Int32)), (.int (p3 &&& (2147483647 : Int32)))])) _
    refine iremM X32 hx rfl (hb hby at_122) rfl (by decide) ?_
    exact k)
  obtain ⟨v36, hv36⟩ : ∃ z : Int32, z = ((p3 &&& (2147483647 : Int32)) % (3 : Int32)) := ⟨_, rfl⟩
  have pre37 : ∀ t, Steps p.tables e below (T32.setTop (mkF m 123 #[.val (.int p0), .val (.int p1), .val (.int p2), .val (.int p3), .val (.ref b2), .unset, .unset, .unset, .unset] [(.int v36)])) t → Steps p.tables e below (s₁.setTop (entryFrame m #[(.int p0), (.int p1), (.int p2), (.int p3)] maxLocals)) t := fun t k => pre35 t (by rw [hv36] at k; exact k)
  have pre38 : ∀ t, Steps p.tables e below (T32.setTop (mkF m 134 #[.val (.int p0), .val (.int p1), .val (.int p2), .val (.int p3), .val (.ref b2), .val (.int v36), .unset, .unset, .unset] [(.int ((((p3.toUInt32 >>> ((8 : Int32) &&& 31).toUInt32).toInt32) &&& (2147483647 : Int32)) % (5 : Int32)))])) t → Steps p.tables e below (s₁.setTop (entryFrame m #[(.int p0), (.int p1), (.int p2), (.int p3)] maxLocals)) t := fun t k => pre37 t (by
    show Steps p.tables e below (T32.setTop (mkF m 123 #[.val (.int p0), .val (.int p1), .val (.int p2), .val (.int p3), .val (.ref b2), .unset, .unset, .unset, .unset] [(.int v36)])) _
    refine XS.istore X32.here hx rfl (hb hby at_123) rfl (l' := #[.val (.int p0), .val (.int p1), .val (.int p2), .val (.int p3), .val (.ref b2), .val (.int v36), .unset, .unset, .unset]) rfl ?_
    show Steps p.tables e below (T32.setTop (mkF m 125 #[.val (.int p0), .val (.int p1), .val (.int p2), .val (.int p3), .val (.ref b2), .val (.int v36), .unset, .unset, .unset] [])) _
    refine XS.iloadN X32.here hx rfl (hb hby at_125) rfl ?_
    show Steps p.tables e below (T32.setTop (mkF m 126 #[.val (.int p0), .val (.int p1), .val (.int p2), .val (.int p3), .val (.ref b2), .val (.int v36), .unset, .unset, .unset] [(.int p3)])) _
    refine XS.bipush X32.here hx rfl (hb hby at_126) ?_
    show Steps p.tables e below (T32.setTop (mkF m 128 #[.val (.int p0), .val (.int p1), .val (.int p2), .val (.int p3), .val (.ref b2), .val (.int v36), .unset, .unset, .unset] [(.int (8 : Int32)), (.int p3)])) _
    refine XS.iushr X32.here hx rfl (hb hby at_128) rfl ?_
    show Steps p.tables e below (T32.setTop (mkF m 129 #[.val (.int p0), .val (.int p1), .val (.int p2), .val (.int p3), .val (.ref b2), .val (.int v36), .unset, .unset, .unset] [(.int ((p3.toUInt32 >>> ((8 : Int32) &&& 31).toUInt32).toInt32))])) _
    refine X32.ldcInt hx hown (mvT hZ (hw _ (List.mem_of_getElem? (i := 1) rfl))) (g := (mkF m 129 #[.val (.int p0), .val (.int p1), .val (.int p2), .val (.int p3), .val (.ref b2), .val (.int v36), .unset, .unset, .unset] [(.int ((p3.toUInt32 >>> ((8 : Int32) &&& 31).toUInt32).toInt32))])) rfl (hb hby at_129) _ ?_
    show Steps p.tables e below (T32.setTop (mkF m 131 #[.val (.int p0), .val (.int p1), .val (.int p2), .val (.int p3), .val (.ref b2), .val (.int v36), .unset, .unset, .unset] [(.int (2147483647 : Int32)), (.int ((p3.toUInt32 >>> ((8 : Int32) &&& 31).toUInt32).toInt32))])) _
    refine XS.iand X32.here hx rfl (hb hby at_131) rfl ?_
    show Steps p.tables e below (T32.setTop (mkF m 132 #[.val (.int p0), .val (.int p1), .val (.int p2), .val (.int p3), .val (.ref b2), .val (.int v36), .unset, .unset, .unset] [(.int (((p3.toUInt32 >>> ((8 : Int32) &&& 31).toUInt32).toInt32) &&& (2147483647 : Int32)))])) _
    refine XS.iconst X32.here hx rfl (hb hby at_132) ?_
    show Steps p.tables e below (T32.setTop (mkF m 133 #[.val (.int p0), .val (.int p1), .val (.int p2), .val (.int p3), .val (.ref b2), .val (.int v36), .unset, .unset, .unset] [(.int (5 : Int32)), (.int (((p3.toUInt32 >>> ((8 : Int32) &&& 31).toUInt32).toInt32) &&& (2147483647 : Int32)))])) _
    refine iremM X32 hx rfl (hb hby at_133) rfl (by decide) ?_
    exact k)
  obtain ⟨v39, hv39⟩ : ∃ z : Int32, z = ((((p3.toUInt32 >>> ((8 : Int32) &&& 31).toUInt32).toInt32) &&& (2147483647 : Int32)) % (5 : Int32)) := ⟨_, rfl⟩
  have pre40 : ∀ t, Steps p.tables e below (T32.setTop (mkF m 134 #[.val (.int p0), .val (.int p1), .val (.int p2), .val (.int p3), .val (.ref b2), .val (.int v36), .unset, .unset, .unset] [(.int v39)])) t → Steps p.tables e below (s₁.setTop (entryFrame m #[(.int p0), (.int p1), (.int p2), (.int p3)] maxLocals)) t := fun t k => pre38 t (by rw [hv39] at k; exact k)
  have pre41 : ∀ t, Steps p.tables e below (T32.setTop (mkF m 142 #[.val (.int p0), .val (.int p1), .val (.int p2), .val (.int p3), .val (.ref b2), .val (.int v36), .val (.int v39), .val (.int (0 : Int32)), .unset] [(.int (1 : Int32)), (.int v39)])) t → Steps p.tables e below (s₁.setTop (entryFrame m #[(.int p0), (.int p1), (.int p2), (.int p3)] maxLocals)) t := fun t k => pre40 t (by
    show Steps p.tables e below (T32.setTop (mkF m 134 #[.val (.int p0), .val (.int p1), .val (.int p2), .val (.int p3), .val (.ref b2), .val (.int v36), .unset, .unset, .unset] [(.int v39)])) _
    refine XS.istore X32.here hx rfl (hb hby at_134) rfl (l' := #[.val (.int p0), .val (.int p1), .val (.int p2), .val (.int p3), .val (.ref b2), .val (.int v36), .val (.int v39), .unset, .unset]) rfl ?_
    show Steps p.tables e below (T32.setTop (mkF m 136 #[.val (.int p0), .val (.int p1), .val (.int p2), .val (.int p3), .val (.ref b2), .val (.int v36), .val (.int v39), .unset, .unset] [])) _
    refine XS.iconst X32.here hx rfl (hb hby at_136) ?_
    show Steps p.tables e below (T32.setTop (mkF m 137 #[.val (.int p0), .val (.int p1), .val (.int p2), .val (.int p3), .val (.ref b2), .val (.int v36), .val (.int v39), .unset, .unset] [(.int (0 : Int32))])) _
    refine XS.istore X32.here hx rfl (hb hby at_137) rfl (l' := #[.val (.int p0), .val (.int p1), .val (.int p2), .val (.int p3), .val (.ref b2), .val (.int v36), .val (.int v39), .val (.int (0 : Int32)), .unset]) rfl ?_
    show Steps p.tables e below (T32.setTop (mkF m 139 #[.val (.int p0), .val (.int p1), .val (.int p2), .val (.int p3), .val (.ref b2), .val (.int v36), .val (.int v39), .val (.int (0 : Int32)), .unset] [])) _
    refine XS.iload X32.here hx rfl (hb hby at_139) rfl ?_
    show Steps p.tables e below (T32.setTop (mkF m 141 #[.val (.int p0), .val (.int p1), .val (.int p2), .val (.int p3), .val (.ref b2), .val (.int v36), .val (.int v39), .val (.int (0 : Int32)), .unset] [(.int v39)])) _
    refine XS.iconst X32.here hx rfl (hb hby at_141) ?_
    exact k)
  obtain ⟨j47, hj47, pre48⟩ : ∃ (j47 : Int32), j47 = (if v39 < (1 : Int32) then (0 : Int32) else (if (own_get vs33 v36) = (0 : Int32) then (0 : Int32) else (1 : Int32))) ∧ ∀ t, Steps p.tables e below (T32.setTop (mkF m 156 #[.val (.int p0), .val (.int p1), .val (.int p2), .val (.int p3), .val (.ref b2), .val (.int v36), .val (.int v39), .val (.int j47), .unset] [])) t → Steps p.tables e below (s₁.setTop (entryFrame m #[(.int p0), (.int p1), (.int p2), (.int p3)] maxLocals)) t := by
    by_cases hc42 : v39 < (1 : Int32)
    · exact ⟨(0 : Int32), (by rw [if_pos hc42]), fun t k => pre41 t (by
        show Steps p.tables e below (T32.setTop (mkF m 142 #[.val (.int p0), .val (.int p1), .val (.int p2), .val (.int p3), .val (.ref b2), .val (.int v36), .val (.int v39), .val (.int (0 : Int32)), .unset] [(.int (1 : Int32)), (.int v39)])) _
        refine XS.icmpYes X32.here hx rfl (pc0 := 142) (pc' := 156) rfl (hb hby at_142) rfl (tlt hc42).1 (by decide) (by decide) ?_
        exact k)⟩
    · have pre43 : ∀ t, Steps p.tables e below (T32.setTop (mkF m 149 #[.val (.int p0), .val (.int p1), .val (.int p2), .val (.int p3), .val (.ref b2), .val (.int v36), .val (.int v39), .val (.int (0 : Int32)), .unset] [(.int v36), (.ref b2)])) t → Steps p.tables e below (s₁.setTop (entryFrame m #[(.int p0), (.int p1), (.int p2), (.int p3)] maxLocals)) t := fun t k => pre41 t (by
        show Steps p.tables e below (T32.setTop (mkF m 142 #[.val (.int p0), .val (.int p1), .val (.int p2), .val (.int p3), .val (.ref b2), .val (.int v36), .val (.int v39), .val (.int (0 : Int32)), .unset] [(.int (1 : Int32)), (.int v39)])) _
        refine XS.icmpNo X32.here hx rfl (hb hby at_142) rfl (flt hc42).1 ?_
        show Steps p.tables e below (T32.setTop (mkF m 145 #[.val (.int p0), .val (.int p1), .val (.int p2), .val (.int p3), .val (.ref b2), .val (.int v36), .val (.int v39), .val (.int (0 : Int32)), .unset] [])) _
        refine XS.aload X32.here hx rfl (hb hby at_145) rfl rfl ?_
        show Steps p.tables e below (T32.setTop (mkF m 147 #[.val (.int p0), .val (.int p1), .val (.int p2), .val (.int p3), .val (.ref b2), .val (.int v36), .val (.int v39), .val (.int (0 : Int32)), .unset] [(.ref b2)])) _
        refine XS.iload X32.here hx rfl (hb hby at_147) rfl ?_
        exact k)
      have kown_in0_149_1 : ¬ v36 < 0 ∧ v36 < (6 : Int32) := own_in0_149_1 p0 p1 p2 p3 j5 hj5 j10 hj10 j15 hj15 j20 hj20 j25 hj25 j30 hj30 vs33 hvs33 v36 hv36 v39 hv39 hc42
      obtain ⟨cl44, Ar44, q44, S44, M44, H44, G44⟩ := id V_b2_vs33
      have hin44 : ¬ (v36 < 0 ∨ cl44.slots.size ≤ (v36).toNatClampNeg) := inb_of S44 kown_in0_149_1
      have hat44 : cl44.slots[(v36).toNatClampNeg]? = some (.int (own_get vs33 v36)) := H44.at hin44 (own_getD vs33 v36)
      have pre45 : ∀ t, Steps p.tables e below (T32.setTop (mkF m 150 #[.val (.int p0), .val (.int p1), .val (.int p2), .val (.int p3), .val (.ref b2), .val (.int v36), .val (.int v39), .val (.int (0 : Int32)), .unset] [(.int (own_get vs33 v36))])) t → Steps p.tables e below (s₁.setTop (entryFrame m #[(.int p0), (.int p1), (.int p2), (.int p3)] maxLocals)) t := fun t k => pre43 t (by
        show Steps p.tables e below (T32.setTop (mkF m 149 #[.val (.int p0), .val (.int p1), .val (.int p2), .val (.int p3), .val (.ref b2), .val (.int v36), .val (.int v39), .val (.int (0 : Int32)), .unset] [(.int v36), (.ref b2)])) _
        refine X32.baloadBytes hx (j := v36) (v := (.int (own_get vs33 v36))) (by rw [e32]; exact Ar44.1) (State.isArrayOf_alike hZ.alike Ar44.2.1) Ar44.2.2 hin44 hat44 (g := (mkF m 149 #[.val (.int p0), .val (.int p1), .val (.int p2), .val (.int p3), .val (.ref b2), .val (.int v36), .val (.int v39), .val (.int (0 : Int32)), .unset] [(.int v36), (.ref b2)])) rfl rfl (hb hby at_149) _ ?_
        exact k)
      by_cases hc46 : (own_get vs33 v36) = (0 : Int32)
      · exact ⟨(0 : Int32), (by rw [if_neg hc42, if_pos hc46]), fun t k => pre45 t (by
          show Steps p.tables e below (T32.setTop (mkF m 150 #[.val (.int p0), .val (.int p1), .val (.int p2), .val (.int p3), .val (.ref b2), .val (.int v36), .val (.int v39), .val (.int (0 : Int32)), .unset] [(.int (own_get vs33 v36))])) _
          refine XS.ifYes X32.here hx rfl (pc0 := 150) (pc' := 156) rfl (hb hby at_150) rfl ((if0 _ _).trans (teq hc46).1) (by decide) (by decide) ?_
          exact k)⟩
      · exact ⟨(1 : Int32), (by rw [if_neg hc42, if_neg hc46]), fun t k => pre45 t (by
          show Steps p.tables e below (T32.setTop (mkF m 150 #[.val (.int p0), .val (.int p1), .val (.int p2), .val (.int p3), .val (.ref b2), .val (.int v36), .val (.int v39), .val (.int (0 : Int32)), .unset] [(.int (own_get vs33 v36))])) _
          refine XS.ifNo X32.here hx rfl (hb hby at_150) rfl ((if0 _ _).trans (feq hc46).1) ?_
          show Steps p.tables e below (T32.setTop (mkF m 153 #[.val (.int p0), .val (.int p1), .val (.int p2), .val (.int p3), .val (.ref b2), .val (.int v36), .val (.int v39), .val (.int (0 : Int32)), .unset] [])) _
          refine XS.iconst X32.here hx rfl (hb hby at_153) ?_
          show Steps p.tables e below (T32.setTop (mkF m 154 #[.val (.int p0), .val (.int p1), .val (.int p2), .val (.int p3), .val (.ref b2), .val (.int v36), .val (.int v39), .val (.int (0 : Int32)), .unset] [(.int (1 : Int32))])) _
          refine XS.istore X32.here hx rfl (hb hby at_154) rfl (l' := #[.val (.int p0), .val (.int p1), .val (.int p2), .val (.int p3), .val (.ref b2), .val (.int v36), .val (.int v39), .val (.int (1 : Int32)), .unset]) rfl ?_
          exact k)⟩
  have pre49 : ∀ t, Steps p.tables e below (T32.setTop (mkF m 159 #[.val (.int p0), .val (.int p1), .val (.int p2), .val (.int p3), .val (.ref b2), .val (.int v36), .val (.int v39), .val (.int j47), .unset] [(.int (2 : Int32)), (.int v39)])) t → Steps p.tables e below (s₁.setTop (entryFrame m #[(.int p0), (.int p1), (.int p2), (.int p3)] maxLocals)) t := fun t k => pre48 t (by
    show Steps p.tables e below (T32.setTop (mkF m 156 #[.val (.int p0), .val (.int p1), .val (.int p2), .val (.int p3), .val (.ref b2), .val (.int v36), .val (.int v39), .val (.int j47), .unset] [])) _
    refine XS.iload X32.here hx rfl (hb hby at_156) rfl ?_
    show Steps p.tables e below (T32.setTop (mkF m 158 #[.val (.int p0), .val (.int p1), .val (.int p2), .val (.int p3), .val (.ref b2), .val (.int v36), .val (.int v39), .val (.int j47), .unset] [(.int v39)])) _
    refine XS.iconst X32.here hx rfl (hb hby at_158) ?_
    exact k)
  obtain ⟨j55, hj55, pre56⟩ : ∃ (j55 : Int32), j55 = (if v39 < (2 : Int32) then j47 else (if (own_get vs33 (v36 + (1 : Int32))) = (0 : Int32) then j47 else (2 : Int32))) ∧ ∀ t, Steps p.tables e below (T32.setTop (mkF m 175 #[.val (.int p0), .val (.int p1), .val (.int p2), .val (.int p3), .val (.ref b2), .val (.int v36), .val (.int v39), .val (.int j55), .unset] [])) t → Steps p.tables e below (s₁.setTop (entryFrame m #[(.int p0), (.int p1), (.int p2), (.int p3)] maxLocals)) t := by
    by_cases hc50 : v39 < (2 : Int32)
    · exact ⟨j47, (by rw [if_pos hc50]), fun t k => pre49 t (by
        show Steps p.tables e below (T32.setTop (mkF m 159 #[.val (.int p0), .val (.int p1), .val (.int p2), .val (.int p3), .val (.ref b2), .val (.int v36), .val (.int v39), .val (.int j47), .unset] [(.int (2 : Int32)), (.int v39)])) _
        refine XS.icmpYes X32.here hx rfl (pc0 := 159) (pc' := 175) rfl (hb hby at_159) rfl (tlt hc50).1 (by decide) (by decide) ?_
        exact k)⟩
    · have pre51 : ∀ t, Steps p.tables e below (T32.setTop (mkF m 168 #[.val (.int p0), .val (.int p1), .val (.int p2), .val (.int p3), .val (.ref b2), .val (.int v36), .val (.int v39), .val (.int j47), .unset] [(.int (v36 + (1 : Int32))), (.ref b2)])) t → Steps p.tables e below (s₁.setTop (entryFrame m #[(.int p0), (.int p1), (.int p2), (.int p3)] maxLocals)) t := fun t k => pre49 t (by
        show Steps p.tables e below (T32.setTop (mkF m 159 #[.val (.int p0), .val (.int p1), .val (.int p2), .val (.int p3), .val (.ref b2), .val (.int v36), .val (.int v39), .val (.int j47), .unset] [(.int (2 : Int32)), (.int v39)])) _
        refine XS.icmpNo X32.here hx rfl (hb hby at_159) rfl (flt hc50).1 ?_
        show Steps p.tables e below (T32.setTop (mkF m 162 #[.val (.int p0), .val (.int p1), .val (.int p2), .val (.int p3), .val (.ref b2), .val (.int v36), .val (.int v39), .val (.int j47), .unset] [])) _
        refine XS.aload X32.here hx rfl (hb hby at_162) rfl rfl ?_
        show Steps p.tables e below (T32.setTop (mkF m 164 #[.val (.int p0), .val (.int p1), .val (.int p2), .val (.int p3), .val (.ref b2), .val (.int v36), .val (.int v39), .val (.int j47), .unset] [(.ref b2)])) _
        refine XS.iload X32.here hx rfl (hb hby at_164) rfl ?_
        show Steps p.tables e below (T32.setTop (mkF m 166 #[.val (.int p0), .val (.int p1), .val (.int p2), .val (.int p3), .val (.ref b2), .val (.int v36), .val (.int v39), .val (.int j47), .unset] [(.int v36), (.ref b2)])) _
        refine XS.iconst X32.here hx rfl (hb hby at_166) ?_
        show Steps p.tables e below (T32.setTop (mkF m 167 #[.val (.int p0), .val (.int p1), .val (.int p2), .val (.int p3), .val (.ref b2), .val (.int v36), .val (.int v39), .val (.int j47), .unset] [(.int (1 : Int32)), (.int v36), (.ref b2)])) _
        refine XS.iadd X32.here hx rfl (hb hby at_167) rfl ?_
        exact k)
      have kown_in0_168_1 : ¬ (v36 + (1 : Int32)) < 0 ∧ (v36 + (1 : Int32)) < (6 : Int32) := own_in0_168_1 p0 p1 p2 p3 j5 hj5 j10 hj10 j15 hj15 j20 hj20 j25 hj25 j30 hj30 vs33 hvs33 v36 hv36 v39 hv39 j47 hj47 hc50
      obtain ⟨cl52, Ar52, q52, S52, M52, H52, G52⟩ := id V_b2_vs33
      have hin52 : ¬ ((v36 + (1 : Int32)) < 0 ∨ cl52.slots.size ≤ ((v36 + (1 : Int32))).toNatClampNeg) := inb_of S52 kown_in0_168_1
      have hat52 : cl52.slots[((v36 + (1 : Int32))).toNatClampNeg]? = some (.int (own_get vs33 (v36 + (1 : Int32)))) := H52.at hin52 (own_getD vs33 (v36 + (1 : Int32)))
      have pre53 : ∀ t, Steps p.tables e below (T32.setTop (mkF m 169 #[.val (.int p0), .val (.int p1), .val (.int p2), .val (.int p3), .val (.ref b2), .val (.int v36), .val (.int v39), .val (.int j47), .unset] [(.int (own_get vs33 (v36 + (1 : Int32))))])) t → Steps p.tables e below (s₁.setTop (entryFrame m #[(.int p0), (.int p1), (.int p2), (.int p3)] maxLocals)) t := fun t k => pre51 t (by
        show Steps p.tables e below (T32.setTop (mkF m 168 #[.val (.int p0), .val (.int p1), .val (.int p2), .val (.int p3), .val (.ref b2), .val (.int v36), .val (.int v39), .val (.int j47), .unset] [(.int (v36 + (1 : Int32))), (.ref b2)])) _
        refine X32.baloadBytes hx (j := (v36 + (1 : Int32))) (v := (.int (own_get vs33 (v36 + (1 : Int32))))) (by rw [e32]; exact Ar52.1) (State.isArrayOf_alike hZ.alike Ar52.2.1) Ar52.2.2 hin52 hat52 (g := (mkF m 168 #[.val (.int p0), .val (.int p1), .val (.int p2), .val (.int p3), .val (.ref b2), .val (.int v36), .val (.int v39), .val (.int j47), .unset] [(.int (v36 + (1 : Int32))), (.ref b2)])) rfl rfl (hb hby at_168) _ ?_
        exact k)
      by_cases hc54 : (own_get vs33 (v36 + (1 : Int32))) = (0 : Int32)
      · exact ⟨j47, (by rw [if_neg hc50, if_pos hc54]), fun t k => pre53 t (by
          show Steps p.tables e below (T32.setTop (mkF m 169 #[.val (.int p0), .val (.int p1), .val (.int p2), .val (.int p3), .val (.ref b2), .val (.int v36), .val (.int v39), .val (.int j47), .unset] [(.int (own_get vs33 (v36 + (1 : Int32))))])) _
          refine XS.ifYes X32.here hx rfl (pc0 := 169) (pc' := 175) rfl (hb hby at_169) rfl ((if0 _ _).trans (teq hc54).1) (by decide) (by decide) ?_
          exact k)⟩
      · exact ⟨(2 : Int32), (by rw [if_neg hc50, if_neg hc54]), fun t k => pre53 t (by
          show Steps p.tables e below (T32.setTop (mkF m 169 #[.val (.int p0), .val (.int p1), .val (.int p2), .val (.int p3), .val (.ref b2), .val (.int v36), .val (.int v39), .val (.int j47), .unset] [(.int (own_get vs33 (v36 + (1 : Int32))))])) _
          refine XS.ifNo X32.here hx rfl (hb hby at_169) rfl ((if0 _ _).trans (feq hc54).1) ?_
          show Steps p.tables e below (T32.setTop (mkF m 172 #[.val (.int p0), .val (.int p1), .val (.int p2), .val (.int p3), .val (.ref b2), .val (.int v36), .val (.int v39), .val (.int j47), .unset] [])) _
          refine XS.iconst X32.here hx rfl (hb hby at_172) ?_
          show Steps p.tables e below (T32.setTop (mkF m 173 #[.val (.int p0), .val (.int p1), .val (.int p2), .val (.int p3), .val (.ref b2), .val (.int v36), .val (.int v39), .val (.int j47), .unset] [(.int (2 : Int32))])) _
          refine XS.istore X32.here hx rfl (hb hby at_173) rfl (l' := #[.val (.int p0), .val (.int p1), .val (.int p2), .val (.int p3), .val (.ref b2), .val (.int v36), .val (.int v39), .val (.int (2 : Int32)), .unset]) rfl ?_
          exact k)⟩
  have pre57 : ∀ t, Steps p.tables e below (T32.setTop (mkF m 178 #[.val (.int p0), .val (.int p1), .val (.int p2), .val (.int p3), .val (.ref b2), .val (.int v36), .val (.int v39), .val (.int j55), .unset] [(.int (3 : Int32)), (.int v39)])) t → Steps p.tables e below (s₁.setTop (entryFrame m #[(.int p0), (.int p1), (.int p2), (.int p3)] maxLocals)) t := fun t k => pre56 t (by
    show Steps p.tables e below (T32.setTop (mkF m 175 #[.val (.int p0), .val (.int p1), .val (.int p2), .val (.int p3), .val (.ref b2), .val (.int v36), .val (.int v39), .val (.int j55), .unset] [])) _
    refine XS.iload X32.here hx rfl (hb hby at_175) rfl ?_
    show Steps p.tables e below (T32.setTop (mkF m 177 #[.val (.int p0), .val (.int p1), .val (.int p2), .val (.int p3), .val (.ref b2), .val (.int v36), .val (.int v39), .val (.int j55), .unset] [(.int v39)])) _
    refine XS.iconst X32.here hx rfl (hb hby at_177) ?_
    exact k)
  obtain ⟨j63, hj63, pre64⟩ : ∃ (j63 : Int32), j63 = (if v39 < (3 : Int32) then j55 else (if (own_get vs33 (v36 + (2 : Int32))) = (0 : Int32) then j55 else (3 : Int32))) ∧ ∀ t, Steps p.tables e below (T32.setTop (mkF m 194 #[.val (.int p0), .val (.int p1), .val (.int p2), .val (.int p3), .val (.ref b2), .val (.int v36), .val (.int v39), .val (.int j63), .unset] [])) t → Steps p.tables e below (s₁.setTop (entryFrame m #[(.int p0), (.int p1), (.int p2), (.int p3)] maxLocals)) t := by
    by_cases hc58 : v39 < (3 : Int32)
    · exact ⟨j55, (by rw [if_pos hc58]), fun t k => pre57 t (by
        show Steps p.tables e below (T32.setTop (mkF m 178 #[.val (.int p0), .val (.int p1), .val (.int p2), .val (.int p3), .val (.ref b2), .val (.int v36), .val (.int v39), .val (.int j55), .unset] [(.int (3 : Int32)), (.int v39)])) _
        refine XS.icmpYes X32.here hx rfl (pc0 := 178) (pc' := 194) rfl (hb hby at_178) rfl (tlt hc58).1 (by decide) (by decide) ?_
        exact k)⟩
    · have pre59 : ∀ t, Steps p.tables e below (T32.setTop (mkF m 187 #[.val (.int p0), .val (.int p1), .val (.int p2), .val (.int p3), .val (.ref b2), .val (.int v36), .val (.int v39), .val (.int j55), .unset] [(.int (v36 + (2 : Int32))), (.ref b2)])) t → Steps p.tables e below (s₁.setTop (entryFrame m #[(.int p0), (.int p1), (.int p2), (.int p3)] maxLocals)) t := fun t k => pre57 t (by
        show Steps p.tables e below (T32.setTop (mkF m 178 #[.val (.int p0), .val (.int p1), .val (.int p2), .val (.int p3), .val (.ref b2), .val (.int v36), .val (.int v39), .val (.int j55), .unset] [(.int (3 : Int32)), (.int v39)])) _
        refine XS.icmpNo X32.here hx rfl (hb hby at_178) rfl (flt hc58).1 ?_
        show Steps p.tables e below (T32.setTop (mkF m 181 #[.val (.int p0), .val (.int p1), .val (.int p2), .val (.int p3), .val (.ref b2), .val (.int v36), .val (.int v39), .val (.int j55), .unset] [])) _
        refine XS.aload X32.here hx rfl (hb hby at_181) rfl rfl ?_
        show Steps p.tables e below (T32.setTop (mkF m 183 #[.val (.int p0), .val (.int p1), .val (.int p2), .val (.int p3), .val (.ref b2), .val (.int v36), .val (.int v39), .val (.int j55), .unset] [(.ref b2)])) _
        refine XS.iload X32.here hx rfl (hb hby at_183) rfl ?_
        show Steps p.tables e below (T32.setTop (mkF m 185 #[.val (.int p0), .val (.int p1), .val (.int p2), .val (.int p3), .val (.ref b2), .val (.int v36), .val (.int v39), .val (.int j55), .unset] [(.int v36), (.ref b2)])) _
        refine XS.iconst X32.here hx rfl (hb hby at_185) ?_
        show Steps p.tables e below (T32.setTop (mkF m 186 #[.val (.int p0), .val (.int p1), .val (.int p2), .val (.int p3), .val (.ref b2), .val (.int v36), .val (.int v39), .val (.int j55), .unset] [(.int (2 : Int32)), (.int v36), (.ref b2)])) _
        refine XS.iadd X32.here hx rfl (hb hby at_186) rfl ?_
        exact k)
      have kown_in0_187_1 : ¬ (v36 + (2 : Int32)) < 0 ∧ (v36 + (2 : Int32)) < (6 : Int32) := own_in0_187_1 p0 p1 p2 p3 j5 hj5 j10 hj10 j15 hj15 j20 hj20 j25 hj25 j30 hj30 vs33 hvs33 v36 hv36 v39 hv39 j47 hj47 j55 hj55 hc58
      obtain ⟨cl60, Ar60, q60, S60, M60, H60, G60⟩ := id V_b2_vs33
      have hin60 : ¬ ((v36 + (2 : Int32)) < 0 ∨ cl60.slots.size ≤ ((v36 + (2 : Int32))).toNatClampNeg) := inb_of S60 kown_in0_187_1
      have hat60 : cl60.slots[((v36 + (2 : Int32))).toNatClampNeg]? = some (.int (own_get vs33 (v36 + (2 : Int32)))) := H60.at hin60 (own_getD vs33 (v36 + (2 : Int32)))
      have pre61 : ∀ t, Steps p.tables e below (T32.setTop (mkF m 188 #[.val (.int p0), .val (.int p1), .val (.int p2), .val (.int p3), .val (.ref b2), .val (.int v36), .val (.int v39), .val (.int j55), .unset] [(.int (own_get vs33 (v36 + (2 : Int32))))])) t → Steps p.tables e below (s₁.setTop (entryFrame m #[(.int p0), (.int p1), (.int p2), (.int p3)] maxLocals)) t := fun t k => pre59 t (by
        show Steps p.tables e below (T32.setTop (mkF m 187 #[.val (.int p0), .val (.int p1), .val (.int p2), .val (.int p3), .val (.ref b2), .val (.int v36), .val (.int v39), .val (.int j55), .unset] [(.int (v36 + (2 : Int32))), (.ref b2)])) _
        refine X32.baloadBytes hx (j := (v36 + (2 : Int32))) (v := (.int (own_get vs33 (v36 + (2 : Int32))))) (by rw [e32]; exact Ar60.1) (State.isArrayOf_alike hZ.alike Ar60.2.1) Ar60.2.2 hin60 hat60 (g := (mkF m 187 #[.val (.int p0), .val (.int p1), .val (.int p2), .val (.int p3), .val (.ref b2), .val (.int v36), .val (.int v39), .val (.int j55), .unset] [(.int (v36 + (2 : Int32))), (.ref b2)])) rfl rfl (hb hby at_187) _ ?_
        exact k)
      by_cases hc62 : (own_get vs33 (v36 + (2 : Int32))) = (0 : Int32)
      · exact ⟨j55, (by rw [if_neg hc58, if_pos hc62]), fun t k => pre61 t (by
          show Steps p.tables e below (T32.setTop (mkF m 188 #[.val (.int p0), .val (.int p1), .val (.int p2), .val (.int p3), .val (.ref b2), .val (.int v36), .val (.int v39), .val (.int j55), .unset] [(.int (own_get vs33 (v36 + (2 : Int32))))])) _
          refine XS.ifYes X32.here hx rfl (pc0 := 188) (pc' := 194) rfl (hb hby at_188) rfl ((if0 _ _).trans (teq hc62).1) (by decide) (by decide) ?_
          exact k)⟩
      · exact ⟨(3 : Int32), (by rw [if_neg hc58, if_neg hc62]), fun t k => pre61 t (by
          show Steps p.tables e below (T32.setTop (mkF m 188 #[.val (.int p0), .val (.int p1), .val (.int p2), .val (.int p3), .val (.ref b2), .val (.int v36), .val (.int v39), .val (.int j55), .unset] [(.int (own_get vs33 (v36 + (2 : Int32))))])) _
          refine XS.ifNo X32.here hx rfl (hb hby at_188) rfl ((if0 _ _).trans (feq hc62).1) ?_
          show Steps p.tables e below (T32.setTop (mkF m 191 #[.val (.int p0), .val (.int p1), .val (.int p2), .val (.int p3), .val (.ref b2), .val (.int v36), .val (.int v39), .val (.int j55), .unset] [])) _
          refine XS.iconst X32.here hx rfl (hb hby at_191) ?_
          show Steps p.tables e below (T32.setTop (mkF m 192 #[.val (.int p0), .val (.int p1), .val (.int p2), .val (.int p3), .val (.ref b2), .val (.int v36), .val (.int v39), .val (.int j55), .unset] [(.int (3 : Int32))])) _
          refine XS.istore X32.here hx rfl (hb hby at_192) rfl (l' := #[.val (.int p0), .val (.int p1), .val (.int p2), .val (.int p3), .val (.ref b2), .val (.int v36), .val (.int v39), .val (.int (3 : Int32)), .unset]) rfl ?_
          exact k)⟩
  have pre65 : ∀ t, Steps p.tables e below (T32.setTop (mkF m 197 #[.val (.int p0), .val (.int p1), .val (.int p2), .val (.int p3), .val (.ref b2), .val (.int v36), .val (.int v39), .val (.int j63), .unset] [(.int (4 : Int32)), (.int v39)])) t → Steps p.tables e below (s₁.setTop (entryFrame m #[(.int p0), (.int p1), (.int p2), (.int p3)] maxLocals)) t := fun t k => pre64 t (by
    show Steps p.tables e below (T32.setTop (mkF m 194 #[.val (.int p0), .val (.int p1), .val (.int p2), .val (.int p3), .val (.ref b2), .val (.int v36), .val (.int v39), .val (.int j63), .unset] [])) _
    refine XS.iload X32.here hx rfl (hb hby at_194) rfl ?_
    show Steps p.tables e below (T32.setTop (mkF m 196 #[.val (.int p0), .val (.int p1), .val (.int p2), .val (.int p3), .val (.ref b2), .val (.int v36), .val (.int v39), .val (.int j63), .unset] [(.int v39)])) _
    refine XS.iconst X32.here hx rfl (hb hby at_196) ?_
    exact k)
  obtain ⟨j71, hj71, pre72⟩ : ∃ (j71 : Int32), j71 = (if v39 < (4 : Int32) then j63 else (if (own_get vs33 (v36 + (3 : Int32))) = (0 : Int32) then j63 else (4 : Int32))) ∧ ∀ t, Steps p.tables e below (T32.setTop (mkF m 213 #[.val (.int p0), .val (.int p1), .val (.int p2), .val (.int p3), .val (.ref b2), .val (.int v36), .val (.int v39), .val (.int j71), .unset] [])) t → Steps p.tables e below (s₁.setTop (entryFrame m #[(.int p0), (.int p1), (.int p2), (.int p3)] maxLocals)) t := by
    by_cases hc66 : v39 < (4 : Int32)
    · exact ⟨j63, (by rw [if_pos hc66]), fun t k => pre65 t (by
        show Steps p.tables e below (T32.setTop (mkF m 197 #[.val (.int p0), .val (.int p1), .val (.int p2), .val (.int p3), .val (.ref b2), .val (.int v36), .val (.int v39), .val (.int j63), .unset] [(.int (4 : Int32)), (.int v39)])) _
        refine XS.icmpYes X32.here hx rfl (pc0 := 197) (pc' := 213) rfl (hb hby at_197) rfl (tlt hc66).1 (by decide) (by decide) ?_
        exact k)⟩
    · have pre67 : ∀ t, Steps p.tables e below (T32.setTop (mkF m 206 #[.val (.int p0), .val (.int p1), .val (.int p2), .val (.int p3), .val (.ref b2), .val (.int v36), .val (.int v39), .val (.int j63), .unset] [(.int (v36 + (3 : Int32))), (.ref b2)])) t → Steps p.tables e below (s₁.setTop (entryFrame m #[(.int p0), (.int p1), (.int p2), (.int p3)] maxLocals)) t := fun t k => pre65 t (by
        show Steps p.tables e below (T32.setTop (mkF m 197 #[.val (.int p0), .val (.int p1), .val (.int p2), .val (.int p3), .val (.ref b2), .val (.int v36), .val (.int v39), .val (.int j63), .unset] [(.int (4 : Int32)), (.int v39)])) _
        refine XS.icmpNo X32.here hx rfl (hb hby at_197) rfl (flt hc66).1 ?_
        show Steps p.tables e below (T32.setTop (mkF m 200 #[.val (.int p0), .val (.int p1), .val (.int p2), .val (.int p3), .val (.ref b2), .val (.int v36), .val (.int v39), .val (.int j63), .unset] [])) _
        refine XS.aload X32.here hx rfl (hb hby at_200) rfl rfl ?_
        show Steps p.tables e below (T32.setTop (mkF m 202 #[.val (.int p0), .val (.int p1), .val (.int p2), .val (.int p3), .val (.ref b2), .val (.int v36), .val (.int v39), .val (.int j63), .unset] [(.ref b2)])) _
        refine XS.iload X32.here hx rfl (hb hby at_202) rfl ?_
        show Steps p.tables e below (T32.setTop (mkF m 204 #[.val (.int p0), .val (.int p1), .val (.int p2), .val (.int p3), .val (.ref b2), .val (.int v36), .val (.int v39), .val (.int j63), .unset] [(.int v36), (.ref b2)])) _
        refine XS.iconst X32.here hx rfl (hb hby at_204) ?_
        show Steps p.tables e below (T32.setTop (mkF m 205 #[.val (.int p0), .val (.int p1), .val (.int p2), .val (.int p3), .val (.ref b2), .val (.int v36), .val (.int v39), .val (.int j63), .unset] [(.int (3 : Int32)), (.int v36), (.ref b2)])) _
        refine XS.iadd X32.here hx rfl (hb hby at_205) rfl ?_
        exact k)
      have kown_in0_206_1 : ¬ (v36 + (3 : Int32)) < 0 ∧ (v36 + (3 : Int32)) < (6 : Int32) := own_in0_206_1 p0 p1 p2 p3 j5 hj5 j10 hj10 j15 hj15 j20 hj20 j25 hj25 j30 hj30 vs33 hvs33 v36 hv36 v39 hv39 j47 hj47 j55 hj55 j63 hj63 hc66
      obtain ⟨cl68, Ar68, q68, S68, M68, H68, G68⟩ := id V_b2_vs33
      have hin68 : ¬ ((v36 + (3 : Int32)) < 0 ∨ cl68.slots.size ≤ ((v36 + (3 : Int32))).toNatClampNeg) := inb_of S68 kown_in0_206_1
      have hat68 : cl68.slots[((v36 + (3 : Int32))).toNatClampNeg]? = some (.int (own_get vs33 (v36 + (3 : Int32)))) := H68.at hin68 (own_getD vs33 (v36 + (3 : Int32)))
      have pre69 : ∀ t, Steps p.tables e below (T32.setTop (mkF m 207 #[.val (.int p0), .val (.int p1), .val (.int p2), .val (.int p3), .val (.ref b2), .val (.int v36), .val (.int v39), .val (.int j63), .unset] [(.int (own_get vs33 (v36 + (3 : Int32))))])) t → Steps p.tables e below (s₁.setTop (entryFrame m #[(.int p0), (.int p1), (.int p2), (.int p3)] maxLocals)) t := fun t k => pre67 t (by
        show Steps p.tables e below (T32.setTop (mkF m 206 #[.val (.int p0), .val (.int p1), .val (.int p2), .val (.int p3), .val (.ref b2), .val (.int v36), .val (.int v39), .val (.int j63), .unset] [(.int (v36 + (3 : Int32))), (.ref b2)])) _
        refine X32.baloadBytes hx (j := (v36 + (3 : Int32))) (v := (.int (own_get vs33 (v36 + (3 : Int32))))) (by rw [e32]; exact Ar68.1) (State.isArrayOf_alike hZ.alike Ar68.2.1) Ar68.2.2 hin68 hat68 (g := (mkF m 206 #[.val (.int p0), .val (.int p1), .val (.int p2), .val (.int p3), .val (.ref b2), .val (.int v36), .val (.int v39), .val (.int j63), .unset] [(.int (v36 + (3 : Int32))), (.ref b2)])) rfl rfl (hb hby at_206) _ ?_
        exact k)
      by_cases hc70 : (own_get vs33 (v36 + (3 : Int32))) = (0 : Int32)
      · exact ⟨j63, (by rw [if_neg hc66, if_pos hc70]), fun t k => pre69 t (by
          show Steps p.tables e below (T32.setTop (mkF m 207 #[.val (.int p0), .val (.int p1), .val (.int p2), .val (.int p3), .val (.ref b2), .val (.int v36), .val (.int v39), .val (.int j63), .unset] [(.int (own_get vs33 (v36 + (3 : Int32))))])) _
          refine XS.ifYes X32.here hx rfl (pc0 := 207) (pc' := 213) rfl (hb hby at_207) rfl ((if0 _ _).trans (teq hc70).1) (by decide) (by decide) ?_
          exact k)⟩
      · exact ⟨(4 : Int32), (by rw [if_neg hc66, if_neg hc70]), fun t k => pre69 t (by
          show Steps p.tables e below (T32.setTop (mkF m 207 #[.val (.int p0), .val (.int p1), .val (.int p2), .val (.int p3), .val (.ref b2), .val (.int v36), .val (.int v39), .val (.int j63), .unset] [(.int (own_get vs33 (v36 + (3 : Int32))))])) _
          refine XS.ifNo X32.here hx rfl (hb hby at_207) rfl ((if0 _ _).trans (feq hc70).1) ?_
          show Steps p.tables e below (T32.setTop (mkF m 210 #[.val (.int p0), .val (.int p1), .val (.int p2), .val (.int p3), .val (.ref b2), .val (.int v36), .val (.int v39), .val (.int j63), .unset] [])) _
          refine XS.iconst X32.here hx rfl (hb hby at_210) ?_
          show Steps p.tables e below (T32.setTop (mkF m 211 #[.val (.int p0), .val (.int p1), .val (.int p2), .val (.int p3), .val (.ref b2), .val (.int v36), .val (.int v39), .val (.int j63), .unset] [(.int (4 : Int32))])) _
          refine XS.istore X32.here hx rfl (hb hby at_211) rfl (l' := #[.val (.int p0), .val (.int p1), .val (.int p2), .val (.int p3), .val (.ref b2), .val (.int v36), .val (.int v39), .val (.int (4 : Int32)), .unset]) rfl ?_
          exact k)⟩
  have pre73 : ∀ t, Steps p.tables e below (T32.setTop (mkF m 219 #[.val (.int p0), .val (.int p1), .val (.int p2), .val (.int p3), .val (.ref b2), .val (.int v36), .val (.int v39), .val (.int j71), .unset] [(.int v39), (.int v36), (.ref b2)])) t → Steps p.tables e below (s₁.setTop (entryFrame m #[(.int p0), (.int p1), (.int p2), (.int p3)] maxLocals)) t := fun t k => pre72 t (by
    show Steps p.tables e below (T32.setTop (mkF m 213 #[.val (.int p0), .val (.int p1), .val (.int p2), .val (.int p3), .val (.ref b2), .val (.int v36), .val (.int v39), .val (.int j71), .unset] [])) _
    refine XS.aload X32.here hx rfl (hb hby at_213) rfl rfl ?_
    show Steps p.tables e below (T32.setTop (mkF m 215 #[.val (.int p0), .val (.int p1), .val (.int p2), .val (.int p3), .val (.ref b2), .val (.int v36), .val (.int v39), .val (.int j71), .unset] [(.ref b2)])) _
    refine XS.iload X32.here hx rfl (hb hby at_215) rfl ?_
    show Steps p.tables e below (T32.setTop (mkF m 217 #[.val (.int p0), .val (.int p1), .val (.int p2), .val (.int p3), .val (.ref b2), .val (.int v36), .val (.int v39), .val (.int j71), .unset] [(.int v36), (.ref b2)])) _
    refine XS.iload X32.here hx rfl (hb hby at_217) rfl ?_
    exact k)
  have kown_pre1 : 0 ≤ (v36 : Int32).toInt ∧ v36.toInt ≤ 2 ∧ 0 ≤ v39.toInt ∧ v39.toInt ≤ 4 := own_pre1 p0 p1 p2 p3 j5 hj5 j10 hj10 j15 hj15 j20 hj20 j25 hj25 j30 hj30 vs33 hvs33 v36 hv36 v39 hv39 j47 hj47 j55 hj55 j63 hj63 j71 hj71
  obtain ⟨_, _, ⟨T74, L74, k74, n74⟩, -, X74, ⟨Lc74, hQ74, l74, y74, z74⟩, st74⟩ := Jvm.LawKit.callS X32 hx (y := (⟨"com/example/hyperslab/hyperslab/dataset/DataType", "textLength", "([BII)I"⟩ : MethodName)) hown (mvT hZ (hw _ (List.mem_of_getElem? (i := 2) rfl))) (mvT hZ (hw _ (List.mem_of_getElem? (i := 3) rfl))) (mvT hZ (hw _ (List.mem_of_getElem? (i := 4) rfl))) (mvT hZ (hw _ (List.mem_of_getElem? (i := 5) rfl))) (by decide) (backOf (W := 0) (rm1 l Z aw hw [] b2 v36 v39 k2 vs33 h32 n0 Z32 V_b2_vs33 kown_pre1) hZ (hw _ (List.mem_of_getElem? (i := 5) rfl)) (hw _ (List.mem_of_getElem? (i := 4) rfl)) (by decide) (by decide)) (g := (mkF m 219 #[.val (.int p0), .val (.int p1), .val (.int p2), .val (.int p3), .val (.ref b2), .val (.int v36), .val (.int v39), .val (.int j71), .unset] [(.int v39), (.int v36), (.ref b2)])) rfl (by rw [hml]; rfl) (argsL := [(.ref b2), (.int v36), (.int v39)]) (rest := []) (lenOf pd_0 rfl) rfl (by show 2 * 0 + _ ≤ _; exact Nat.le_of_eq rfl) (hb hby at_219) (fun _ _ => ⟨rfl, e32, (by decide : 1 + 0 ≤ _), (by decide : 6 + 0 ≤ _)⟩)
  dsimp only [Pt.U, Pt.locs, Pt.cells, Pt.slots] at X74 l74 y74 z74 st74 hQ74
  subst l74 y74 z74
  obtain ⟨rfl, N74q, e74⟩ := hQ74
  have N74 := Fr.app N32 N74q
  have pre75 : ∀ t, Steps p.tables e below (T74.setTop (mkF m 222 #[.val (.int p0), .val (.int p1), .val (.int p2), .val (.int p3), .val (.ref b2), .val (.int v36), .val (.int v39), .val (.int j71), .unset] [(.int (f1 v36 v39 vs33))])) t → Steps p.tables e below (s₁.setTop (entryFrame m #[(.int p0), (.int p1), (.int p2), (.int p3)] maxLocals)) t := fun t k => pre73 t (by
    show Steps p.tables e below (T32.setTop (mkF m 219 #[.val (.int p0), .val (.int p1), .val (.int p2), .val (.int p3), .val (.ref b2), .val (.int v36), .val (.int v39), .val (.int j71), .unset] [(.int v39), (.int v36), (.ref b2)])) _
    refine st74 _ ?_
    exact k)
  obtain ⟨v76, hv76⟩ : ∃ z : Int32, z = (f1 v36 v39 vs33) := ⟨_, rfl⟩
  have pre77 : ∀ t, Steps p.tables e below (T74.setTop (mkF m 222 #[.val (.int p0), .val (.int p1), .val (.int p2), .val (.int p3), .val (.ref b2), .val (.int v36), .val (.int v39), .val (.int j71), .unset] [(.int v76)])) t → Steps p.tables e below (s₁.setTop (entryFrame m #[(.int p0), (.int p1), (.int p2), (.int p3)] maxLocals)) t := fun t k => pre75 t (by rw [hv76] at k; exact k)
  have pre78 : ∀ t, Steps p.tables e below (T74.setTop (mkF m 228 #[.val (.int p0), .val (.int p1), .val (.int p2), .val (.int p3), .val (.ref b2), .val (.int v36), .val (.int v39), .val (.int j71), .val (.int v76)] [(.int j71), (.int v76)])) t → Steps p.tables e below (s₁.setTop (entryFrame m #[(.int p0), (.int p1), (.int p2), (.int p3)] maxLocals)) t := fun t k => pre77 t (by
    show Steps p.tables e below (T74.setTop (mkF m 222 #[.val (.int p0), .val (.int p1), .val (.int p2), .val (.int p3), .val (.ref b2), .val (.int v36), .val (.int v39), .val (.int j71), .unset] [(.int v76)])) _
    refine XS.istore X74.here hx rfl (hb hby at_222) rfl (l' := #[.val (.int p0), .val (.int p1), .val (.int p2), .val (.int p3), .val (.ref b2), .val (.int v36), .val (.int v39), .val (.int j71), .val (.int v76)]) rfl ?_
    show Steps p.tables e below (T74.setTop (mkF m 224 #[.val (.int p0), .val (.int p1), .val (.int p2), .val (.int p3), .val (.ref b2), .val (.int v36), .val (.int v39), .val (.int j71), .val (.int v76)] [])) _
    refine XS.iload X74.here hx rfl (hb hby at_224) rfl ?_
    show Steps p.tables e below (T74.setTop (mkF m 226 #[.val (.int p0), .val (.int p1), .val (.int p2), .val (.int p3), .val (.ref b2), .val (.int v36), .val (.int v39), .val (.int j71), .val (.int v76)] [(.int v76)])) _
    refine XS.iload X74.here hx rfl (hb hby at_226) rfl ?_
    exact k)
  obtain ⟨j80, hj80, pre81⟩ : ∃ (j80 : Int32), j80 = (if v76 = j71 then (1 : Int32) else (0 : Int32)) ∧ ∀ t, Steps p.tables e below (T74.setTop (mkF m 236 #[.val (.int p0), .val (.int p1), .val (.int p2), .val (.int p3), .val (.ref b2), .val (.int v36), .val (.int v39), .val (.int j71), .val (.int v76)] [(.int j80)])) t → Steps p.tables e below (s₁.setTop (entryFrame m #[(.int p0), (.int p1), (.int p2), (.int p3)] maxLocals)) t := by
    by_cases hc79 : v76 = j71
    · exact ⟨(1 : Int32), (by rw [if_pos hc79]), fun t k => pre78 t (by
        show Steps p.tables e below (T74.setTop (mkF m 228 #[.val (.int p0), .val (.int p1), .val (.int p2), .val (.int p3), .val (.ref b2), .val (.int v36), .val (.int v39), .val (.int j71), .val (.int v76)] [(.int j71), (.int v76)])) _
        refine XS.icmpNo X74.here hx rfl (hb hby at_228) rfl (teq hc79).2 ?_
        show Steps p.tables e below (T74.setTop (mkF m 231 #[.val (.int p0), .val (.int p1), .val (.int p2), .val (.int p3), .val (.ref b2), .val (.int v36), .val (.int v39), .val (.int j71), .val (.int v76)] [])) _
        refine XS.iconst X74.here hx rfl (hb hby at_231) ?_
        show Steps p.tables e below (T74.setTop (mkF m 232 #[.val (.int p0), .val (.int p1), .val (.int p2), .val (.int p3), .val (.ref b2), .val (.int v36), .val (.int v39), .val (.int j71), .val (.int v76)] [(.int (1 : Int32))])) _
        refine XS.goto X74.here hx rfl (pc0 := 232) (pc' := 236) rfl (hb hby at_232) (by decide) (by decide) ?_
        exact k)⟩
    · exact ⟨(0 : Int32), (by rw [if_neg hc79]), fun t k => pre78 t (by
        show Steps p.tables e below (T74.setTop (mkF m 228 #[.val (.int p0), .val (.int p1), .val (.int p2), .val (.int p3), .val (.ref b2), .val (.int v36), .val (.int v39), .val (.int j71), .val (.int v76)] [(.int j71), (.int v76)])) _
        refine XS.icmpYes X74.here hx rfl (pc0 := 228) (pc' := 235) rfl (hb hby at_228) rfl (feq hc79).2 (by decide) (by decide) ?_
        show Steps p.tables e below (T74.setTop (mkF m 235 #[.val (.int p0), .val (.int p1), .val (.int p2), .val (.int p3), .val (.ref b2), .val (.int v36), .val (.int v39), .val (.int j71), .val (.int v76)] [])) _
        refine XS.iconst X74.here hx rfl (hb hby at_235) ?_
        exact k)⟩
  obtain ⟨fs, hr, hrun, hended, hW, hsame⟩ := X74.leave (v := some (.int (nar .boolean j80))) (fun h => by rw [Bd.returns] at h; cases h)
  refine ⟨_, _, pre81 _ ?_, hrun, hended, _, _, rfl, ?_, ⟨_, rfl⟩, hW, hsame.mono (by decide) (by decide)⟩
  · show Steps p.tables e below (T74.setTop (mkF m 236 #[.val (.int p0), .val (.int p1), .val (.int p2), .val (.int p3), .val (.ref b2), .val (.int v36), .val (.int v39), .val (.int j71), .val (.int v76)] [(.int j80)])) _
    exact retN X74 hx (t := .boolean) Bd.returns (by simp) (hb hby at_236) hr
  · show Q0 Z p0 p1 p2 p3 h0 n0 _ T74.heap _
    rw [e74]
    have hv : (nar .boolean j80) = f0 p0 p1 p2 p3 := (by subst hj80 hv76 hj71 hj63 hj55 hj47 hv39 hv36 hvs33 hj30 hj25 hj20 hj15 hj10 hj5; rfl)
    exact ⟨congrArg (fun z => some (Value.int z)) (hv.trans hlaw), N74⟩
theorem own_fin (o n : Int32) (vs : List Int32) (ho : o = 0 ∨ o = 1 ∨ o = 2) (hn : n = 0 ∨ n = 1 ∨ n = 2 ∨ n = 3 ∨ n = 4) : f1 o n vs = (if n < (4 : Int32) then (if n < (3 : Int32) then (if n < (2 : Int32) then (if n < (1 : Int32) then (0 : Int32) else (if (own_get vs o) = (0 : Int32) then (0 : Int32) else (1 : Int32))) else (if (own_get vs (o + (1 : Int32))) = (0 : Int32) then (if n < (1 : Int32) then (0 : Int32) else (if (own_get vs o) = (0 : Int32) then (0 : Int32) else (1 : Int32))) else (2 : Int32))) else (if (own_get vs (o + (2 : Int32))) = (0 : Int32) then (if n < (2 : Int32) then (if n < (1 : Int32) then (0 : Int32) else (if (own_get vs o) = (0 : Int32) then (0 : Int32) else (1 : Int32))) else (if (own_get vs (o + (1 : Int32))) = (0 : Int32) then (if n < (1 : Int32) then (0 : Int32) else (if (own_get vs o) = (0 : Int32) then (0 : Int32) else (1 : Int32))) else (2 : Int32))) else (3 : Int32))) else (if (own_get vs (o + (3 : Int32))) = (0 : Int32) then (if n < (3 : Int32) then (if n < (2 : Int32) then (if n < (1 : Int32) then (0 : Int32) else (if (own_get vs o) = (0 : Int32) then (0 : Int32) else (1 : Int32))) else (if (own_get vs (o + (1 : Int32))) = (0 : Int32) then (if n < (1 : Int32) then (0 : Int32) else (if (own_get vs o) = (0 : Int32) then (0 : Int32) else (1 : Int32))) else (2 : Int32))) else (if (own_get vs (o + (2 : Int32))) = (0 : Int32) then (if n < (2 : Int32) then (if n < (1 : Int32) then (0 : Int32) else (if (own_get vs o) = (0 : Int32) then (0 : Int32) else (1 : Int32))) else (if (own_get vs (o + (1 : Int32))) = (0 : Int32) then (if n < (1 : Int32) then (0 : Int32) else (if (own_get vs o) = (0 : Int32) then (0 : Int32) else (1 : Int32))) else (2 : Int32))) else (3 : Int32))) else (4 : Int32))) := by
  unfold f1
  dsimp only
  generalize own_get vs = g
  rcases ho with rfl | rfl | rfl <;> rcases hn with rfl | rfl | rfl | rfl | rfl <;> simp <;> (repeat' split) <;> first | rfl | (simp_all; done)
theorem own_law (p0 p1 p2 p3 : Int32) : f0 p0 p1 p2 p3 = 1 := by
  obtain ⟨a1, a2, a3, a4⟩ := own_pre1 p0 p1 p2 p3 _ rfl _ rfl _ rfl _ rfl _ rfl _ rfl _ rfl _ rfl _ rfl _ rfl _ rfl _ rfl _ rfl
  unfold f0
  dsimp only
  generalize (p3 &&& (2147483647 : Int32)) % (3 : Int32) = o at *
  generalize (((p3.toUInt32 >>> ((8 : Int32) &&& 31).toUInt32).toInt32) &&& (2147483647 : Int32)) % (5 : Int32) = n at *
  have h0 : (0 : Int32).toInt = 0 := by decide
  have h1 : (1 : Int32).toInt = 1 := by decide
  have h2 : (2 : Int32).toInt = 2 := by decide
  have h3 : (3 : Int32).toInt = 3 := by decide
  have h4 : (4 : Int32).toInt = 4 := by decide
  have ho : o = 0 ∨ o = 1 ∨ o = 2 := by simp only [← Int32.toInt_inj, h0, h1, h2]; omega
  have hn : n = 0 ∨ n = 1 ∨ n = 2 ∨ n = 3 ∨ n = 4 := by simp only [← Int32.toInt_inj, h0, h1, h2, h3, h4]; omega
  rw [if_pos (own_fin o n _ ho hn)]
  rfl

set_option maxRecDepth 65536 in
set_option maxHeartbeats 40000000 in
theorem comes_1 {Post : Tables → Env → Array Value → State → Outcome → State → Prop} (hpost : ∀ tb e args s v u, (limb_1_1.after args s (.returned v) u = true ∧ limb_1_2.after args s (.returned v) u = true ∧ True) → FrameEnd s (.returned v) u (Jvm.fieldLocs frame_1_writes args s ++ Jvm.arrayLocs frame_1_arrays args s ++ Jvm.staticLocs frame_1_statics s) 16 128 → Post tb e args s (.returned v) u) :
    ArmFor flags0 classFile x code maxLocals ret World_1 tables_1 room_1 Calls_1 rest_1 Pre_1 Post := by
  intro l hfl _ _ p e ha hc hk s m args below hf hA hF happ hP
  obtain ⟨hcalls, hrest, hpre⟩ := hP
  obtain ⟨-, -, -, hnamed, -, -, -, hat⟩ := (Spec.applies_iff hf).mp happ
  obtain ⟨hg, hn⟩ := and_e (Cond.before_iff.mp (show (Jvm.Cond.and given_1 narrow_1).before args s = true from hpre))
  obtain ⟨g1, g2⟩ := and_e hg
  obtain ⟨g3, g4⟩ := and_e g2
  obtain ⟨g5, g6⟩ := and_e g4
  obtain ⟨g7, g8⟩ := and_e g6
  obtain ⟨w0, w1, w2, w3, rfl⟩ : ∃ w0 w1 w2 w3 : Value, args = #[w0, w1, w2, w3] := by
    have hs : args.size = 4 := by simpa [Cond.value, given_1] using g1
    obtain ⟨L⟩ := args
    match L, hs with
    | [w0, w1, w2, w3], _ => exact ⟨w0, w1, w2, w3, rfl⟩
  have hw := fun d (hd : d ∈ tables_1) => atoms_spec (ws := Jvm.Cond.code x code maxLocals ret :: tables_1) hat d (List.mem_cons_of_mem _ hd)
  have hfit : Fit s := fun {y c} hc i hi => by
    obtain ⟨ha, rfl⟩ := Array.getElem?_eq_some_iff.mp hc
    have q := List.all_eq_true.mp ((Array.all_eq_true_iff_forall_mem.mp hF) _ (Array.getElem_mem ha)) i (List.mem_range.mpr hi)
    simpa [Array.getElem?_eq_getElem hi] using q
  obtain ⟨i0, ei0⟩ := is_v g3
  obtain rfl : w0 = (.int i0) := Option.some.inj ei0
  obtain ⟨i1, ei1⟩ := is_v g5
  obtain rfl : w1 = (.int i1) := Option.some.inj ei1
  obtain ⟨i2, ei2⟩ := is_v g7
  obtain rfl : w2 = (.int i2) := Option.some.inj ei2
  obtain ⟨i3, ei3⟩ := is_v g8
  obtain rfl : w3 = (.int i3) := Option.some.inj ei3
  obtain ⟨n, o, h1, h2, h3, _, L, rfl, ⟨rfl, N⟩, hq⟩ := rm0 l s _ hw tables_1 i0 i1 i2 i3 s.heap s.heap.size (Nat.le_refl _) (own_law i0 i1 i2 i3) p e ha hc hk s m _ below hf ((Spec.applies_iff_loose hf).mp happ).1 ⟨rfl, State.Warmed39.refl s, rfl⟩ trivial
  refine ⟨n, _, h1, h2, h3, hpost _ _ _ _ _ _ ⟨Cond.after_iff.mpr rfl, Cond.after_iff.mpr (eq_i res_at (Term.int_eval (1)) rfl), trivial⟩ ⟨hq.1, hq.2.1, (hq.2.2.sift fun y hy => Or.inr (N y hy)).mono (by decide) (by decide)⟩⟩
theorem main_1_1 : Claimed_1_1 := comes_1 fun _ _ _ _ _ _ h hF => ⟨h.1, hF⟩
theorem main_1_2 : Claimed_1_2 := comes_1 fun _ _ _ _ _ _ h hF => ⟨h.2.1, hF⟩
end Jvm.Pilot.@@N@@
namespace Jvm.Pilot.@@N@@
open Jvm Jvm.ClassFile Sem Op Lib Jvm.Free Jvm.Stand Jvm.Pilot.@@N@@.Jvm.D
/-! MADE BY PROGRAM (witnessworld.py) out of the Statement's table words and the real class files: 12 classes; the members and pool entries that the words name. The judged class is class 1, her method 1. -/
namespace start1
open Jvm.ClassFile
def u (s : String) : CpInfo := .utf8 (stringToUtf16 s)
/-- a pool by its gaps: so many unusable entries, then the entry; so many at the end -/
def gap : Nat → List CpInfo → List CpInfo
  | 0, r => r
  | n + 1, r => .unusable :: gap n r
def poolList (es : List (Nat × CpInfo)) (last : Nat) : List CpInfo := es.foldr (fun e r => gap e.1 (e.2 :: r)) (gap last [])
def pool (es : List (Nat × CpInfo)) (last : Nat) : Array CpInfo := ⟨poolList es last⟩
def fileOf (pool : Array CpInfo) (this : Nat) (attrs : Array Attribute := #[]) (ms : Array MethodInfo := #[]) (fl : Nat := 33) (sup : Nat := 0) (ifs : Array Nat := #[]) (fds : Array FieldInfo := #[]) : ClassFile where
  minorVersion := 0
  majorVersion := 65
  constantPool := pool
  accessFlags := fl
  thisClass := this
  superClass := sup
  interfaces := ifs
  fields := fds
  methods := ms
  attributes := attrs
def plain (name : String) (sup : Option ClassId) : Class where
  name := name
  kind := .ordinary
  loader := none
  accessFlags := 33
  super := sup
  interfaces := #[]
  cf := none
  fields := #[]
  methods := #[]
  instanceTypes := #[]
  staticTypes := #[]
  resolved := #[]
  callSites := []
  init := .initialized
  statics := none
  mirror := none

def pool0 : Array CpInfo := pool [(5, u "<init>"), (0, u "()V"), (1, .class_ 10), (1, u "java/lang/Object")] 113

def k0m0 : Method := { name := "<init>", desc := "()V", sig := { parameters := [], returnType := none }, accessFlags := 1, code := none }
/-- java/lang/Object -/
def k0 : Class := { plain "java/lang/Object" none with
  accessFlags := 33
  interfaces := #[]
  cf := some (fileOf pool0 8 #[] #[{ accessFlags := 1, nameIndex := 5, descriptorIndex := 6, attributes := #[] }] 33 0 #[] #[])
  fields := #[]
  methods := #[k0m0]
  instanceTypes := #[]
  staticTypes := #[]
  resolved := Array.replicate 124 none
  statics := none }

def pool1 : Array CpInfo := pool [(2, .class_ 4), (1, u "java/lang/Object"), (0, u "<init>"), (0, u "()V"), (0, .integer 2147483647), (0, .methodref 9 10), (0, .class_ 11), (0, .nameAndType 12 13), (0, u "com/example/hyperslab/hyperslab/dataset/DataType"), (0, u "textLength"), (0, u "([BII)I"), (0, .class_ 15), (0, u "com/example/hyperslab/hyperslab/dataset/DataTypeTextLengthPinLaw"), (2, u "law"), (0, u "(IIII)Z")] 5

def k1m0 : Method := { name := "<init>", desc := "()V", sig := { parameters := [], returnType := none }, accessFlags := 1, code := none }
def k1c1 : Code := { maxStack := 4, maxLocals := 9, code := code, exceptionTable := #[], attributes := #[] }
def k1m1 : Method := { name := "law", desc := "(IIII)Z", sig := { parameters := [.int, .int, .int, .int], returnType := some .boolean }, accessFlags := 9, code := some k1c1 }
/-- com/example/hyperslab/hyperslab/dataset/DataTypeTextLengthPinLaw -/
def k1 : Class := { plain "com/example/hyperslab/hyperslab/dataset/DataTypeTextLengthPinLaw" (some 0) with
  accessFlags := 49
  interfaces := #[]
  cf := some (fileOf pool1 14 #[] #[{ accessFlags := 1, nameIndex := 5, descriptorIndex := 6, attributes := #[] }, { accessFlags := 9, nameIndex := 18, descriptorIndex := 19, attributes := #[] }] 49 2 #[] #[])
  fields := #[]
  methods := #[k1m0, k1m1]
  instanceTypes := #[]
  staticTypes := #[]
  resolved := Array.replicate 25 none
  statics := none }

def pool2 : Array CpInfo := pool [(1, .class_ 2), (0, u "java/lang/constant/Constable"), (0, .class_ 4), (0, u "java/lang/Object")] 6

/-- java/lang/constant/Constable -/
def k2 : Class := { plain "java/lang/constant/Constable" (some 0) with
  accessFlags := 1537
  interfaces := #[]
  cf := some (fileOf pool2 1 #[] #[] 1537 3 #[] #[])
  fields := #[]
  methods := #[]
  instanceTypes := #[]
  staticTypes := #[]
  resolved := Array.replicate 11 none
  statics := none }

def pool3 : Array CpInfo := pool [(1, .class_ 2), (0, u "java/lang/Comparable"), (0, .class_ 4), (0, u "java/lang/Object")] 7

/-- java/lang/Comparable -/
def k3 : Class := { plain "java/lang/Comparable" (some 0) with
  accessFlags := 1537
  interfaces := #[]
  cf := some (fileOf pool3 1 #[] #[] 1537 3 #[] #[])
  fields := #[]
  methods := #[]
  instanceTypes := #[]
  staticTypes := #[]
  resolved := Array.replicate 12 none
  statics := none }

def pool4 : Array CpInfo := pool [(1, .class_ 2), (0, u "java/io/Serializable"), (0, .class_ 4), (0, u "java/lang/Object")] 2

/-- java/io/Serializable -/
def k4 : Class := { plain "java/io/Serializable" (some 0) with
  accessFlags := 1537
  interfaces := #[]
  cf := some (fileOf pool4 1 #[] #[] 1537 3 #[] #[])
  fields := #[]
  methods := #[]
  instanceTypes := #[]
  staticTypes := #[]
  resolved := Array.replicate 7 none
  statics := none }

def pool5 : Array CpInfo := pool [(2, .class_ 4), (1, u "java/lang/Enum"), (0, u "name"), (0, u "Ljava/lang/String;"), (2, u "ordinal"), (0, u "I"), (1, .class_ 14), (1, u "java/lang/Object"), (4, u "hash"), (86, .class_ 108), (1, u "java/lang/Enum$EnumDesc"), (2, .class_ 112), (0, u "java/lang/constant/Constable"), (0, .class_ 114), (0, u "java/lang/Comparable"), (0, .class_ 116), (0, u "java/io/Serializable")] 87

/-- java/lang/Enum -/
def k5 : Class := { plain "java/lang/Enum" (some 0) with
  accessFlags := 1057
  interfaces := #[2, 3, 4]
  cf := some (fileOf pool5 2 #[.nestMembers #[106]] #[] 1057 12 #[111, 113, 115] #[{ accessFlags := 18, nameIndex := 5, descriptorIndex := 6, attributes := #[] }, { accessFlags := 18, nameIndex := 9, descriptorIndex := 10, attributes := #[] }, { accessFlags := 2, nameIndex := 19, descriptorIndex := 10, attributes := #[] }])
  fields := #[{ name := "name", type := (.object "java/lang/String"), accessFlags := 18, slot := 0, constantValue := 0 }, { name := "ordinal", type := .int, accessFlags := 18, slot := 1, constantValue := 0 }, { name := "hash", type := .int, accessFlags := 2, slot := 2, constantValue := 0 }]
  methods := #[]
  instanceTypes := #[(.object "java/lang/String"), .int, .int]
  staticTypes := #[]
  resolved := Array.replicate 204 none
  statics := none }

def pool6 : Array CpInfo := pool [(1, .class_ 2), (0, u "com/example/hyperslab/hyperslab/dataset/DataType"), (2, u "BYTE"), (0, u "Lcom/example/hyperslab/hyperslab/dataset/DataType;"), (2, u "CHAR"), (2, u "SHORT"), (2, u "INT"), (2, u "FLOAT"), (2, u "DOUBLE"), (2, u "UBYTE"), (2, u "USHORT"), (2, u "UINT"), (2, u "INT64"), (2, u "UINT64"), (2, u "STRING"), (2, u "$VALUES"), (0, u "[Lcom/example/hyperslab/hyperslab/dataset/DataType;"), (6, .class_ 52), (1, u "java/lang/Enum"), (8, u "mSize"), (0, u "I"), (2, u "mUnsigned"), (0, u "Z"), (30, u "textLength"), (0, u "([BII)I")] 6

def k6c0 : Code := { maxStack := 3, maxLocals := 4, code := prog_27_method_6_code, exceptionTable := #[], attributes := #[] }
def k6m0 : Method := { name := "textLength", desc := "([BII)I", sig := { parameters := [(.array .byte), .int, .int], returnType := some .int }, accessFlags := 9, code := some k6c0 }
/-- com/example/hyperslab/hyperslab/dataset/DataType -/
def k6 : Class := { plain "com/example/hyperslab/hyperslab/dataset/DataType" (some 5) with
  accessFlags := 16433
  interfaces := #[]
  cf := some (fileOf pool6 1 #[] #[{ accessFlags := 9, nameIndex := 97, descriptorIndex := 98, attributes := #[] }] 16433 50 #[] #[{ accessFlags := 16409, nameIndex := 5, descriptorIndex := 6, attributes := #[] }, { accessFlags := 16409, nameIndex := 9, descriptorIndex := 6, attributes := #[] }, { accessFlags := 16409, nameIndex := 12, descriptorIndex := 6, attributes := #[] }, { accessFlags := 16409, nameIndex := 15, descriptorIndex := 6, attributes := #[] }, { accessFlags := 16409, nameIndex := 18, descriptorIndex := 6, attributes := #[] }, { accessFlags := 16409, nameIndex := 21, descriptorIndex := 6, attributes := #[] }, { accessFlags := 16409, nameIndex := 24, descriptorIndex := 6, attributes := #[] }, { accessFlags := 16409, nameIndex := 27, descriptorIndex := 6, attributes := #[] }, { accessFlags := 16409, nameIndex := 30, descriptorIndex := 6, attributes := #[] }, { accessFlags := 16409, nameIndex := 33, descriptorIndex := 6, attributes := #[] }, { accessFlags := 16409, nameIndex := 36, descriptorIndex := 6, attributes := #[] }, { accessFlags := 16409, nameIndex := 39, descriptorIndex := 6, attributes := #[] }, { accessFlags := 18, nameIndex := 61, descriptorIndex := 62, attributes := #[] }, { accessFlags := 18, nameIndex := 65, descriptorIndex := 66, attributes := #[] }, { accessFlags := 4122, nameIndex := 42, descriptorIndex := 43, attributes := #[] }])
  fields := #[{ name := "BYTE", type := (.object "com/example/hyperslab/hyperslab/dataset/DataType"), accessFlags := 16409, slot := 0, constantValue := 0 }, { name := "CHAR", type := (.object "com/example/hyperslab/hyperslab/dataset/DataType"), accessFlags := 16409, slot := 1, constantValue := 0 }, { name := "SHORT", type := (.object "com/example/hyperslab/hyperslab/dataset/DataType"), accessFlags := 16409, slot := 2, constantValue := 0 }, { name := "INT", type := (.object "com/example/hyperslab/hyperslab/dataset/DataType"), accessFlags := 16409, slot := 3, constantValue := 0 }, { name := "FLOAT", type := (.object "com/example/hyperslab/hyperslab/dataset/DataType"), accessFlags := 16409, slot := 4, constantValue := 0 }, { name := "DOUBLE", type := (.object "com/example/hyperslab/hyperslab/dataset/DataType"), accessFlags := 16409, slot := 5, constantValue := 0 }, { name := "UBYTE", type := (.object "com/example/hyperslab/hyperslab/dataset/DataType"), accessFlags := 16409, slot := 6, constantValue := 0 }, { name := "USHORT", type := (.object "com/example/hyperslab/hyperslab/dataset/DataType"), accessFlags := 16409, slot := 7, constantValue := 0 }, { name := "UINT", type := (.object "com/example/hyperslab/hyperslab/dataset/DataType"), accessFlags := 16409, slot := 8, constantValue := 0 }, { name := "INT64", type := (.object "com/example/hyperslab/hyperslab/dataset/DataType"), accessFlags := 16409, slot := 9, constantValue := 0 }, { name := "UINT64", type := (.object "com/example/hyperslab/hyperslab/dataset/DataType"), accessFlags := 16409, slot := 10, constantValue := 0 }, { name := "STRING", type := (.object "com/example/hyperslab/hyperslab/dataset/DataType"), accessFlags := 16409, slot := 11, constantValue := 0 }, { name := "mSize", type := .int, accessFlags := 18, slot := 3, constantValue := 0 }, { name := "mUnsigned", type := .boolean, accessFlags := 18, slot := 4, constantValue := 0 }, { name := "$VALUES", type := (.array (.object "com/example/hyperslab/hyperslab/dataset/DataType")), accessFlags := 4122, slot := 12, constantValue := 0 }]
  methods := #[k6m0]
  instanceTypes := #[(.object "java/lang/String"), .int, .int, .int, .boolean]
  staticTypes := #[(.object "com/example/hyperslab/hyperslab/dataset/DataType"), (.object "com/example/hyperslab/hyperslab/dataset/DataType"), (.object "com/example/hyperslab/hyperslab/dataset/DataType"), (.object "com/example/hyperslab/hyperslab/dataset/DataType"), (.object "com/example/hyperslab/hyperslab/dataset/DataType"), (.object "com/example/hyperslab/hyperslab/dataset/DataType"), (.object "com/example/hyperslab/hyperslab/dataset/DataType"), (.object "com/example/hyperslab/hyperslab/dataset/DataType"), (.object "com/example/hyperslab/hyperslab/dataset/DataType"), (.object "com/example/hyperslab/hyperslab/dataset/DataType"), (.object "com/example/hyperslab/hyperslab/dataset/DataType"), (.object "com/example/hyperslab/hyperslab/dataset/DataType"), (.array (.object "com/example/hyperslab/hyperslab/dataset/DataType"))]
  resolved := Array.replicate 105 none
  statics := none }

def pool7 : Array CpInfo := pool [(1, u "java/lang/Cloneable"), (0, .class_ 1), (0, u "java/lang/Object"), (0, .class_ 3)] 3

/-- java/lang/Cloneable -/
def k7 : Class := { plain "java/lang/Cloneable" (some 0) with
  accessFlags := 1537
  interfaces := #[]
  cf := some (fileOf pool7 2 #[] #[] 1537 4 #[] #[])
  fields := #[]
  methods := #[]
  instanceTypes := #[]
  staticTypes := #[]
  resolved := Array.replicate 8 none
  statics := none }

/-- the primitive byte -/
def k8 : Class := { plain "byte" none with kind := .primitive 'B', accessFlags := 0x411 }
/-- [B -/
def k9 : Class := { plain "[B" (some 0) with kind := .array 8 .byte, interfaces := #[7, 4], accessFlags := 1041 }

/-- the primitive int -/
def k10 : Class := { plain "int" none with kind := .primitive 'I', accessFlags := 0x411 }
/-- [I -/
def k11 : Class := { plain "[I" (some 0) with kind := .array 10 .int, interfaces := #[7, 4], accessFlags := 1041 }

def heap : Heap := #[]
def classes : Array Class := #[k0, k1, k2, k3, k4, k5, k6, k7, k8, k9, k10, k11]
def interned : List (Array UInt16 × Addr) := []
def slotsUsed : Nat := 0
def theMethod : MethodId := ⟨1, 1⟩
def args0 : Array Value := #[.int 5, .int 3, .int 3, .int 1025]
def aboutOver (below : List Frame) : State where
  vm := { classes := classes, interned := interned.toArray }
  heap := heap
  slotsUsed := slotsUsed
  threads := #[{ frames := .invoking theMethod args0 :: below }]
def below0 : List Frame := [.native { method := ⟨0, 0⟩, args := #[] }]
def about1 : State := aboutOver below0
def p0 : Program := .bare "" "" ""
def e0 : Env := launch0.env 0 0 0
theorem w_frames : about1.frames = Frame.invoking theMethod args0 :: below0 := rfl
set_option maxRecDepth 65536 in
theorem w_args : argsFit about1.vm theMethod args0 = true := by decide +kernel
set_option maxRecDepth 65536 in
theorem w_heap : heapFits about1 = true := by decide +kernel
set_option maxRecDepth 65536 in
theorem w_runnable : about1.curStatus? = some .runnable := by decide +kernel
set_option maxRecDepth 65536 in
theorem w_alone : about1.alone = true := by decide +kernel
set_option maxRecDepth 65536 in
theorem w_named : about1.methodNamed? x = some theMethod := by decide +kernel
set_option maxRecDepth 65536 in
theorem w_hears : about1.hears theMethod below0 = true := by decide +kernel
set_option maxRecDepth 65536 in
theorem w_ripe : about1.ripe theMethod args0 below0 = true := by decide +kernel
theorem w_running : about1.status = .running := rfl
set_option maxRecDepth 65536 in
theorem w_room : about1.hasRoom e0.platform room_1 = true :=
  launch0.hasRoom_least _ room_1 (by decide +kernel) (by decide +kernel) (by decide +kernel) (by decide +kernel) (by decide +kernel) (by decide +kernel)
theorem allAtoms_all (ts : List Jvm.Cond) (a : Array Jvm.Value) (st : Jvm.State) : (allAtoms ts).before a st = ts.all (fun c => c.before a st) := by
  induction ts with
  | nil => rfl
  | cons c t ih =>
    show (Jvm.Cond.and c (allAtoms t)).before a st = _
    rw [Jvm.Cond.before_and, ih, List.all_cons]
def words1 : List Jvm.Cond := Jvm.Cond.code x code maxLocals ret :: tables_1
/-- a 'code' word, met by the world's own term for the bytes: nothing is compared byte by byte -/
theorem code_word {y : MethodName} {bytes : ByteArray} {mx : Nat} {rt : Option FieldType} {a : Array Value} {s : State} {m : MethodId} {meth : Method} {c : Code} (h1 : s.methodNamed? y = some m) (h2 : s.vm.method? m = some meth) (h3 : meth.code = some c) (h4 : c.code = bytes)
    (h5 : (c.maxLocals == mx && c.exceptionTable.isEmpty && decide (c.maxStack ≤ mostOperands) && decide (meth.sig.returnType = rt) && !meth.locks && decide (parseMethodDescriptor y.desc = some meth.sig)) = true) : (Jvm.Cond.code y bytes mx rt).before a s = true := by
  simp only [Bool.and_eq_true, beq_iff_eq, Bool.not_eq_true', decide_eq_true_eq] at h5
  obtain ⟨⟨⟨⟨⟨g1, g2⟩, g3⟩, g4⟩, g5⟩, g6⟩ := h5
  simp [Cond.before, Cond.holds, Cond.value, h1, h2, h3, h4, g1, g2, g3, g4, g5, g6]
def isCode : Jvm.Cond → Bool
  | .code _ _ _ _ => true
  | _ => false
theorem all_split {L : List Jvm.Cond} {P : Jvm.Cond → Bool} (h1 : L.all (fun c => isCode c || P c) = true) (h2 : ∀ c ∈ L.filter isCode, P c = true) : L.all P = true := by
  refine List.all_eq_true.mpr fun c hc => ?_
  have h := List.all_eq_true.mp h1 c hc
  rcases Bool.eq_false_or_eq_true (isCode c) with hi | hi
  · exact h2 c (List.mem_filter.mpr ⟨hc, hi⟩)
  · simpa [hi] using h
set_option maxRecDepth 65536 in
theorem w_c0 : (Jvm.Cond.code x code maxLocals ret).before args0 about1 = true := code_word (m := ⟨1, 1⟩) (meth := k1m1) (c := k1c1) (by decide +kernel) rfl rfl rfl (by decide +kernel)
set_option maxRecDepth 65536 in
theorem w_c1 : (Jvm.Cond.code ({ cls := "com/example/hyperslab/hyperslab/dataset/DataType", name := "textLength", desc := "([BII)I" } : Jvm.MethodName) prog_27_method_6_code (4 : Nat) (Option.some Jvm.ClassFile.FieldType.int)).before args0 about1 = true := code_word (m := ⟨6, 0⟩) (meth := k6m0) (c := k6c0) (by decide +kernel) rfl rfl rfl (by decide +kernel)
def codes1 : List Jvm.Cond := [Jvm.Cond.code x code maxLocals ret, Jvm.Cond.code ({ cls := "com/example/hyperslab/hyperslab/dataset/DataType", name := "textLength", desc := "([BII)I" } : Jvm.MethodName) prog_27_method_6_code (4 : Nat) (Option.some Jvm.ClassFile.FieldType.int)]
set_option maxRecDepth 65536 in
theorem codes_eq : words1.filter isCode = codes1 := rfl
theorem w_codes : ∀ c ∈ words1.filter isCode, c.before args0 about1 = true := by
  rw [codes_eq]
  intro c hc
  simp only [codes1, List.mem_cons, List.not_mem_nil, or_false] at hc
  rcases hc with rfl | rfl
  · exact w_c0
  · exact w_c1
set_option maxRecDepth 65536 in
theorem w_t1 : words1.all (fun c => isCode c || c.before args0 about1) = true := by decide +kernel
theorem w_tables : (allAtoms (Jvm.Cond.code x code maxLocals ret :: tables_1)).before args0 about1 = true := by
  rw [allAtoms_all]
  show words1.all (fun c => c.before args0 about1) = true
  refine all_split ?_ w_codes
  rw [w_t1]
set_option maxRecDepth 65536 in
theorem w_case : (Jvm.Cond.and given_1 narrow_1).before args0 about1 = true := by decide +kernel
theorem w_applies : (headSpec (Jvm.Cond.code x code maxLocals ret :: tables_1) room_1).applies x e0.platform about1 = true :=
  (Spec.applies_iff w_frames).mpr ⟨w_running, w_runnable, w_alone, w_named, w_hears, w_ripe, w_room, w_tables⟩
theorem atStart : AtStart classFile x code maxLocals ret World_1 tables_1 room_1 Calls_1 rest_1 Pre_1 launch0 p0 e0 about1 theMethod args0 below0 :=
  ⟨lists_1, trivial, launch0.admits_env _ _ _, launch0.least_env, fairChoices_fair.cas, fairChoices_fair.clock, w_frames, w_args, w_heap, w_applies, trivial, trivial, w_case⟩
end start1
theorem witness_1 : WitnessClaimed_1 := ⟨start1.p0, start1.e0, start1.about1, start1.theMethod, start1.args0, start1.below0, start1.atStart⟩
end Jvm.Pilot.@@N@@
